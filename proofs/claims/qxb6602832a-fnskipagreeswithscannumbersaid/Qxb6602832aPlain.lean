/-
  The plain law for seat Qxb6602832a: where a JSON value ends, over the bytes 'g 0', 'g 1', .. of a slice of 'n' bytes; no Go in sight.
  Each function takes what is left (its fuel), the place, and its state; it answers the place at which it ends.
-/
namespace Go.Proofs.Qxb6602832a.Js

/-- inside a string: is the byte at hand escaped? -/
def ss (g : Nat → Int) : Nat → Nat → Bool → Nat
  | 0, p, _ => p
  | r + 1, p, e => if e = true then ss g r (p + 1) false else if g p = 92 then ss g r (p + 1) true else if g p = 34 then p + 1 else ss g r (p + 1) false

/-- the one-pass automaton: the depth, in a string, escaped -/
def md (g : Nat → Int) : Nat → Nat → Nat → Bool → Bool → Nat
  | 0, p, _, _, _ => p
  | r + 1, p, d, q, e =>
    if q = true then
      if e = true then md g r (p + 1) d true false
      else if g p = 92 then md g r (p + 1) d true true
      else if g p = 34 then (if d = 0 then p + 1 else md g r (p + 1) d false false)
      else md g r (p + 1) d true false
    else if g p = 34 then md g r (p + 1) d true false
    else if g p = 91 ∨ g p = 123 then md g r (p + 1) (d + 1) false false
    else if g p = 93 ∨ g p = 125 then (if d = 1 then p + 1 else md g r (p + 1) (d - 1) false false)
    else md g r (p + 1) d false false

def stop (c : Int) : Bool := c == 44 || c == 93 || c == 125 || c == 32 || c == 9 || c == 10 || c == 13
def sc (g : Nat → Int) : Nat → Nat → Nat
  | 0, p => p
  | r + 1, p => if stop (g p) = true then p else sc g r (p + 1)

def opens (c : Int) : Bool := c == 34 || c == 91 || c == 123
def skp (g : Nat → Int) (n i : Nat) : Nat :=
  if n ≤ i then n else if opens (g i) = true then md g (n - i) i 0 false false else sc g (n - i) i

/-! ### bounds -/
theorem ss_bd (g : Nat → Int) : ∀ (r p : Nat) (e : Bool), p ≤ ss g r p e ∧ ss g r p e ≤ p + r
  | 0, p, e => by simp [ss]
  | r + 1, p, e => by
    have h1 := ss_bd g r (p + 1) false
    have h2 := ss_bd g r (p + 1) true
    unfold ss
    split
    · omega
    · split
      · omega
      · split <;> omega
theorem md_bd (g : Nat → Int) : ∀ (r p d : Nat) (q e : Bool), p ≤ md g r p d q e ∧ md g r p d q e ≤ p + r
  | 0, p, d, q, e => by simp [md]
  | r + 1, p, d, q, e => by
    have h := fun d' q' e' => md_bd g r (p + 1) d' q' e'
    have h1 := h d true false
    have h2 := h d true true
    have h3 := h d false false
    have h4 := h (d + 1) false false
    have h5 := h (d - 1) false false
    clear h
    unfold md
    split
    · split
      · omega
      · split
        · omega
        · split
          · split <;> omega
          · omega
    · split
      · omega
      · split
        · omega
        · split
          · split <;> omega
          · omega
theorem sc_bd (g : Nat → Int) : ∀ (r p : Nat), p ≤ sc g r p ∧ sc g r p ≤ p + r
  | 0, p => by simp [sc]
  | r + 1, p => by
    have h := sc_bd g r (p + 1)
    unfold sc
    split <;> omega

/-! ### the string part of the automaton -/
theorem md_str0 (g : Nat → Int) : ∀ (r p : Nat) (e : Bool), md g r p 0 true e = ss g r p e
  | 0, p, e => rfl
  | r + 1, p, e => by
    unfold md ss
    rw [if_pos rfl, md_str0 g r, md_str0 g r]
    simp only [if_true]
theorem ss_t (g : Nat → Int) (r p : Nat) : ss g (r + 1) p true = ss g r (p + 1) false := rfl
theorem ss_f (g : Nat → Int) (r p : Nat) : ss g (r + 1) p false = if g p = 92 then ss g r (p + 1) true else if g p = 34 then p + 1 else ss g r (p + 1) false := rfl
theorem md_te (g : Nat → Int) (r p d : Nat) : md g (r + 1) p d true true = md g r (p + 1) d true false := rfl
theorem md_tf (g : Nat → Int) (r p d : Nat) : md g (r + 1) p d true false = if g p = 92 then md g r (p + 1) d true true else if g p = 34 then (if d = 0 then p + 1 else md g r (p + 1) d false false) else md g r (p + 1) d true false := rfl
theorem md_f (g : Nat → Int) (r p d : Nat) (e : Bool) : md g (r + 1) p d false e = if g p = 34 then md g r (p + 1) d true false else if g p = 91 ∨ g p = 123 then md g r (p + 1) (d + 1) false false else if g p = 93 ∨ g p = 125 then (if d = 1 then p + 1 else md g r (p + 1) (d - 1) false false) else md g r (p + 1) d false false := rfl
theorem sc_s (g : Nat → Int) (r p : Nat) : sc g (r + 1) p = if stop (g p) = true then p else sc g r (p + 1) := rfl

theorem md_str (g : Nat → Int) (d : Nat) (hd : ¬ d = 0) : ∀ (r p : Nat) (e : Bool), md g r p d true e = md g (p + r - ss g r p e) (ss g r p e) d false false
  | 0, p, e => by simp [md, ss]
  | r + 1, p, true => by
    rw [md_te, ss_t, md_str g d hd r (p + 1) false, show p + (r + 1) = p + 1 + r from by omega]
  | r + 1, p, false => by
    rw [md_tf, ss_f, show p + (r + 1) = p + 1 + r from by omega]
    split
    · exact md_str g d hd r (p + 1) true
    · split
      · rw [show p + 1 + r - (p + 1) = r from by omega]
      · exact md_str g d hd r (p + 1) false

/-! ### a run of backslashes -/
/-- is the byte at j + m escaped, where the one at j is not and no quote stands between? -/
def esc (g : Nat → Int) (j : Nat) : Nat → Bool
  | 0 => false
  | m + 1 => !(esc g j m) && (g (j + m) == 92)
theorem ss_seg (g : Nat → Int) (n j : Nat) : ∀ m : Nat, j + m ≤ n → (∀ x, j ≤ x → x < j + m → ¬ g x = 34) → ss g (n - j) j false = ss g (n - (j + m)) (j + m) (esc g j m)
  | 0, _, _ => rfl
  | m + 1, h, hno => by
    rw [ss_seg g n j m (by omega) (fun x h1 h2 => hno x h1 (by omega))]
    have hx := hno (j + m) (by omega) (by omega)
    rw [show n - (j + m) = (n - (j + (m + 1))) + 1 from by omega, esc]
    cases esc g j m
    · rw [ss_f]
      by_cases h92 : g (j + m) = 92
      · rw [if_pos h92, h92]; rfl
      · rw [if_neg h92, if_neg hx, show (g (j + m) == 92) = false from beq_eq_false_iff_ne.2 h92]; rfl
    · rfl
theorem esc_run (g : Nat → Int) (j t : Nat) (hjt : j ≤ t) (h0 : t = j ∨ ¬ g (t - 1) = 92) : ∀ m : Nat, (∀ x, t ≤ x → x < t + m → g x = 92) → esc g j (t - j + m) = decide (m % 2 = 1)
  | 0, _ => by
    rw [Nat.add_zero]
    rcases h0 with h | h
    · subst h; rw [Nat.sub_self]; rfl
    · by_cases e : t = j
      · subst e; rw [Nat.sub_self]; rfl
      · rw [show t - j = (t - 1 - j) + 1 from by omega, esc, show j + (t - 1 - j) = t - 1 from by omega, show (g (t - 1) == 92) = false from beq_eq_false_iff_ne.2 h, Bool.and_false]; rfl
  | m + 1, hr => by
    rw [← Nat.add_assoc, esc, esc_run g j t hjt h0 m (fun x h1 h2 => hr x h1 (by omega)), show j + (t - j + m) = t + m from by omega, hr (t + m) (by omega) (by omega)]
    by_cases h : m % 2 = 1
    · rw [decide_eq_true h, decide_eq_false (by omega)]; rfl
    · rw [decide_eq_false h, decide_eq_true (by omega)]; rfl
/-- no quote from j on: the string runs to the end -/
theorem ss_none (g : Nat → Int) (n j : Nat) (hj : j ≤ n) (hno : ∀ x, j ≤ x → x < n → ¬ g x = 34) : ss g (n - j) j false = n := by
  rw [ss_seg g n j (n - j) (by omega) (fun x h1 h2 => hno x h1 (by omega)), show j + (n - j) = n from by omega, Nat.sub_self]; rfl
/-- the first quote from j on stands at q, behind a run of backslashes that begins at t: an even run -/
theorem ss_even (g : Nat → Int) (n j q t : Nat) (hq : q < n) (hjt : j ≤ t) (htq : t ≤ q) (h34 : g q = 34) (hno : ∀ x, j ≤ x → x < q → ¬ g x = 34) (h0 : t = j ∨ ¬ g (t - 1) = 92) (hr : ∀ x, t ≤ x → x < q → g x = 92) (he : (q - t) % 2 = 0) : ss g (n - j) j false = q + 1 := by
  rw [ss_seg g n j (q - j) (by omega) (fun x h1 h2 => hno x h1 (by omega)), show j + (q - j) = q from by omega]
  rw [show q - j = (t - j) + (q - t) from by omega, esc_run g j t hjt h0 (q - t) (fun x h1 h2 => hr x h1 (by omega)), decide_eq_false (by omega)]
  rw [show n - q = (n - (q + 1)) + 1 from by omega, ss_f, h34]; rfl
/-- an odd run: the quote is escaped -/
theorem ss_odd (g : Nat → Int) (n j q t : Nat) (hq : q < n) (hjt : j ≤ t) (htq : t ≤ q) (hno : ∀ x, j ≤ x → x < q → ¬ g x = 34) (h0 : t = j ∨ ¬ g (t - 1) = 92) (hr : ∀ x, t ≤ x → x < q → g x = 92) (he : ¬ (q - t) % 2 = 0) : ss g (n - j) j false = ss g (n - (q + 1)) (q + 1) false := by
  rw [ss_seg g n j (q - j) (by omega) (fun x h1 h2 => hno x h1 (by omega)), show j + (q - j) = q from by omega]
  rw [show q - j = (t - j) + (q - t) from by omega, esc_run g j t hjt h0 (q - t) (fun x h1 h2 => hr x h1 (by omega)), decide_eq_true (by omega)]
  rw [show n - q = (n - (q + 1)) + 1 from by omega, ss_t]

/-! ### absolute steps of the bracket loop -/
def M (g : Nat → Int) (n d k : Nat) : Nat := md g (n - k) k d false false
theorem M_end (g : Nat → Int) (n d k : Nat) (h : n ≤ k) : M g n d k = k := by unfold M; rw [show n - k = 0 from by omega]; rfl
theorem fuel (n k : Nat) (h : k < n) : n - k = (n - (k + 1)) + 1 := by omega
theorem M_quote (g : Nat → Int) (n d k : Nat) (h : k < n) (hd : ¬ d = 0) (hc : g k = 34) : M g n d k = M g n d (ss g (n - (k + 1)) (k + 1) false) := by
  unfold M
  rw [fuel n k h, md_f, if_pos hc, md_str g d hd]
  rw [show k + 1 + (n - (k + 1)) = n from by omega]
theorem M_open (g : Nat → Int) (n d k : Nat) (h : k < n) (hc : g k = 91 ∨ g k = 123) : M g n d k = M g n (d + 1) (k + 1) := by
  unfold M
  rw [fuel n k h, md_f, if_neg (by omega), if_pos hc]
theorem M_close (g : Nat → Int) (n d k : Nat) (h : k < n) (hc : g k = 93 ∨ g k = 125) (hd : ¬ d = 1) : M g n d k = M g n (d - 1) (k + 1) := by
  unfold M
  rw [fuel n k h, md_f, if_neg (by omega), if_neg (by omega), if_pos hc, if_neg hd]
theorem M_last (g : Nat → Int) (n k : Nat) (h : k < n) (hc : g k = 93 ∨ g k = 125) : M g n 1 k = k + 1 := by
  unfold M
  rw [fuel n k h, md_f, if_neg (by omega), if_neg (by omega), if_pos hc, if_pos rfl]
theorem M_on (g : Nat → Int) (n d k : Nat) (h : k < n) (h1 : ¬ g k = 34) (h2 : ¬ (g k = 91 ∨ g k = 123)) (h3 : ¬ (g k = 93 ∨ g k = 125)) : M g n d k = M g n d (k + 1) := by
  unfold M
  rw [fuel n k h, md_f, if_neg h1, if_neg h2, if_neg h3]
def C (g : Nat → Int) (n k : Nat) : Nat := sc g (n - k) k
theorem C_end (g : Nat → Int) (n k : Nat) (h : n ≤ k) : C g n k = k := by unfold C; rw [show n - k = 0 from by omega]; rfl
theorem C_stop (g : Nat → Int) (n k : Nat) (h : k < n) (hc : stop (g k) = true) : C g n k = k := by unfold C; rw [fuel n k h, sc_s, if_pos hc]
theorem C_on (g : Nat → Int) (n k : Nat) (h : k < n) (hc : stop (g k) = false) : C g n k = C g n (k + 1) := by
  unfold C; rw [fuel n k h, sc_s, hc]; rfl

/-! ### what skip answers -/
theorem skp_end (g : Nat → Int) (n i : Nat) (h : n ≤ i) : skp g n i = n := by unfold skp; rw [if_pos h]
theorem skp_quote (g : Nat → Int) (n i : Nat) (h : i < n) (hc : g i = 34) : skp g n i = ss g (n - (i + 1)) (i + 1) false := by
  unfold skp
  rw [if_neg (by omega), if_pos (by rw [hc]; rfl), fuel n i h, md_f, if_pos hc, md_str0]
theorem skp_open (g : Nat → Int) (n i : Nat) (h : i < n) (hc : g i = 91 ∨ g i = 123) : skp g n i = M g n 0 i := by
  unfold skp M
  rw [if_neg (by omega), if_pos (by rcases hc with h | h <;> rw [h] <;> rfl)]
theorem skp_plain (g : Nat → Int) (n i : Nat) (h : i < n) (hc : opens (g i) = false) : skp g n i = C g n i := by
  unfold skp C
  rw [if_neg (by omega), hc]; rfl
theorem opens_iff (c : Int) : opens c = true ↔ c = 34 ∨ c = 91 ∨ c = 123 := by unfold opens; simp [or_assoc]
theorem stop_iff (c : Int) : stop c = true ↔ c = 44 ∨ c = 93 ∨ c = 125 ∨ c = 32 ∨ c = 9 ∨ c = 10 ∨ c = 13 := by unfold stop; simp [or_assoc]

end Go.Proofs.Qxb6602832a.Js
