/-
  The plain law for seat Qxb6602738a: a byte-at-a-time comment automaton over a list of bytes; no Go in sight.
-/
import Derived.Lib.IndexLaws
import Derived.Lib.Strings
namespace Go.Proofs.Qxb6602738a.Sk
open Go.Lib (indexByte index hasPrefix)

def blank (c : UInt8) : Bool := c == 32 || c == 9 || c == 10 || c == 13 || c == 12
def up (n : Nat) (o : Option Nat) : Option Nat := o.map (· + n)

/-- states: 0 plain, 1 in a line comment, 2 in a block comment; 3, 4, 5: one byte is passed over, then 1, 2, 0 -/
def au : Nat → List UInt8 → Option Nat
  | st, [] => if st = 2 then none else some 0
  | st, c :: r =>
    if st = 1 then up 1 (au (if c == 10 then 0 else 1) r)
    else if st = 2 then up 1 (au (if c == 42 && r.head? == some 47 then 5 else 2) r)
    else if st = 3 then up 1 (au 1 r)
    else if st = 4 then up 1 (au 2 r)
    else if st = 5 then up 1 (au 0 r)
    else if blank c then up 1 (au 0 r)
    else if c == 35 then up 1 (au 1 r)
    else if c == 45 && r.head? == some 45 && decide ((r.tail.head?.getD 0).toNat ≤ 32) then up 1 (au 3 r)
    else if c == 47 && r.head? == some 42 then up 1 (au 4 r)
    else some 0

theorem up_up (a b : Nat) (o : Option Nat) : up a (up b o) = up (b + a) o := by
  cases o <;> simp [up, Nat.add_assoc]

theorem au1_cons (c : UInt8) (r : List UInt8) : au 1 (c :: r) = up 1 (au (if c == 10 then 0 else 1) r) := by rw [au]; simp
theorem au2_cons (c : UInt8) (r : List UInt8) : au 2 (c :: r) = up 1 (au (if c == 42 && r.head? == some 47 then 5 else 2) r) := by rw [au]; simp
theorem au3_cons (c : UInt8) (r : List UInt8) : au 3 (c :: r) = up 1 (au 1 r) := by rw [au]; simp
theorem au4_cons (c : UInt8) (r : List UInt8) : au 4 (c :: r) = up 1 (au 2 r) := by rw [au]; simp
theorem au5_cons (c : UInt8) (r : List UInt8) : au 5 (c :: r) = up 1 (au 0 r) := by rw [au]; simp
theorem au0_cons (c : UInt8) (r : List UInt8) : au 0 (c :: r) =
    if blank c then up 1 (au 0 r)
    else if c == 35 then up 1 (au 1 r)
    else if c == 45 && r.head? == some 45 && decide ((r.tail.head?.getD 0).toNat ≤ 32) then up 1 (au 3 r)
    else if c == 47 && r.head? == some 42 then up 1 (au 4 r)
    else some 0 := by rw [au]; simp

theorem au_line : ∀ l : List UInt8, au 1 l = if indexByte l 10 = -1 then some l.length else up ((indexByte l 10).toNat + 1) (au 0 (l.drop ((indexByte l 10).toNat + 1)))
  | [] => by simp [au, indexByte]
  | c :: r => by
    have ih := au_line r
    have hge := Go.Lib.indexByte_ge r 10
    rw [au1_cons]
    unfold indexByte
    by_cases hc : (c == 10) = true
    · simp [hc]
    · have hc' : (c == 10) = false := by simpa using hc
      rw [hc']
      simp only [Bool.false_eq_true, if_false]
      rw [ih]
      by_cases hm : indexByte r 10 = -1
      · simp [hm, up]
      · have h1 : (indexByte r 10 == -1) = false := by rw [beq_eq_false_iff_ne]; exact hm
        have h2 : ¬ (indexByte r 10 + 1 = -1) := by omega
        have h3 : (indexByte r 10 + 1).toNat = (indexByte r 10).toNat + 1 := by omega
        simp only [hm, h1, h2, if_false, Bool.false_eq_true, h3, up_up, List.drop_succ_cons]

theorem pre2 (x y c : UInt8) (r : List UInt8) : List.isPrefixOf [x, y] (c :: r) = (c == x && r.head? == some y) := by
  cases r with
  | nil => simp [List.isPrefixOf]
  | cons d r' =>
    simp only [List.isPrefixOf, List.head?_cons, Bool.and_true]
    rw [Bool.eq_iff_iff]
    simp only [Bool.and_eq_true, beq_iff_eq, Option.some.injEq]
    exact ⟨fun ⟨h1, h2⟩ => ⟨h1.symm, h2.symm⟩, fun ⟨h1, h2⟩ => ⟨h1.symm, h2.symm⟩⟩

theorem au_block : ∀ l : List UInt8, au 2 l = if index l [42, 47] = -1 then none else up ((index l [42, 47]).toNat + 2) (au 0 (l.drop ((index l [42, 47]).toNat + 2)))
  | [] => by simp [au, index]
  | c :: r => by
    have ih := au_block r
    have hge := Go.Lib.index_ge r [42, 47]
    rw [au2_cons]
    unfold index
    rw [pre2]
    by_cases hc : (c == 42 && r.head? == some 47) = true
    · rw [hc]
      cases r with
      | nil => simp at hc
      | cons d r' => simp [au5_cons, up_up]
    · have hc' : (c == 42 && r.head? == some 47) = false := by simpa using hc
      rw [hc']
      simp only [Bool.false_eq_true, if_false]
      rw [ih]
      by_cases hm : index r [42, 47] = -1
      · simp [hm, up]
      · have h1 : (index r [42, 47] == -1) = false := by rw [beq_eq_false_iff_ne]; exact hm
        have h2 : ¬ (index r [42, 47] + 1 = -1) := by omega
        have h3 : (index r [42, 47] + 1).toNat = (index r [42, 47]).toNat + 1 := by omega
        simp only [hm, h1, h2, if_false, Bool.false_eq_true, h3, up_up]
        rw [show (index r [42, 47]).toNat + 1 + 2 = ((index r [42, 47]).toNat + 2) + 1 from by omega, List.drop_succ_cons]

/-! ### absolute positions in a text -/
def fin (k : Nat) : Option Nat → Int
  | none => -1
  | some n => ((k + n : Nat) : Int)
def A (st : Nat) (s : ByteArray) (k : Nat) : Int := fin k (au st (s.data.toList.drop k))

theorem fin_up (k n : Nat) (o : Option Nat) : fin k (up n o) = fin (k + n) o := by
  cases o with
  | none => rfl
  | some m => simp only [up, fin, Option.map]; congr 1; omega
theorem size_len (s : ByteArray) : s.data.toList.length = s.size := Array.length_toList
theorem drop_cons (s : ByteArray) (k : Nat) (h : k < s.size) : s.data.toList.drop k = s[k] :: s.data.toList.drop (k + 1) := by
  rw [List.drop_eq_getElem_cons (by rw [size_len]; exact h)]; rfl
theorem drop_nil (s : ByteArray) (k : Nat) (h : s.size ≤ k) : s.data.toList.drop k = [] := List.drop_of_length_le (by rw [size_len]; exact h)
theorem u8_eq {c : UInt8} (n : Nat) (h : n < 256) (e : (c.toNat : Int) = (n : Int)) : c = UInt8.ofNat n :=
  UInt8.toNat_inj.1 (by rw [UInt8.toNat_ofNat']; omega)
theorem u8_ne {c : UInt8} (n : Nat) (h : n < 256) (e : ¬ (c.toNat : Int) = (n : Int)) : ¬ c = UInt8.ofNat n := by
  rintro rfl; rw [UInt8.toNat_ofNat'] at e; omega
theorem beq_no {c d : UInt8} (h : ¬ c = d) : (c == d) = false := beq_eq_false_iff_ne.2 h
theorem beq_yes {c d : UInt8} (h : c = d) : (c == d) = true := beq_iff_eq.2 h

theorem A0_end (s : ByteArray) (k : Nat) (h : s.size ≤ k) : A 0 s k = k := by unfold A; rw [drop_nil s k h]; simp [au, fin]
theorem A1_end (s : ByteArray) : A 1 s s.size = s.size := by unfold A; rw [drop_nil s _ (Nat.le_refl _)]; simp [au, fin]
theorem A2_end (s : ByteArray) (k : Nat) (h : s.size ≤ k) : A 2 s k = -1 := by unfold A; rw [drop_nil s k h]; simp [au, fin]

theorem A1_nl (s : ByteArray) (k : Nat) (h : k < s.size) (hc : (s[k].toNat : Int) = 10) : A 1 s k = A 0 s (k + 1) := by
  unfold A; rw [drop_cons s k h, au1_cons, u8_eq 10 (by omega) hc, ← fin_up]; rfl
theorem A1_no (s : ByteArray) (k : Nat) (h : k < s.size) (hc : ¬ (s[k].toNat : Int) = 10) : A 1 s k = A 1 s (k + 1) := by
  have hn := beq_no (u8_ne 10 (by omega) hc)
  unfold A; rw [drop_cons s k h, au1_cons, ← fin_up, show (s[k] == 10) = false from hn]; rfl
theorem head_drop (s : ByteArray) (k : Nat) (h : k < s.size) : (s.data.toList.drop k).head? = some s[k] := by rw [drop_cons s k h]; rfl
theorem head_end (s : ByteArray) (k : Nat) (h : s.size ≤ k) : (s.data.toList.drop k).head? = none := by rw [drop_nil s k h]; rfl
theorem tail_drop (s : ByteArray) (k : Nat) : (s.data.toList.drop k).tail = s.data.toList.drop (k + 1) := by rw [List.tail_drop]

theorem A2_close (s : ByteArray) (k : Nat) (h : k + 1 < s.size) (hc : ((s[k]'(by omega)).toNat : Int) = 42) (hd : (s[k + 1].toNat : Int) = 47) : A 2 s k = A 0 s (k + 2) := by
  have e1 := u8_eq 42 (by omega) hc
  have e2 := u8_eq 47 (by omega) hd
  unfold A
  rw [drop_cons s k (by omega), au2_cons, head_drop s _ h, e1, e2]
  simp only [show (UInt8.ofNat 42 == 42) = true from rfl, show (some (UInt8.ofNat 47) == some 47) = true from rfl, Bool.and_true, if_true]
  rw [drop_cons s (k + 1) h, au5_cons, up_up, fin_up]
theorem A2_on1 (s : ByteArray) (k : Nat) (h : k < s.size) (hc : ¬ (s[k].toNat : Int) = 42) : A 2 s k = A 2 s (k + 1) := by
  have hn := beq_no (u8_ne 42 (by omega) hc)
  unfold A; rw [drop_cons s k h, au2_cons, ← fin_up, show (s[k] == 42) = false from hn]; rfl
theorem A2_on2 (s : ByteArray) (k : Nat) (h : k < s.size) (hc : s.size ≤ k + 1) : A 2 s k = A 2 s (k + 1) := by
  unfold A; rw [drop_cons s k h, au2_cons, ← fin_up, head_end s _ hc]; simp
theorem A2_on3 (s : ByteArray) (k : Nat) (h : k + 1 < s.size) (hd : ¬ (s[k + 1].toNat : Int) = 47) : A 2 s k = A 2 s (k + 1) := by
  have hn := u8_ne 47 (by omega) hd
  unfold A; rw [drop_cons s k (by omega), au2_cons, ← fin_up, head_drop s _ h]
  rw [show (some s[k + 1] == some 47) = false from by simpa using hn]; simp

theorem blank_iff (c : UInt8) : blank c = true ↔ ((c.toNat : Int) = 32 ∨ (c.toNat : Int) = 9 ∨ (c.toNat : Int) = 10 ∨ (c.toNat : Int) = 13 ∨ (c.toNat : Int) = 12) := by
  have h : ∀ n : Nat, n < 256 → (c = UInt8.ofNat n ↔ (c.toNat : Int) = (n : Int)) := fun n hn => ⟨fun e => by rw [e, UInt8.toNat_ofNat']; omega, u8_eq n hn⟩
  unfold blank
  simp only [Bool.or_eq_true, beq_iff_eq]
  rw [show (32 : UInt8) = UInt8.ofNat 32 from rfl, show (9 : UInt8) = UInt8.ofNat 9 from rfl, show (10 : UInt8) = UInt8.ofNat 10 from rfl, show (13 : UInt8) = UInt8.ofNat 13 from rfl, show (12 : UInt8) = UInt8.ofNat 12 from rfl, h 32 (by omega), h 9 (by omega), h 10 (by omega), h 13 (by omega), h 12 (by omega)]
  simp only [or_assoc]; rfl

theorem A0_blank (s : ByteArray) (k : Nat) (h : k < s.size) (hb : blank s[k] = true) : A 0 s k = A 0 s (k + 1) := by
  unfold A; rw [drop_cons s k h, au0_cons, if_pos hb, fin_up]
theorem A0_hash (s : ByteArray) (k : Nat) (h : k < s.size) (hc : (s[k].toNat : Int) = 35) : A 0 s k = A 1 s (k + 1) := by
  unfold A; rw [drop_cons s k h, au0_cons, u8_eq 35 (by omega) hc, ← fin_up]; rfl
/-- what the two bytes at k, k + 1 and the one behind them open -/
def dash (s : ByteArray) (k : Nat) : Bool := (s.data.toList.drop k).head? == some 45 && (s.data.toList.drop (k + 1)).head? == some 45 && decide (((s.data.toList.drop (k + 2)).head?.getD 0).toNat ≤ 32)
def open2 (s : ByteArray) (k : Nat) : Bool := (s.data.toList.drop k).head? == some 47 && (s.data.toList.drop (k + 1)).head? == some 42
theorem A0_dash (s : ByteArray) (k : Nat) (hd : dash s k = true) : A 0 s k = A 1 s (k + 2) ∧ k + 2 ≤ s.size := by
  unfold dash at hd
  simp only [Bool.and_eq_true, beq_iff_eq] at hd
  by_cases h0 : k < s.size
  · by_cases h1 : k + 1 < s.size
    · refine ⟨?_, by omega⟩
      rw [head_drop s k h0, head_drop s _ h1] at hd
      obtain ⟨⟨e0, e1⟩, e2⟩ := hd
      have e0 := Option.some.inj e0
      unfold A
      rw [drop_cons s k h0, au0_cons, tail_drop, e0, head_drop s _ h1, e1, e2]
      simp only [show blank 45 = false from rfl, show ((45 : UInt8) == 35) = false from rfl, show ((45 : UInt8) == 45) = true from rfl, show (some (45 : UInt8) == some 45) = true from rfl, Bool.and_true, if_true, Bool.false_eq_true, if_false]
      rw [drop_cons s (k + 1) h1, au3_cons, up_up, fin_up]
    · rw [head_end s (k + 1) (by omega)] at hd; simp at hd
  · rw [head_end s k (by omega)] at hd; simp at hd
theorem A0_open (s : ByteArray) (k : Nat) (hd : open2 s k = true) : A 0 s k = A 2 s (k + 2) ∧ k + 2 ≤ s.size := by
  unfold open2 at hd
  simp only [Bool.and_eq_true, beq_iff_eq] at hd
  by_cases h0 : k < s.size
  · by_cases h1 : k + 1 < s.size
    · refine ⟨?_, by omega⟩
      rw [head_drop s k h0, head_drop s _ h1] at hd
      obtain ⟨e0, e1⟩ := hd
      have e0 := Option.some.inj e0
      unfold A
      rw [drop_cons s k h0, au0_cons, e0, head_drop s _ h1, e1]
      simp only [show blank 47 = false from rfl, show ((47 : UInt8) == 35) = false from rfl, show ((47 : UInt8) == 45) = false from rfl, show ((47 : UInt8) == 47) = true from rfl, show (some (42 : UInt8) == some 42) = true from rfl, Bool.and_true, Bool.false_and, if_true, Bool.false_eq_true, if_false]
      rw [drop_cons s (k + 1) h1, au4_cons, up_up, fin_up]
    · rw [head_end s (k + 1) (by omega)] at hd; simp at hd
  · rw [head_end s k (by omega)] at hd; simp at hd
theorem A0_stop (s : ByteArray) (k : Nat) (h : k < s.size) (hb : blank s[k] = false) (hh : ¬ (s[k].toNat : Int) = 35) (hd : dash s k = false) (ho : open2 s k = false) : A 0 s k = k := by
  have hn := beq_no (u8_ne 35 (by omega) hh)
  unfold dash at hd
  unfold open2 at ho
  rw [head_drop s k h] at hd ho
  unfold A
  rw [drop_cons s k h, au0_cons, hb, show (s[k] == 35) = false from hn, tail_drop]
  rw [show (s[k] == 45) = (some s[k] == some (45 : UInt8)) from rfl, show (s[k] == 47) = (some s[k] == some (47 : UInt8)) from rfl, hd, ho]
  rfl

theorem dash_no1 (s : ByteArray) (k : Nat) (h : k < s.size) (hc : ¬ (s[k].toNat : Int) = 45) : dash s k = false := by
  have hn := u8_ne 45 (by omega) hc
  unfold dash; rw [head_drop s k h, show (some s[k] == some 45) = false from by simpa using hn]; rfl
theorem dash_no2 (s : ByteArray) (k : Nat) (h : s.size ≤ k + 1) : dash s k = false := by
  unfold dash; rw [head_end s (k + 1) h]; simp
theorem dash_no3 (s : ByteArray) (k : Nat) (h : k + 1 < s.size) (hc : ¬ (s[k + 1].toNat : Int) = 45) : dash s k = false := by
  have hn := u8_ne 45 (by omega) hc
  unfold dash; rw [head_drop s (k + 1) h, show (some s[k + 1] == some 45) = false from by simpa using hn]; simp
theorem dash_no4 (s : ByteArray) (k : Nat) (h : k + 2 < s.size) (hc : (32 : Int) < (s[k + 2].toNat : Int)) : dash s k = false := by
  unfold dash; rw [head_drop s (k + 2) h, show decide (((some s[k + 2]).getD 0).toNat ≤ 32) = false from by simp; omega]; simp
theorem dash_yes1 (s : ByteArray) (k : Nat) (h : k + 1 < s.size) (hc : ((s[k]'(by omega)).toNat : Int) = 45) (hd : (s[k + 1].toNat : Int) = 45) (he : k + 2 = s.size) : dash s k = true := by
  unfold dash; rw [head_drop s k (by omega), head_drop s (k + 1) h, head_end s (k + 2) (by omega), u8_eq 45 (by omega) hc, u8_eq 45 (by omega) hd]; rfl
theorem dash_yes2 (s : ByteArray) (k : Nat) (h : k + 2 < s.size) (hc : ((s[k]'(by omega)).toNat : Int) = 45) (hd : ((s[k + 1]'(by omega)).toNat : Int) = 45) (he : (s[k + 2].toNat : Int) ≤ 32) : dash s k = true := by
  unfold dash; rw [head_drop s k (by omega), head_drop s (k + 1) (by omega), head_drop s (k + 2) h, u8_eq 45 (by omega) hc, u8_eq 45 (by omega) hd, show decide (((some s[k + 2]).getD 0).toNat ≤ 32) = true from by simp; omega]; rfl
theorem open2_no1 (s : ByteArray) (k : Nat) (h : k < s.size) (hc : ¬ (s[k].toNat : Int) = 47) : open2 s k = false := by
  have hn := u8_ne 47 (by omega) hc
  unfold open2; rw [head_drop s k h, show (some s[k] == some 47) = false from by simpa using hn]; rfl
theorem open2_no2 (s : ByteArray) (k : Nat) (h : s.size ≤ k + 1) : open2 s k = false := by
  unfold open2; rw [head_end s (k + 1) h]; simp
theorem open2_no3 (s : ByteArray) (k : Nat) (h : k + 1 < s.size) (hc : ¬ (s[k + 1].toNat : Int) = 42) : open2 s k = false := by
  have hn := u8_ne 42 (by omega) hc
  unfold open2; rw [head_drop s (k + 1) h, show (some s[k + 1] == some 42) = false from by simpa using hn]; simp
theorem open2_yes (s : ByteArray) (k : Nat) (h : k + 1 < s.size) (hc : ((s[k]'(by omega)).toNat : Int) = 47) (hd : (s[k + 1].toNat : Int) = 42) : open2 s k = true := by
  unfold open2; rw [head_drop s k (by omega), head_drop s (k + 1) h, u8_eq 47 (by omega) hc, u8_eq 42 (by omega) hd]; rfl

end Go.Proofs.Qxb6602738a.Sk
