import Derived.Test.Qxb6602832aZz
import Derived.WalkKit
namespace Go.Proofs.Qxb6602832a
open Go.RowKit
set_option linter.unusedVariables false

def dig (c : Int) : Bool := decide (48 ≤ c) && decide (c ≤ 57)
theorem dig_iff (c : Int) : dig c = true ↔ 48 ≤ c ∧ c ≤ 57 := by simp [dig]
set_option maxHeartbeats 400000 in
theorem dig_yes (c : Int) (w : World) (h : dig c = true) :
    Calls Try.prog 32 #[.int .u8 c] w fun e w' => e = .returned (.bool true) ∧ w' = w := by
  obtain ⟨h1, h2⟩ := (dig_iff c).1 h
  clear h
  have d1 : decide (48 ≤ c) = true := decide_eq_true h1
  have d2 : decide (c ≤ 57) = true := decide_eq_true h2
  go_enter Try.func32, Try.ntmps32
  go_wp2
  go_ret
  exact ⟨rfl, rfl⟩
set_option maxHeartbeats 400000 in
theorem dig_no (c : Int) (w : World) (h : dig c = false) :
    Calls Try.prog 32 #[.int .u8 c] w fun e w' => e = .returned (.bool false) ∧ w' = w := by
  by_cases h1 : 48 ≤ c
  · have h2 : ¬ c ≤ 57 := fun h2 => by rw [(dig_iff c).2 ⟨h1, h2⟩] at h; cases h
    have d1 : decide (48 ≤ c) = true := decide_eq_true h1
    have d2 : decide (c ≤ 57) = false := decide_eq_false h2
    clear h
    go_enter Try.func32, Try.ntmps32
    go_wp2
    go_ret
    exact ⟨rfl, rfl⟩
  · have d1 : decide (48 ≤ c) = false := decide_eq_false h1
    clear h
    go_enter Try.func32, Try.ntmps32
    go_wp2
    go_ret
    exact ⟨rfl, rfl⟩

/-- a byte that a number may hold -/
def numb (c : Int) : Prop := (48 ≤ c ∧ c ≤ 57) ∨ c = 45 ∨ c = 43 ∨ c = 46 ∨ c = 101 ∨ c = 69
def Seg (g : Nat → Int) (a b : Nat) : Prop := ∀ x, a ≤ x → x < b → numb (g x)
theorem Seg.nil (g : Nat → Int) (a : Nat) : Seg g a a := fun x h1 h2 => by omega
theorem Seg.snoc {g : Nat → Int} {a b : Nat} (h : Seg g a b) (hb : numb (g b)) : Seg g a (b + 1) := fun x h1 h2 => by
  by_cases e : x = b
  · rw [e]; exact hb
  · exact h x h1 (by omega)
theorem Seg.join {g : Nat → Int} {a b c : Nat} (h : Seg g a b) (h2 : Seg g b c) : Seg g a c := fun x h1 h3 => by
  by_cases e : x < b
  · exact h x h1 e
  · exact h2 x (by omega) h3
theorem numb_skips (g : Nat → Int) (n i e : Nat) (hi : i ≤ e) (he : e ≤ n) (hs : Seg g i e) (hend : e = n ∨ Js.stop (g e) = true) (hin : i < n) : Js.skp g n i = e := by
  have C_to : ∀ k, i + k ≤ e → Js.C g n i = Js.C g n (i + k) := fun k => by
    induction k with
    | zero => intro _; rfl
    | succ k ih =>
      intro h
      rw [ih (by omega), Js.C_on g n (i + k) (by omega)]
      · rfl
      · have := hs (i + k) (by omega) (by omega)
        unfold numb at this
        rw [← Bool.not_eq_true, Js.stop_iff]
        omega
  have hno : Js.opens (g i) = false := by
    rw [← Bool.not_eq_true, Js.opens_iff]
    by_cases h : i < e
    · have := hs i (by omega) h
      unfold numb at this
      omega
    · have e2 : e = i := by omega
      rcases hend with h | h
      · omega
      · rw [e2, Js.stop_iff] at h; omega
  rw [Js.skp_plain g n i hin hno, C_to (e - i) (by omega), show i + (e - i) = e from by omega]
  rcases hend with h | h
  · exact Js.C_end g n e (by omega)
  · by_cases h2 : e < n
    · exact Js.C_stop g n e h2 h
    · exact Js.C_end g n e (by omega)

set_option maxRecDepth 100000 in
set_option maxHeartbeats 1000000 in
theorem digits_any (b off n c : Nat) (p : Int) (k0 : Nat) (hp : p = k0) (g : Nat → Int) (w : World) (hn : n ≤ 1048576) (hi : k0 ≤ n)
    (hg : ∀ x, x < n → w.cell? ⟨b, off + x, none⟩ = some (.int .u8 (g x))) :
    Calls Try.prog 33 #[.slice (some ⟨b, off, none⟩) n c, .int .i64 p] w fun e w' => ∃ d : Nat, e = .returned (.int .i64 d) ∧ k0 ≤ d ∧ d ≤ n ∧ Seg g k0 d ∧ w' = w := by
  subst hp
  have HG : Hid (∀ x, x < n → w.cell? ⟨b, off + x, none⟩ = some (.int .u8 (g x))) := hg
  clear hg
  go_enter Try.func33, Try.ntmps33
  go_wp2
  go_loop [1] (fun j => ∃ k : Nat, j = .int .i64 k ∧ k0 ≤ k ∧ k ≤ n ∧ Seg g k0 k) (fun j => n - (intOf j).toNat)
  case atStart => exact ⟨k0, rfl, Nat.le_refl _, hi, Seg.nil g k0⟩
  case round =>
    obtain ⟨k, rfl, hk1, hk2, hseg⟩ := hrel
    have HS : Hid (Seg g k0 k) := hseg
    clear hseg
    by_cases hlt : k < n
    · have hgk := HG.out k hlt
      cases hd : dig (g k)
      · have HD : Hid (dig (g k) = false) := hd
        clear hd
        go_wp2_with (go_at_call 32; refine (dig_no (g k) _ HD.out).mono ?_; rintro e w' ⟨rfl, rfl⟩)
        go_ret
        exact ⟨k, rfl, hk1, hk2, HS.out, rfl⟩
      · have HD : Hid (dig (g k) = true) := hd
        clear hd
        go_wp2_with (go_at_call 32; refine (dig_yes (g k) _ HD.out).mono ?_; rintro e w' ⟨rfl, rfl⟩)
        go_round
        case rel => exact ⟨k + 1, by go_num, by omega, by omega, HS.out.snoc (.inl ((dig_iff _).1 HD.out))⟩
        case measure => simp [intOf]; omega
    · have hlt' : decide ((k : Int) < (n : Int)) = false := decide_eq_false (by omega)
      go_wp2
      go_ret
      exact ⟨k, rfl, hk1, hk2, HS.out, rfl⟩
end Go.Proofs.Qxb6602832a
