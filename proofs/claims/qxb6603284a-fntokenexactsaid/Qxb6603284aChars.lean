import Derived.Test.Qxb6603284aProg
import Derived.Test.Qxb6603284aPlain
import Derived.Test.Qxb6603284aShelf
import Derived.WalkKit
namespace Go.Proofs.Qxb6603284a
open Go.RowKit
set_option linter.unusedVariables false

theorem ret_int {k : IntKind} {a b : Int} (h : a = b) : Ending.returned (.int k a) = .returned (.int k b) := by rw [h]
theorem ret_bool {a b : Bool} (h : a = b) : Ending.returned (.bool a) = .returned (.bool b) := by rw [h]

set_option maxHeartbeats 400000 in
theorem lo_any (c : Int) (b : Bool) (w : World) (h : lo c = b) :
    Calls Try.prog 24 #[.int .u8 c] w fun e w' => e = .returned (.bool b) ∧ w' = w := by
  unfold lo at h
  by_cases h1 : 97 ≤ c
  · have d1 : decide (97 ≤ c) = true := decide_eq_true h1
    rw [d1, Bool.true_and] at h
    go_enter Try.func24, Try.ntmps24
    go_wp2
    go_ret
    exact ⟨rfl, rfl⟩
  · have d1 : decide (97 ≤ c) = false := decide_eq_false h1
    rw [d1, Bool.false_and] at h
    subst h
    go_enter Try.func24, Try.ntmps24
    go_wp2
    go_ret
    exact ⟨rfl, rfl⟩
set_option maxHeartbeats 400000 in
theorem dg_any (c : Int) (b : Bool) (w : World) (h : dg c = b) :
    Calls Try.prog 22 #[.int .u8 c] w fun e w' => e = .returned (.bool b) ∧ w' = w := by
  unfold dg at h
  by_cases h1 : 48 ≤ c
  · have d1 : decide (48 ≤ c) = true := decide_eq_true h1
    rw [d1, Bool.true_and] at h
    go_enter Try.func22, Try.ntmps22
    go_wp2
    go_ret
    exact ⟨rfl, rfl⟩
  · have d1 : decide (48 ≤ c) = false := decide_eq_false h1
    rw [d1, Bool.false_and] at h
    subst h
    go_enter Try.func22, Try.ntmps22
    go_wp2
    go_ret
    exact ⟨rfl, rfl⟩
set_option maxHeartbeats 400000 in
theorem al_any (c : Int) (b : Bool) (w : World) (h : al c = b) :
    Calls Try.prog 21 #[.int .u8 c] w fun e w' => e = .returned (.bool b) ∧ w' = w := by
  cases hl : lo c
  · have HL : Hid (lo c = false) := hl
    rw [al, hl, Bool.false_or] at h
    clear hl
    unfold up at h
    by_cases h1 : 65 ≤ c
    · have d1 : decide (65 ≤ c) = true := decide_eq_true h1
      rw [d1, Bool.true_and] at h
      go_enter Try.func21, Try.ntmps21
      go_wp2_with (go_at_call 24; refine (lo_any c false _ HL.out).mono ?_; rintro e w' ⟨rfl, rfl⟩)
      go_ret
      exact ⟨rfl, rfl⟩
    · have d1 : decide (65 ≤ c) = false := decide_eq_false h1
      rw [d1, Bool.false_and] at h
      subst h
      go_enter Try.func21, Try.ntmps21
      go_wp2_with (go_at_call 24; refine (lo_any c false _ HL.out).mono ?_; rintro e w' ⟨rfl, rfl⟩)
      go_ret
      exact ⟨rfl, rfl⟩
  · have HL : Hid (lo c = true) := hl
    rw [al, hl, Bool.true_or] at h
    subst h
    clear hl
    go_enter Try.func21, Try.ntmps21
    go_wp2_with (go_at_call 24; refine (lo_any c true _ HL.out).mono ?_; rintro e w' ⟨rfl, rfl⟩)
    go_ret
    exact ⟨rfl, rfl⟩
theorem sy_any (c : Int) (n : Int) (w : World) (h : Lib.indexByte [33, 35, 36, 37, 38, 39, 42, 43, 45, 46, 94, 95, 96, 124, 126] c.toNat.toUInt8 = n) :
    Calls Try.prog 23 #[.string ⟨#[33, 35, 36, 37, 38, 39, 42, 43, 45, 46, 94, 95, 96, 124, 126]⟩, .int .u8 c] w fun e w' => e = .returned (.int .i64 n) ∧ w' = w := by
  have := Try.strings_IndexByte ⟨#[33, 35, 36, 37, 38, 39, 42, 43, 45, 46, 94, 95, 96, 124, 126]⟩ c w
  rw [show (ByteArray.mk #[33, 35, 36, 37, 38, 39, 42, 43, 45, 46, 94, 95, 96, 124, 126]).data.toList = [33, 35, 36, 37, 38, 39, 42, 43, 45, 46, 94, 95, 96, 124, 126] from rfl, h] at this
  exact this
set_option maxHeartbeats 400000 in
theorem tc_any (c : Int) (b : Bool) (w : World) (h : tc c = b) :
    Calls Try.prog 19 #[.int .u8 c] w fun e w' => e = .returned (.bool b) ∧ w' = w := by
  cases ha : al c
  · have HA : Hid (al c = false) := ha
    rw [tc, ha, Bool.false_or] at h
    clear ha
    cases hd : dg c
    · have HD : Hid (dg c = false) := hd
      rw [hd, Bool.false_or] at h
      clear hd
      unfold sy at h
      generalize hn : Lib.indexByte [33, 35, 36, 37, 38, 39, 42, 43, 45, 46, 94, 95, 96, 124, 126] c.toNat.toUInt8 = n at h
      have HN : Hid (Lib.indexByte [33, 35, 36, 37, 38, 39, 42, 43, 45, 46, 94, 95, 96, 124, 126] c.toNat.toUInt8 = n) := hn
      clear hn
      go_enter Try.func19, Try.ntmps19
      go_wp2_with (first | (go_at_call 21; refine (al_any c false _ HA.out).mono ?_; rintro e w' ⟨rfl, rfl⟩) | (go_at_call 22; refine (dg_any c false _ HD.out).mono ?_; rintro e w' ⟨rfl, rfl⟩) | (go_at_call 23; refine (sy_any c n _ HN.out).mono ?_; rintro e w' ⟨rfl, rfl⟩))
      go_ret
      exact ⟨rfl, rfl⟩
    · have HD : Hid (dg c = true) := hd
      rw [hd, Bool.true_or] at h
      subst h
      clear hd
      go_enter Try.func19, Try.ntmps19
      go_wp2_with (first | (go_at_call 21; refine (al_any c false _ HA.out).mono ?_; rintro e w' ⟨rfl, rfl⟩) | (go_at_call 22; refine (dg_any c true _ HD.out).mono ?_; rintro e w' ⟨rfl, rfl⟩))
      go_ret
      exact ⟨rfl, rfl⟩
  · have HA : Hid (al c = true) := ha
    rw [tc, ha, Bool.true_or, Bool.true_or] at h
    subst h
    clear ha
    go_enter Try.func19, Try.ntmps19
    go_wp2_with (go_at_call 21; refine (al_any c true _ HA.out).mono ?_; rintro e w' ⟨rfl, rfl⟩)
    go_ret
    exact ⟨rfl, rfl⟩

set_option maxHeartbeats 1000000 in
theorem zt_yes (c : Int) (w : World) (h : zt c = true) :
    Calls Try.prog 13 #[.int .u8 c] w fun e w' => e = .returned (.bool true) ∧ w' = w := by
  have h1 : decide (c < 33) = false ∧ decide (126 < c) = false ∧ bad c = false := by
    simp only [zt, Bool.and_eq_true, Bool.not_eq_true'] at h
    exact ⟨h.1.1, h.1.2, h.2⟩
  obtain ⟨d1, d2, hb⟩ := h1
  clear h
  simp only [bad, Bool.or_eq_false_iff] at hb
  obtain ⟨⟨⟨⟨⟨⟨⟨⟨⟨⟨⟨⟨⟨⟨b1, b2⟩, b3⟩, b4⟩, b5⟩, b6⟩, b7⟩, b8⟩, b9⟩, b10⟩, b11⟩, b12⟩, b13⟩, b14⟩, b15⟩ := hb
  go_enter Try.func13, Try.ntmps13
  go_wp2
  go_ret
  exact ⟨rfl, rfl⟩
set_option maxHeartbeats 1000000 in
theorem zt_no (c : Int) (w : World) (h : zt c = false) :
    Calls Try.prog 13 #[.int .u8 c] w fun e w' => e = .returned (.bool false) ∧ w' = w := by
  by_cases h1 : c < 33
  · have d1 : decide (c < 33) = true := decide_eq_true h1
    clear h
    go_enter Try.func13, Try.ntmps13
    go_wp2
    go_ret
    exact ⟨rfl, rfl⟩
  · have d1 : decide (c < 33) = false := decide_eq_false h1
    by_cases h2 : 126 < c
    · have d2 : decide (126 < c) = true := decide_eq_true h2
      clear h
      go_enter Try.func13, Try.ntmps13
      go_wp2
      go_ret
      exact ⟨rfl, rfl⟩
    · have d2 : decide (126 < c) = false := decide_eq_false h2
      have hb : bad c = true := by
        rw [zt, d1, d2] at h
        simpa using h
      have hb' : c = 34 ∨ c = 40 ∨ c = 41 ∨ c = 44 ∨ c = 59 ∨ c = 60 ∨ c = 61 ∨ c = 62 ∨ c = 63 ∨ c = 64 ∨ c = 91 ∨ c = 92 ∨ c = 93 ∨ c = 123 ∨ c = 125 := by
        simpa [bad, or_assoc] using hb
      clear h hb d1 d2 h1 h2
      rcases hb' with rfl | rfl | rfl | rfl | rfl | rfl | rfl | rfl | rfl | rfl | rfl | rfl | rfl | rfl | rfl
      all_goals
        go_enter Try.func13, Try.ntmps13
        go_wp2
        go_ret
        exact ⟨rfl, rfl⟩
end Go.Proofs.Qxb6603284a
