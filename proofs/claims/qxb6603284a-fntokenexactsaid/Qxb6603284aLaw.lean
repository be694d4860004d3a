import Derived.Test.Qxb6603284aTok2
import Derived.WalkKit
namespace Go.Proofs.Qxb6603284a
open Go.RowKit
set_option linter.unusedVariables false

set_option maxRecDepth 100000 in
set_option maxHeartbeats 1000000 in
theorem zztok_any (s : ByteArray) (k : Nat) (w : World) (hs : s.size ≤ 1048576) (hk : k ≤ 9223372036854775807) :
    Calls Try.prog 12 #[.string s, .int .i64 k] w fun e w' => ∃ q : Nat, e = .returned (.int .i64 q) ∧ Below w.heap.size w w' ∧ k ≤ q ∧ (∀ x, k ≤ x → x < q → tok (bt s x) = true) ∧ tok (bt s q) = false := by
  go_enter Try.func12, Try.ntmps12
  go_wp2_with fail
  have HPar : Hid (Par w (w.alloc (.cells #[.string s, .int .i64 k] 26)) w.heap.size s k) :=
    ⟨by simp, by simp, by simp, (Below.refl _ _).alloc (Nat.le_refl _) _⟩
  refine (token_any w.heap.size k s w _ hs hk HPar.out).mono ?_
  rintro e w1 ⟨rfl, q, hpar, hq1, hq2, hq3⟩
  have HQ : Hid (Par w w1 w.heap.size s q) := hpar
  have H2 : Hid (∀ x, k ≤ x → x < q → tok (bt s x) = true) := hq2
  have H3 : Hid (tok (bt s q) = false) := hq3
  have hc := hpar.2.1
  clear hpar hq2 hq3
  go_wp2_with fail
  go_ret
  exact ⟨q, rfl, HQ.out.2.2.2, hq1, H2.out, H3.out⟩

theorem zt_of (s : ByteArray) (x : Nat) (h : x < s.size) (b : Bool) (ht : tok (bt s x) = b) : zt ((s[x]'h).toNat : Int) = b := by
  rw [← bt_in s x h, ← tok_eq _ (bt_bd s x).1 (bt_bd s x).2]; exact ht

set_option maxRecDepth 100000 in
set_option maxHeartbeats 2000000 in
theorem exact_walk (s : ByteArray) (a : Int) (w : World) (hs : s.size ≤ maxLen) (h0 : a ≤ 9223372036854775807) :
    Calls Try.prog 5 #[.string s, .int .i64 a] w fun e w' => e = .returned (.bool true) ∧ Below w.heap.size w w' := by
  unfold maxLen at hs
  by_cases h1 : s.size ≤ 1048576
  · by_cases h2 : a < 0
    · go_enter Try.func5, Try.ntmps5
      go_wp2
      go_ret
      exact ⟨rfl, Below.refl _ _⟩
    · obtain ⟨k, rfl⟩ := Int.eq_ofNat_of_zero_le (show 0 ≤ a by omega)
      have d5 : decide ((1048576 : Int) < (s.size : Int)) = false := decide_eq_false (by omega)
      have d6 : decide ((k : Int) < 0) = false := decide_eq_false (by omega)
      go_enter Try.func5, Try.ntmps5
      go_wp2_with (go_at_call 11; go_in)
      refine (zztok_any s k w h1 (by omega)).mono ?_
      rintro e w1 ⟨q, rfl, hbel, hq1, hq2, hq3⟩
      have HB : Hid (Below w.heap.size w w1) := hbel
      have H2 : Hid (∀ x, k ≤ x → x < q → tok (bt s x) = true) := hq2
      have H3 : Hid (tok (bt s q) = false) := hq3
      clear hbel hq2 hq3
      by_cases hks : s.size ≤ k
      · have hqk : q = k := by
          by_cases e : q = k
          · exact e
          · have := tok_room s k (H2.out k (Nat.le_refl _) (by omega))
            omega
        have bqk : ((q : Int) == (k : Int)) = true := by rw [beq_iff_eq]; omega
        have HQK : Hid (q = k) := hqk
        clear hqk
        go_wp2
        go_ret
        exact ⟨rfl, HB.out⟩
      · have hqs : q ≤ s.size := by
          by_cases e : q = k
          · omega
          · have := tok_room s (q - 1) (H2.out (q - 1) (by omega) (by omega))
            omega
        have d1 : decide ((s.size : Int) ≤ (k : Int)) = false := decide_eq_false (by omega)
        have d2 : decide (q < k) = false := decide_eq_false (by omega)
        have d3 : decide (s.size < q) = false := decide_eq_false (by omega)
        go_wp2
        go_loop [6] (fun j => ∃ i : Nat, j = .int .i64 i ∧ k ≤ i ∧ i ≤ q) (fun j => q - (intOf j).toNat)
        case atStart => exact ⟨k, rfl, Nat.le_refl _, hq1⟩
        case round =>
          obtain ⟨i, rfl, hi1, hi2⟩ := hrel
          by_cases hiq : i < q
          · have his : i < s.size := by omega
            have HZ : Hid (zt ((s[i]'his).toNat : Int) = true) := zt_of s i his true (H2.out i hi1 hiq)
            go_wp2_with (go_at_call 13; refine (zt_yes _ _ HZ.out).mono ?_; rintro e w' ⟨rfl, rfl⟩)
            go_round
            case rel => exact ⟨i + 1, by go_num, by omega, by omega⟩
            case measure => simp [intOf]; omega
          · by_cases hql : q < s.size
            · have HZ : Hid (zt ((s[q]'hql).toNat : Int) = false) := zt_of s q hql false H3.out
              have d4 : decide ((q : Int) < (s.size : Int)) = true := decide_eq_true (by omega)
              go_wp2_with (go_at_call 13; refine (zt_no _ _ HZ.out).mono ?_; rintro e w' ⟨rfl, rfl⟩)
              go_ret
              exact ⟨rfl, HB.out⟩
            · have d4 : decide ((q : Int) < (s.size : Int)) = false := decide_eq_false (by omega)
              go_wp2
              go_ret
              exact ⟨rfl, HB.out⟩
  · go_enter Try.func5, Try.ntmps5
    go_wp2
    go_ret
    exact ⟨rfl, Below.refl _ _⟩
end Go.Proofs.Qxb6603284a
