import Derived.Test.Qxb6602738aSkip
import Derived.Test.Qxb6602738aFacts
import Derived.WalkKit
namespace Go.Proofs.Qxb6602738a
open Go.RowKit

set_option maxHeartbeats 1000000 in
theorem zz_any (s : ByteArray) (a : Int) (m : Int) (w : World) (hs : s.size ≤ 1048576) (h0 : 0 ≤ a) (hi : a ≤ 9223372036854775807) (hm : w.cell? ⟨0, 0, none⟩ = some (.int .i64 m)) :
    Calls Try.prog 22 #[.string s, .int .i64 a] w fun e w' => e = .returned (.int .i64 (Sk.A 0 s a.toNat)) ∧ w' = w := by
  obtain ⟨i, rfl⟩ := Int.eq_ofNat_of_zero_le h0
  rw [Int.toNat_natCast]
  go_enter Try.func22, Try.ntmps22
  go_wp2_with fail
  refine (skip_any s i m _ hs (by omega) hm).mono ?_
  rintro e w' ⟨rfl, rfl⟩
  go_wp2_with fail
  go_ret
  exact ⟨rfl, rfl⟩

set_option maxRecDepth 100000 in
set_option maxHeartbeats 1000000 in
theorem opener_any (s : ByteArray) (a : Int) (w : World) (hs : s.size ≤ 1048576) (h0 : 0 ≤ a) (hi : a ≤ s.size) :
    Calls Try.prog 26 #[.string s, .int .i64 a] w fun e w' => e = .returned (.bool (Sk.opn (s.data.toList.drop a.toNat))) ∧ w' = w := by
  obtain ⟨i, rfl⟩ := Int.eq_ofNat_of_zero_le h0
  rw [Int.toNat_natCast]
  go_enter Try.func26, Try.ntmps26
  go_wp2
  go_loop [5] (fun j => ∃ (k : Nat), j = .int .i64 k ∧ k ≤ s.size ∧ Sk.opn (s.data.toList.drop k) = Sk.opn (s.data.toList.drop i)) (fun j => s.size - (intOf j).toNat)
  case atStart => exact ⟨i, rfl, by omega, rfl⟩
  case round =>
    obtain ⟨k, rfl, hk, hA⟩ := hrel
    have HA : Hid (Sk.opn (s.data.toList.drop k) = Sk.opn (s.data.toList.drop i)) := hA
    clear hA
    by_cases hlt : k + 1 < s.size
    · by_cases hc : ((s[k]'(by omega)).toNat : Int) = 47
      · by_cases hd : (s[k + 1].toNat : Int) = 42
        · have HO : Hid (Sk.opn (s.data.toList.drop k) = true) := Sk.opn_yes s k hlt hc hd
          go_wp2
          go_ret
          exact ⟨congrArg (fun b => Ending.returned (Value.bool b)) (by rw [← HA.out, HO.out]), rfl⟩
        · have HO : Hid (Sk.opn (s.data.toList.drop k) = Sk.opn (s.data.toList.drop (k + 1))) := Sk.opn_no2 s k hlt hd
          have hd' : ((s[k + 1].toNat : Int) == 42) = false := beq_eq_false_iff_ne.2 hd
          go_wp2
          go_round
          case rel => exact ⟨k + 1, by go_num, by omega, by rw [← HA.out, HO.out]⟩
          case measure => simp [intOf]; omega
      · have HO : Hid (Sk.opn (s.data.toList.drop k) = Sk.opn (s.data.toList.drop (k + 1))) := Sk.opn_no1 s k (by omega) hc
        have hc' : (((s[k]'(by omega)).toNat : Int) == 47) = false := beq_eq_false_iff_ne.2 hc
        go_wp2
        go_round
        case rel => exact ⟨k + 1, by go_num, by omega, by rw [← HA.out, HO.out]⟩
        case measure => simp [intOf]; omega
    · go_wp2
      go_ret
      exact ⟨congrArg (fun b => Ending.returned (Value.bool b)) (by rw [← HA.out, Sk.opn_end s k (by omega)]), rfl⟩

set_option maxHeartbeats 1000000 in
theorem matches_walk (s : ByteArray) (a : Int) (m : Int) (w : World) (hs : s.size ≤ maxLen) (h0 : a ≤ 9223372036854775807) (hm : w.cell? ⟨0, 0, none⟩ = some (.int .i64 m)) :
    Calls Try.prog 5 #[.string s, .int .i64 a] w fun e w' => e = .returned (.bool true) ∧ w' = w := by
  unfold maxLen at hs
  by_cases h1 : s.size ≤ 1048576
  · by_cases h2 : a < 0
    · go_enter Try.func5, Try.ntmps5
      go_wp2
      go_ret
      exact ⟨rfl, rfl⟩
    · obtain ⟨i, rfl⟩ := Int.eq_ofNat_of_zero_le (show 0 ≤ a by omega)
      go_enter Try.func5, Try.ntmps5
      go_wp2_with (first
        | (go_at_call 22; refine (zz_any s (i : Int) m _ h1 (by omega) h0 (by assumption)).mono ?_; rintro e w' ⟨rfl, rfl⟩)
        | (go_at_call 23; refine (auto_any s i _ h1 (by omega)).mono ?_; rintro e w' ⟨rfl, rfl⟩)
        | go_in)
      go_ret
      exact ⟨ret_bool (by simp), rfl⟩
  · go_enter Try.func5, Try.ntmps5
    go_wp2
    go_ret
    exact ⟨rfl, rfl⟩

set_option maxHeartbeats 1000000 in
theorem lands_walk (s : ByteArray) (a : Int) (m : Int) (w : World) (hs : s.size ≤ maxLen) (h0 : a ≤ 9223372036854775807) (hm : w.cell? ⟨0, 0, none⟩ = some (.int .i64 m)) :
    Calls Try.prog 7 #[.string s, .int .i64 a] w fun e w' => e = .returned (.bool true) ∧ w' = w := by
  unfold maxLen at hs
  by_cases h1 : s.size ≤ 1048576
  · by_cases h2 : a < 0
    · go_enter Try.func7, Try.ntmps7
      go_wp2
      go_ret
      exact ⟨rfl, rfl⟩
    · by_cases h3 : (s.size : Int) < a
      · go_enter Try.func7, Try.ntmps7
        go_wp2
        go_ret
        exact ⟨rfl, rfl⟩
      · obtain ⟨i, rfl⟩ := Int.eq_ofNat_of_zero_le (show 0 ≤ a by omega)
        by_cases hA : Sk.A 0 s i = -1
        · have hO := Sk.A_opn s i hA
          have HA : Hid (Sk.A 0 s i = -1) := hA
          have HO : Hid (Sk.opn (s.data.toList.drop i) = true) := hO
          clear hA hO
          go_enter Try.func7, Try.ntmps7
          go_wp2_with (first
            | (go_at_call 22; refine (zz_any s (i : Int) m _ h1 (by omega) h0 (by assumption)).mono ?_; rintro e w' ⟨rfl, rfl⟩; rw [Int.toNat_natCast, HA.out])
            | (go_at_call 26; refine (opener_any s (i : Int) _ h1 (by omega) (by omega)).mono ?_; rintro e w' ⟨rfl, rfl⟩; rw [Int.toNat_natCast, HO.out])
            | go_in)
          go_ret
          exact ⟨rfl, rfl⟩
        · obtain ⟨r, hr1, hr2, hr3, hr4⟩ := Sk.A_lands s i (by omega) hA
          have HA : Hid (Sk.A 0 s i = (r : Int)) := hr1
          have HO : Hid (Sk.A 0 s r = (r : Int)) := hr4
          clear hA hr1 hr4
          go_enter Try.func7, Try.ntmps7
          go_wp2_with (go_at_call 25; go_in)
          refine (zz_any s (i : Int) m _ h1 (by omega) h0 (by assumption)).mono ?_
          rintro e w' ⟨rfl, rfl⟩
          rw [Int.toNat_natCast, HA.out]
          have hne : ((r : Int) == -1) = false := by rw [beq_eq_false_iff_ne]; omega
          go_wp2_with fail
          refine (zz_any s (r : Int) m _ h1 (by omega) (by omega) (by assumption)).mono ?_
          rintro e w' ⟨rfl, rfl⟩
          rw [Int.toNat_natCast, HO.out]
          go_wp2_with fail
          go_ret
          exact ⟨ret_bool (by simp), rfl⟩
  · go_enter Try.func7, Try.ntmps7
    go_wp2
    go_ret
    exact ⟨rfl, rfl⟩

set_option maxHeartbeats 1000000 in
theorem shift_walk (p s : ByteArray) (a : Int) (m : Int) (w : World) (hp : p.size ≤ maxLen) (hs : s.size ≤ maxLen) (h0 : a ≤ 9223372036854775807) (hm : w.cell? ⟨0, 0, none⟩ = some (.int .i64 m)) :
    Calls Try.prog 6 #[.string p, .string s, .int .i64 a] w fun e w' => e = .returned (.bool true) ∧ w' = w := by
  unfold maxLen at hs hp
  by_cases h1 : p.size ≤ 524288
  · by_cases h2 : s.size ≤ 524288
    · by_cases h3 : a < 0
      · go_enter Try.func6, Try.ntmps6
        go_wp2
        go_ret
        exact ⟨rfl, rfl⟩
      · by_cases h4 : (s.size : Int) < a
        · go_enter Try.func6, Try.ntmps6
          go_wp2
          go_ret
          exact ⟨rfl, rfl⟩
        · obtain ⟨i, rfl⟩ := Int.eq_ofNat_of_zero_le (show 0 ≤ a by omega)
          have hsz : (p ++ s).size = p.size + s.size := ByteArray.size_append
          have hps : (p ++ s).size ≤ 1048576 := by omega
          have HZ : Hid ((p ++ s).size = p.size + s.size) := hsz
          clear hsz
          rcases Sk.A_shift p s i with ⟨ha, hb⟩ | ⟨r, ha, hb⟩
          · have HA : Hid (Sk.A 0 s i = -1) := ha
            have HB : Hid (Sk.A 0 (p ++ s) (p.size + i) = -1) := hb
            clear ha hb
            go_enter Try.func6, Try.ntmps6
            go_wp2_with (go_at_call 24; go_in)
            refine (zz_any s (i : Int) m _ (by omega) (by omega) h0 (by assumption)).mono ?_
            rintro e w' ⟨rfl, rfl⟩
            rw [Int.toNat_natCast, HA.out]
            go_wp2_with fail
            refine (zz_any (p ++ s) ((p.size : Int) + (i : Int)) m _ hps (by omega) (by omega) (by assumption)).mono ?_
            rintro e w' ⟨rfl, rfl⟩
            rw [show ((p.size : Int) + (i : Int)).toNat = p.size + i from by omega, HB.out]
            go_wp2_with fail
            go_ret
            exact ⟨rfl, rfl⟩
          · have hr : (r : Int) ≤ s.size := by
              obtain ⟨r', e1, _, e3, _⟩ := Sk.A_lands s i (by omega) (by rw [ha]; omega)
              rw [ha] at e1; omega
            have HA : Hid (Sk.A 0 s i = (r : Int)) := ha
            have HB : Hid (Sk.A 0 (p ++ s) (p.size + i) = ((r + p.size : Nat) : Int)) := hb
            clear ha hb
            go_enter Try.func6, Try.ntmps6
            go_wp2_with (go_at_call 24; go_in)
            refine (zz_any s (i : Int) m _ (by omega) (by omega) h0 (by assumption)).mono ?_
            rintro e w' ⟨rfl, rfl⟩
            rw [Int.toNat_natCast, HA.out]
            go_wp2_with fail
            refine (zz_any (p ++ s) ((p.size : Int) + (i : Int)) m _ hps (by omega) (by omega) (by assumption)).mono ?_
            rintro e w' ⟨rfl, rfl⟩
            rw [show ((p.size : Int) + (i : Int)).toNat = p.size + i from by omega, HB.out]
            go_wp2_with fail
            go_ret
            exact ⟨rfl, rfl⟩
    · go_enter Try.func6, Try.ntmps6
      go_wp2
      all_goals (go_ret; exact ⟨rfl, rfl⟩)
  · go_enter Try.func6, Try.ntmps6
    go_wp2
    all_goals (go_ret; exact ⟨rfl, rfl⟩)
end Go.Proofs.Qxb6602738a
