import Derived.Test.Qxb6602738aProg
import Derived.Test.Qxb6602738aPlain
import Derived.WalkKit
namespace Go.Proofs.Qxb6602738a
open Go.RowKit

theorem ret_bool {a b : Bool} (h : a = b) : Ending.returned (.bool a) = .returned (.bool b) := by rw [h]
theorem ret_int {k : IntKind} {a b : Int} (h : a = b) : Ending.returned (.int k a) = .returned (.int k b) := by rw [h]

set_option maxHeartbeats 400000 in
theorem blank_yes (c : UInt8) (w : World) (h : Sk.blank c = true) :
    Calls Try.prog 35 #[.int .u8 c.toNat] w fun e w' => e = .returned (.bool true) ∧ w' = w := by
  have hb := (Sk.blank_iff c).1 h
  have H : Hid (Sk.blank c = true) := h
  clear h
  go_enter Try.func35, Try.ntmps35
  go_wp2
  all_goals (go_ret; first | exact ⟨rfl, rfl⟩ | exact ⟨ret_bool (by rw [Bool.eq_iff_iff]; simp; omega), rfl⟩)

set_option maxHeartbeats 400000 in
theorem blank_no (c : UInt8) (w : World) (h : Sk.blank c = false) :
    Calls Try.prog 35 #[.int .u8 c.toNat] w fun e w' => e = .returned (.bool false) ∧ w' = w := by
  have hb : ¬ ((c.toNat : Int) = 32 ∨ (c.toNat : Int) = 9 ∨ (c.toNat : Int) = 10 ∨ (c.toNat : Int) = 13 ∨ (c.toNat : Int) = 12) := fun hh => by
    rw [(Sk.blank_iff c).2 hh] at h; cases h
  simp only [not_or] at hb
  obtain ⟨h1, h2, h3, h4, h5⟩ := hb
  clear h
  go_enter Try.func35, Try.ntmps35
  go_wp2
  all_goals (go_ret; first | exact ⟨rfl, rfl⟩ | exact ⟨ret_bool (by rw [Bool.eq_iff_iff]; simp; omega), rfl⟩)

set_option maxRecDepth 100000 in
set_option maxHeartbeats 4000000 in
theorem auto_any (s : ByteArray) (i : Nat) (w : World) (hs : s.size ≤ 1048576) (hi : i ≤ 9223372036854775807) :
    Calls Try.prog 23 #[.string s, .int .i64 i] w fun e w' => e = .returned (.int .i64 (Sk.A 0 s i)) ∧ w' = w := by
  go_enter Try.func23, Try.ntmps23
  go_wp2
  go_loop [5, 6, 7] (fun st j _ => ∃ (q k : Nat), st = .int .i64 q ∧ j = .int .i64 k ∧ k ≤ 9223372036854775807 ∧ Sk.A q s k = Sk.A 0 s i ∧ (q = 0 ∨ ((q = 1 ∨ q = 2) ∧ k ≤ s.size))) (fun _ j _ => s.size - (intOf j).toNat)
  case atStart => exact ⟨0, i, rfl, rfl, hi, rfl, .inl rfl⟩
  case round =>
    obtain ⟨q, k, rfl, rfl, hk, hA, hq⟩ := hrel
    have HA : Hid (Sk.A q s k = Sk.A 0 s i) := hA
    clear hA
    by_cases hlt : k < s.size
    · rcases hq with rfl | ⟨rfl | rfl, hks⟩
      · clear hk
        cases hb : Sk.blank s[k]
        · go_wp2_with (go_at_call 35; refine (blank_no _ _ hb).mono ?_; rintro e w' ⟨rfl, rfl⟩)
          · have h1 : (↑s[k].toNat == (35 : Int)) = true := by assumption
            go_round
            case rel => exact ⟨1, k + 1, by go_num, by go_num, by omega, by rw [← HA.out, Sk.A0_hash s k hlt (beq_iff_eq.1 h1)], .inr ⟨.inl rfl, by omega⟩⟩
            case measure => simp [intOf]; omega
          · have h1 : ↑s[k].toNat = (45 : Int) := by assumption
            have h2 : (k : Int) + 1 < (s.size : Int) := by assumption
            have h3 : ↑(s[k + 1]'(by omega)).toNat = (45 : Int) := by assumption
            have h4 : (k : Int) + 2 = (s.size : Int) := by assumption
            go_round
            case rel => exact ⟨1, s.size, by go_num, by go_num, by omega, by rw [← HA.out, (Sk.A0_dash s k (Sk.dash_yes1 s k (by omega) h1 h3 (by omega))).1, show k + 2 = s.size from by omega], .inr ⟨.inl rfl, by omega⟩⟩
            case measure => simp [intOf]; omega
          · have h1 : ↑s[k].toNat = (45 : Int) := by assumption
            have h2 : (k : Int) + 1 < (s.size : Int) := by assumption
            have h3 : ↑(s[k + 1]'(by omega)).toNat = (45 : Int) := by assumption
            have h4 : ¬ (k : Int) + 2 = (s.size : Int) := by assumption
            have h5 : ((k : Int) + 2 == (s.size : Int)) = true ∨ ↑(s[k + 2]'(by omega)).toNat ≤ (32 : Int) := by assumption
            have h6 : ↑(s[k + 2]'(by omega)).toNat ≤ (32 : Int) := h5.resolve_left (fun e => h4 (beq_iff_eq.1 e))
            go_round
            case rel => exact ⟨1, k + 2, by go_num, by go_num, by omega, by rw [← HA.out, (Sk.A0_dash s k (Sk.dash_yes2 s k (by omega) h1 h3 h6)).1], .inr ⟨.inl rfl, by omega⟩⟩
            case measure => simp [intOf]; omega
          · have h0 : (↑s[k].toNat == (35 : Int)) = false := by assumption
            have h1 : ↑s[k].toNat = (45 : Int) := by assumption
            have h2 : (k : Int) + 1 < (s.size : Int) := by assumption
            have h4 : ¬ (k : Int) + 2 = (s.size : Int) := by assumption
            have h5 : ((k : Int) + 2 == (s.size : Int)) = false ∧ (32 : Int) < ↑(s[k + 2]'(by omega)).toNat := by assumption
            go_ret
            exact ⟨ret_int (by rw [← HA.out, Sk.A0_stop s k hlt hb (beq_eq_false_iff_ne.1 h0) (Sk.dash_no4 s k (by omega) h5.2) (Sk.open2_no1 s k hlt (by omega))]), rfl⟩
          · have h0 : (↑s[k].toNat == (35 : Int)) = false := by assumption
            have h1 : ↑s[k].toNat = (45 : Int) := by assumption
            have h2 : (k : Int) + 1 < (s.size : Int) := by assumption
            have h3 : ¬ ↑(s[k + 1]'(by omega)).toNat = (45 : Int) := by assumption
            go_ret
            exact ⟨ret_int (by rw [← HA.out, Sk.A0_stop s k hlt hb (beq_eq_false_iff_ne.1 h0) (Sk.dash_no3 s k (by omega) h3) (Sk.open2_no1 s k hlt (by omega))]), rfl⟩
          · have h0 : (↑s[k].toNat == (35 : Int)) = false := by assumption
            have h2 : (s.size : Int) ≤ (k : Int) + 1 := by assumption
            go_ret
            exact ⟨ret_int (by rw [← HA.out, Sk.A0_stop s k hlt hb (beq_eq_false_iff_ne.1 h0) (Sk.dash_no2 s k (by omega)) (Sk.open2_no2 s k (by omega))]), rfl⟩
          · have h1 : ↑s[k].toNat = (47 : Int) := by assumption
            have h2 : (k : Int) + 1 < (s.size : Int) := by assumption
            have h3 : (↑(s[k + 1]'(by omega)).toNat == (42 : Int)) = true := by assumption
            go_round
            case rel => exact ⟨2, k + 2, by go_num, by go_num, by omega, by rw [← HA.out, (Sk.A0_open s k (Sk.open2_yes s k (by omega) h1 (beq_iff_eq.1 h3))).1], .inr ⟨.inr rfl, by omega⟩⟩
            case measure => simp [intOf]; omega
          · have h0 : (↑s[k].toNat == (35 : Int)) = false := by assumption
            have h1 : ¬ ↑s[k].toNat = (45 : Int) := by assumption
            have h2 : (k : Int) + 1 < (s.size : Int) := by assumption
            have h3 : (↑(s[k + 1]'(by omega)).toNat == (42 : Int)) = false := by assumption
            go_ret
            exact ⟨ret_int (by rw [← HA.out, Sk.A0_stop s k hlt hb (beq_eq_false_iff_ne.1 h0) (Sk.dash_no1 s k hlt h1) (Sk.open2_no3 s k (by omega) (beq_eq_false_iff_ne.1 h3))]), rfl⟩
          · have h0 : (↑s[k].toNat == (35 : Int)) = false := by assumption
            have h2 : (s.size : Int) ≤ (k : Int) + 1 := by assumption
            go_ret
            exact ⟨ret_int (by rw [← HA.out, Sk.A0_stop s k hlt hb (beq_eq_false_iff_ne.1 h0) (Sk.dash_no2 s k (by omega)) (Sk.open2_no2 s k (by omega))]), rfl⟩
          · have h0 : (↑s[k].toNat == (35 : Int)) = false := by assumption
            have h1 : ¬ ↑s[k].toNat = (45 : Int) := by assumption
            have h3 : ¬ ↑s[k].toNat = (47 : Int) := by assumption
            go_ret
            exact ⟨ret_int (by rw [← HA.out, Sk.A0_stop s k hlt hb (beq_eq_false_iff_ne.1 h0) (Sk.dash_no1 s k hlt h1) (Sk.open2_no1 s k hlt h3)]), rfl⟩
        · go_wp2_with (go_at_call 35; refine (blank_yes _ _ hb).mono ?_; rintro e w' ⟨rfl, rfl⟩)
          go_round
          case rel => exact ⟨0, k + 1, by go_num, by go_num, by omega, by rw [← HA.out, Sk.A0_blank s k hlt hb], .inl rfl⟩
          case measure => simp [intOf]; omega
      · clear hk hks
        go_wp2
        · have h10 : (↑s[k].toNat == (10 : Int)) = true := by assumption
          go_round
          case rel => exact ⟨0, k + 1, by go_num, by go_num, by omega, by rw [← HA.out, Sk.A1_nl s k hlt (beq_iff_eq.1 h10)], .inl rfl⟩
          case measure => simp [intOf]; omega
        · have h10 : (↑s[k].toNat == (10 : Int)) = false := by assumption
          go_round
          case rel => exact ⟨1, k + 1, by go_num, by go_num, by omega, by rw [← HA.out, Sk.A1_no s k hlt (beq_eq_false_iff_ne.1 h10)], .inr ⟨.inl rfl, by omega⟩⟩
          case measure => simp [intOf]; omega
      · clear hk hks
        go_wp2
        · have h1 : ↑s[k].toNat = (42 : Int) := by assumption
          have h2 : (k : Int) + 1 < (s.size : Int) := by assumption
          have h3 : (↑(s[k + 1]'(by omega)).toNat == (47 : Int)) = true := by assumption
          go_round
          case rel => exact ⟨0, k + 2, by go_num, by go_num, by omega, by rw [← HA.out, Sk.A2_close s k (by omega) h1 (beq_iff_eq.1 h3)], .inl rfl⟩
          case measure => simp [intOf]; omega
        · have h2 : (k : Int) + 1 < (s.size : Int) := by assumption
          have h3 : (↑(s[k + 1]'(by omega)).toNat == (47 : Int)) = false := by assumption
          go_round
          case rel => exact ⟨2, k + 1, by go_num, by go_num, by omega, by rw [← HA.out, Sk.A2_on3 s k (by omega) (beq_eq_false_iff_ne.1 h3)], .inr ⟨.inr rfl, by omega⟩⟩
          case measure => simp [intOf]; omega
        · have h2 : ¬ (k : Int) + 1 < (s.size : Int) := by assumption
          go_round
          case rel => exact ⟨2, k + 1, by go_num, by go_num, by omega, by rw [← HA.out, Sk.A2_on2 s k hlt (by omega)], .inr ⟨.inr rfl, by omega⟩⟩
          case measure => simp [intOf]; omega
        · have h2 : ¬ ↑s[k].toNat = (42 : Int) := by assumption
          go_round
          case rel => exact ⟨2, k + 1, by go_num, by go_num, by omega, by rw [← HA.out, Sk.A2_on1 s k hlt h2], .inr ⟨.inr rfl, by omega⟩⟩
          case measure => simp [intOf]; omega
    · rcases hq with rfl | ⟨rfl | rfl, hks⟩
      · go_wp2
        go_ret
        exact ⟨ret_int (by rw [← HA.out, Sk.A0_end s k (by omega)]), rfl⟩
      · go_wp2
        go_ret
        have e : k = s.size := by omega
        exact ⟨ret_int (by rw [← HA.out, e, Sk.A1_end s]), rfl⟩
      · go_wp2
        go_ret
        exact ⟨ret_int (by rw [← HA.out, Sk.A2_end s k (by omega)]), rfl⟩
end Go.Proofs.Qxb6602738a
