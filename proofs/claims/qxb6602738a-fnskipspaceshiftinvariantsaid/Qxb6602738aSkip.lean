import Derived.Test.Qxb6602738aCalls
import Derived.WalkKit
namespace Go.Proofs.Qxb6602738a
open Go.RowKit

set_option maxRecDepth 100000 in
set_option maxHeartbeats 4000000 in
theorem skip_any (s : ByteArray) (i : Nat) (m : Int) (w : World) (hs : s.size ≤ 1048576) (hi : i ≤ 9223372036854775807) (hm : w.cell? ⟨0, 0, none⟩ = some (.int .i64 m)) :
    Calls Try.prog 34 #[.string s, .int .i64 i] w fun e w' => e = .returned (.int .i64 (Sk.A 0 s i)) ∧ w' = w := by
  go_enter Try.func34, Try.ntmps34
  go_wp2
  go_loop [1, 5, 6] (fun j _ _ => ∃ (k : Nat), j = .int .i64 k ∧ k ≤ 9223372036854775807 ∧ Sk.A 0 s k = Sk.A 0 s i) (fun j _ _ => s.size - (intOf j).toNat)
  case atStart => exact ⟨i, rfl, hi, rfl⟩
  case round =>
    obtain ⟨k, rfl, hk, hA⟩ := hrel
    have HA : Hid (Sk.A 0 s k = Sk.A 0 s i) := hA
    clear hA
    by_cases hlt : k < s.size
    · clear hk
      cases hb : Sk.blank s[k]
      · obtain ⟨n1, n2, n3, n4, n5⟩ := blank_not s[k] hb
        have HB : Hid (Sk.blank s[k] = false) := hb
        clear hb
        by_cases hh : (s[k].toNat : Int) = 35
        · have HL : Hid (Sk.A 0 s k = Sk.A 1 s k) := hash_A1 s k hlt hh
          rcases nl_cases s k (by omega) with hn | ⟨e, hn, he⟩
          · have HN : Hid (nl s k = -1) := hn
            clear hn
            go_wp2_with fail
            refine (nl_any s k (-1) _ HN.out).mono ?_
            rintro e w' ⟨rfl, rfl⟩
            go_wp2_with fail
            go_ret
            exact ⟨ret_int (by rw [← HA.out, HL.out, nl_none s k (by omega) HN.out]), rfl⟩
          · have HN : Hid (nl s k = (e : Int)) := hn
            clear hn
            go_wp2_with fail
            refine (nl_any s k e _ HN.out).mono ?_
            rintro e' w' ⟨rfl, rfl⟩
            go_wp2_with fail
            go_round
            case rel => exact ⟨k + (e + 1), by go_num, by omega, by rw [← HA.out, HL.out, nl_some s k e HN.out]⟩
            case measure => simp [intOf]; omega
        · have HH : Hid (¬ (s[k].toNat : Int) = 35) := hh
          have hh' : ((s[k].toNat : Int) == 35) = false := beq_eq_false_iff_ne.2 hh
          clear hh
          cases h45 : two s k 45 45
          · have H45 : Hid (two s k 45 45 = false) := h45
            clear h45
            cases h47 : two s k 47 42
            · have H47 : Hid (two s k 47 42 = false) := h47
              clear h47
              go_wp2_with fail
              refine (two_any s k 45 45 false _ H45.out).mono ?_
              rintro e w' ⟨rfl, rfl⟩
              go_wp2_with fail
              refine (two_any s k 47 42 false _ H47.out).mono ?_
              rintro e w' ⟨rfl, rfl⟩
              go_wp2_with fail
              go_ret
              exact ⟨ret_int (by rw [← HA.out, Sk.A0_stop s k hlt HB.out HH.out (by rw [dash_of, H45.out]; rfl) (by rw [← two_open]; exact H47.out)]), rfl⟩
            · obtain ⟨ho, hr⟩ := open_room s k h47
              have HL : Hid (Sk.A 0 s k = Sk.A 2 s (k + 2)) := ho
              have H47 : Hid (two s k 47 42 = true) := h47
              clear h47 ho
              rcases cl_cases s (k + 2) hr with hn | ⟨e, hn, he⟩
              · have HN : Hid (cl s (k + 2) = -1) := hn
                clear hn
                go_wp2_with fail
                refine (two_any s k 45 45 false _ H45.out).mono ?_
                rintro e w' ⟨rfl, rfl⟩
                go_wp2_with fail
                refine (two_any s k 47 42 true _ H47.out).mono ?_
                rintro e w' ⟨rfl, rfl⟩
                go_wp2_with fail
                refine (cl_any s (k + 2) (-1) m _ hs (by assumption) HN.out).mono ?_
                rintro e w' ⟨rfl, rfl⟩
                go_wp2_with fail
                go_ret
                exact ⟨ret_int (by rw [← HA.out, HL.out, cl_none s (k + 2) HN.out]), rfl⟩
              · have HN : Hid (cl s (k + 2) = (e : Int)) := hn
                clear hn
                go_wp2_with fail
                refine (two_any s k 45 45 false _ H45.out).mono ?_
                rintro e1 w' ⟨rfl, rfl⟩
                go_wp2_with fail
                refine (two_any s k 47 42 true _ H47.out).mono ?_
                rintro e1 w' ⟨rfl, rfl⟩
                go_wp2_with fail
                refine (cl_any s (k + 2) e m _ hs (by assumption) HN.out).mono ?_
                rintro e1 w' ⟨rfl, rfl⟩
                go_wp2_with fail
                go_round
                case rel => exact ⟨k + 2 + (e + 2), by go_num, by omega, by rw [← HA.out, HL.out, cl_some s (k + 2) e HN.out]⟩
                case measure => simp [intOf]; omega
          · have hr := two_room s k 45 45 h45
            have H45 : Hid (two s k 45 45 = true) := h45
            clear h45
            by_cases he2 : k + 2 = s.size
            · have HL : Hid (Sk.A 0 s k = Sk.A 1 s k) := dash_A1 s k (dash_end s k H45.out he2)
              have he2' : ((s.size : Int) == (k : Int) + 2) = true := by rw [beq_iff_eq]; omega
              have HE : Hid (k + 2 = s.size) := he2
              clear he2
              rcases nl_cases s k (by omega) with hn | ⟨e, hn, he⟩
              · have HN : Hid (nl s k = -1) := hn
                clear hn
                go_wp2_with fail
                refine (two_any s k 45 45 true _ H45.out).mono ?_
                rintro e1 w1 ⟨rfl, rfl⟩
                go_wp2_with fail
                refine (nl_any s k (-1) _ HN.out).mono ?_
                rintro e w' ⟨rfl, rfl⟩
                go_wp2_with fail
                go_ret
                exact ⟨ret_int (by rw [← HA.out, HL.out, nl_none s k (by omega) HN.out]), rfl⟩
              · have HN : Hid (nl s k = (e : Int)) := hn
                clear hn
                go_wp2_with fail
                refine (two_any s k 45 45 true _ H45.out).mono ?_
                rintro e1 w1 ⟨rfl, rfl⟩
                go_wp2_with fail
                refine (nl_any s k e _ HN.out).mono ?_
                rintro e' w' ⟨rfl, rfl⟩
                go_wp2_with fail
                go_round
                case rel => exact ⟨k + (e + 1), by go_num, by omega, by rw [← HA.out, HL.out, nl_some s k e HN.out]⟩
                case measure => simp [intOf]; omega
            · have hr2 : k + 2 < s.size := by omega
              have he2' : ((s.size : Int) == (k : Int) + 2) = false := by rw [beq_eq_false_iff_ne]; omega
              by_cases hlow : (s[k + 2].toNat : Int) ≤ 32
              · have HL : Hid (Sk.A 0 s k = Sk.A 1 s k) := dash_A1 s k (dash_low s k H45.out hr2 hlow)
                rcases nl_cases s k (by omega) with hn | ⟨e, hn, he⟩
                · have HN : Hid (nl s k = -1) := hn
                  clear hn
                  go_wp2_with fail
                  refine (two_any s k 45 45 true _ H45.out).mono ?_
                  rintro e1 w1 ⟨rfl, rfl⟩
                  go_wp2_with fail
                  refine (nl_any s k (-1) _ HN.out).mono ?_
                  rintro e w' ⟨rfl, rfl⟩
                  go_wp2_with fail
                  go_ret
                  exact ⟨ret_int (by rw [← HA.out, HL.out, nl_none s k (by omega) HN.out]), rfl⟩
                · have HN : Hid (nl s k = (e : Int)) := hn
                  clear hn
                  go_wp2_with fail
                  refine (two_any s k 45 45 true _ H45.out).mono ?_
                  rintro e1 w1 ⟨rfl, rfl⟩
                  go_wp2_with fail
                  refine (nl_any s k e _ HN.out).mono ?_
                  rintro e' w' ⟨rfl, rfl⟩
                  go_wp2_with fail
                  go_round
                  case rel => exact ⟨k + (e + 1), by go_num, by omega, by rw [← HA.out, HL.out, nl_some s k e HN.out]⟩
                  case measure => simp [intOf]; omega
              · have H47 : Hid (two s k 47 42 = false) := two_not s k hlt H45.out
                go_wp2_with fail
                refine (two_any s k 45 45 true _ H45.out).mono ?_
                rintro e w' ⟨rfl, rfl⟩
                go_wp2_with fail
                refine (two_any s k 47 42 false _ H47.out).mono ?_
                rintro e w' ⟨rfl, rfl⟩
                go_wp2_with fail
                go_ret
                exact ⟨ret_int (by rw [← HA.out, Sk.A0_stop s k hlt HB.out HH.out (Sk.dash_no4 s k hr2 (by omega)) (by rw [← two_open]; exact H47.out)]), rfl⟩
      · have HB : Hid (Sk.blank s[k] = true) := hb
        have hor := (Sk.blank_iff s[k]).1 hb
        clear hb
        rcases hor with hc | hc | hc | hc | hc
        all_goals
          go_wp2
          go_round
          case rel => exact ⟨k + 1, by go_num, by omega, by rw [← HA.out, Sk.A0_blank s k hlt HB.out]⟩
          case measure => simp [intOf]; omega
    · go_wp2
      go_ret
      exact ⟨ret_int (by rw [← HA.out, Sk.A0_end s k (by omega)]), rfl⟩
end Go.Proofs.Qxb6602738a
