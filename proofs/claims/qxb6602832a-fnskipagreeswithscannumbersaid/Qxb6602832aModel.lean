import Derived.Test.Qxb6602832aZz
import Derived.WalkKit
namespace Go.Proofs.Qxb6602832a
open Go.RowKit
set_option linter.unusedVariables false

namespace Js
def W (g : Nat → Int) (n k d : Nat) (q e : Bool) : Nat := md g (n - k) k d q e
theorem W_end (g : Nat → Int) (n k d : Nat) (q e : Bool) (h : n ≤ k) : W g n k d q e = k := by unfold W; rw [show n - k = 0 from by omega]; rfl
theorem W_te (g : Nat → Int) (n k d : Nat) (h : k < n) : W g n k d true true = W g n (k + 1) d true false := by unfold W; rw [fuel n k h, md_te]
theorem W_t92 (g : Nat → Int) (n k d : Nat) (h : k < n) (hc : g k = 92) : W g n k d true false = W g n (k + 1) d true true := by unfold W; rw [fuel n k h, md_tf, if_pos hc]
theorem W_t34z (g : Nat → Int) (n k : Nat) (h : k < n) (hc : g k = 34) : W g n k 0 true false = k + 1 := by unfold W; rw [fuel n k h, md_tf, if_neg (by omega), if_pos hc, if_pos rfl]
theorem W_t34 (g : Nat → Int) (n k d : Nat) (h : k < n) (hc : g k = 34) (hd : ¬ d = 0) : W g n k d true false = W g n (k + 1) d false false := by unfold W; rw [fuel n k h, md_tf, if_neg (by omega), if_pos hc, if_neg hd]
theorem W_t (g : Nat → Int) (n k d : Nat) (h : k < n) (h1 : ¬ g k = 92) (h2 : ¬ g k = 34) : W g n k d true false = W g n (k + 1) d true false := by unfold W; rw [fuel n k h, md_tf, if_neg h1, if_neg h2]
theorem W_f34 (g : Nat → Int) (n k d : Nat) (h : k < n) (hc : g k = 34) : W g n k d false false = W g n (k + 1) d true false := by unfold W; rw [fuel n k h, md_f, if_pos hc]
theorem W_fo (g : Nat → Int) (n k d : Nat) (h : k < n) (hc : g k = 91 ∨ g k = 123) : W g n k d false false = W g n (k + 1) (d + 1) false false := M_open g n d k h hc
theorem W_fc (g : Nat → Int) (n k d : Nat) (h : k < n) (hc : g k = 93 ∨ g k = 125) (hd : ¬ d = 1) : W g n k d false false = W g n (k + 1) (d - 1) false false := M_close g n d k h hc hd
theorem W_fl (g : Nat → Int) (n k : Nat) (h : k < n) (hc : g k = 93 ∨ g k = 125) : W g n k 1 false false = k + 1 := M_last g n k h hc
theorem W_f (g : Nat → Int) (n k d : Nat) (h : k < n) (h1 : ¬ g k = 34) (h2 : ¬ (g k = 91 ∨ g k = 123)) (h3 : ¬ (g k = 93 ∨ g k = 125)) : W g n k d false false = W g n (k + 1) d false false := M_on g n d k h h1 h2 h3
theorem skp_W (g : Nat → Int) (n i : Nat) (h : i < n) (ho : opens (g i) = true) : skp g n i = W g n i 0 false false := by
  unfold skp W; rw [if_neg (by omega), if_pos ho]
end Js

set_option maxHeartbeats 400000 in
theorem stop_yes (c : Int) (w : World) (h : Js.stop c = true) :
    Calls Try.prog 18 #[.int .u8 c] w fun e w' => e = .returned (.bool true) ∧ w' = w := by
  have hb := (Js.stop_iff c).1 h
  clear h
  rcases hb with rfl | rfl | rfl | rfl | rfl | rfl | rfl
  all_goals
    go_enter Try.func18, Try.ntmps18
    go_wp2
    go_ret
    exact ⟨rfl, rfl⟩
set_option maxHeartbeats 400000 in
theorem stop_no (c : Int) (w : World) (h : Js.stop c = false) :
    Calls Try.prog 18 #[.int .u8 c] w fun e w' => e = .returned (.bool false) ∧ w' = w := by
  have hb : ((((((c == 44) = false ∧ (c == 93) = false) ∧ (c == 125) = false) ∧ (c == 32) = false) ∧ (c == 9) = false) ∧ (c == 10) = false) ∧ (c == 13) = false := by simpa only [Js.stop, Bool.or_eq_false_iff] using h
  obtain ⟨⟨⟨⟨⟨⟨h1, h2⟩, h3⟩, h4⟩, h5⟩, h6⟩, h7⟩ := hb
  clear h
  go_enter Try.func18, Try.ntmps18
  go_wp2
  go_ret
  exact ⟨rfl, rfl⟩

set_option maxHeartbeats 400000 in
theorem model_out (a : Option Addr) (n c : Nat) (i : Int) (w : World) (h : (n : Int) ≤ i) :
    Calls Try.prog 21 #[.slice a n c, .int .i64 i] w fun e w' => e = .returned (.int .i64 n) ∧ w' = w := by
  go_enter Try.func21, Try.ntmps21
  go_wp2
  go_ret
  exact ⟨rfl, rfl⟩

set_option maxRecDepth 100000 in
set_option maxHeartbeats 4000000 in
theorem model_scalar (b off n c i : Nat) (g : Nat → Int) (w : World) (hn : n ≤ 1048576) (hnc : n ≤ c) (hc : c ≤ 9223372036854775807) (hi : i < n)
    (hg : ∀ x, x < n → w.cell? ⟨b, off + x, none⟩ = some (.int .u8 (g x))) (ho : Js.opens (g i) = false) :
    Calls Try.prog 21 #[.slice (some ⟨b, off, none⟩) n c, .int .i64 i] w fun e w' => e = .returned (.int .i64 (Js.C g n i)) ∧ w' = w := by
  have hgi := hg i hi
  have hni : decide (n ≤ i) = false := decide_eq_false (by omega)
  have h3 : ((g i == 34) = false ∧ (g i == 91) = false) ∧ (g i == 123) = false := by simpa only [Js.opens, Bool.or_eq_false_iff] using ho
  obtain ⟨⟨h34, h91⟩, h123⟩ := h3
  have m34 : (g i != 34) = true := by rw [bne, h34]; rfl
  have m91 : (g i != 91) = true := by rw [bne, h91]; rfl
  have m123 : (g i != 123) = true := by rw [bne, h123]; rfl
  have HG : Hid (∀ x, x < n → w.cell? ⟨b, off + x, none⟩ = some (.int .u8 (g x))) := hg
  clear hg ho h34 h91 h123
  go_enter Try.func21, Try.ntmps21
  go_wp2
  go_loop [6] (fun j => ∃ k : Nat, j = .int .i64 k ∧ k ≤ n ∧ Js.C g n k = Js.C g n i) (fun j => n - (intOf j).toNat)
  case atStart => exact ⟨i, rfl, by omega, rfl⟩
  case round =>
    obtain ⟨k, rfl, hk, hA⟩ := hrel
    have HA : Hid (Js.C g n k = Js.C g n i) := hA
    clear hA hgi m34 m91 m123
    by_cases hlt : k < n
    · have hgk := HG.out k hlt
      cases hs : Js.stop (g k)
      · have HS : Hid (Js.stop (g k) = false) := hs
        clear hs
        go_wp2_with (go_at_call 18; refine (stop_no (g k) _ HS.out).mono ?_; rintro e w' ⟨rfl, rfl⟩)
        go_round
        case rel => exact ⟨k + 1, by go_num, by omega, by rw [← HA.out, Js.C_on g n k hlt HS.out]⟩
        case measure => simp [intOf]; omega
      · have HS : Hid (Js.stop (g k) = true) := hs
        clear hs
        go_wp2_with (go_at_call 18; refine (stop_yes (g k) _ HS.out).mono ?_; rintro e w' ⟨rfl, rfl⟩)
        go_ret
        exact ⟨ret_int (by rw [← HA.out, Js.C_stop g n k hlt HS.out]), rfl⟩
    · go_wp2
      go_ret
      exact ⟨ret_int (by rw [← HA.out, Js.C_end g n k (by omega)]; omega), rfl⟩

set_option maxRecDepth 100000 in
set_option maxHeartbeats 8000000 in
theorem model_auto (b off n c i : Nat) (g : Nat → Int) (w : World) (hn : n ≤ 1048576) (hnc : n ≤ c) (hc : c ≤ 9223372036854775807) (hi : i < n)
    (hg : ∀ x, x < n → w.cell? ⟨b, off + x, none⟩ = some (.int .u8 (g x))) (ho : Js.opens (g i) = true) :
    Calls Try.prog 21 #[.slice (some ⟨b, off, none⟩) n c, .int .i64 i] w fun e w' => e = .returned (.int .i64 (Js.W g n i 0 false false)) ∧ w' = w := by
  have hgi := hg i hi
  have hni : decide (n ≤ i) = false := decide_eq_false (by omega)
  have ho3 := (Js.opens_iff (g i)).1 ho
  have HO : Hid (g i = 34 ∨ g i = 91 ∨ g i = 123) := ho3
  have HG : Hid (∀ x, x < n → w.cell? ⟨b, off + x, none⟩ = some (.int .u8 (g x))) := hg
  clear hg ho
  have h3 : (g i != 34) = false ∨ ((g i != 34) = true ∧ (g i != 91) = false) ∨ ((g i != 34) = true ∧ (g i != 91) = true ∧ (g i != 123) = false) := by
    rcases ho3 with h | h | h <;> rw [h] <;> decide
  clear ho3
  rcases h3 with m34 | ⟨m34, m91⟩ | ⟨m34, m91, m123⟩
  all_goals
    go_enter Try.func21, Try.ntmps21
    go_wp2
    go_loop [7, 8, 9, 10, 11] (fun dep qs es j _ => ∃ (k d : Nat) (q e : Bool), dep = .int .i64 d ∧ qs = .bool q ∧ es = .bool e ∧ j = .int .i64 k ∧ k ≤ n ∧ d ≤ k ∧ (q = false → e = false ∧ (1 ≤ d ∨ (k = i ∧ d = 0))) ∧ Js.W g n k d q e = Js.W g n i 0 false false) (fun _ _ _ j _ => n - (intOf j).toNat)
    case atStart => exact ⟨i, 0, false, false, rfl, rfl, rfl, rfl, by omega, by omega, fun _ => ⟨rfl, .inr ⟨rfl, rfl⟩⟩, rfl⟩
    case round =>
      obtain ⟨k, d, q, e, rfl, rfl, rfl, rfl, hk, hdk, hqe, hA⟩ := hrel
      have HA : Hid (Js.W g n k d q e = Js.W g n i 0 false false) := hA
      have HQ : Hid (q = false → e = false ∧ (1 ≤ d ∨ (k = i ∧ d = 0))) := hqe
      clear hA hqe hgi
      by_cases hlt : k < n
      · have hgk := HG.out k hlt
        cases q
        · obtain ⟨rfl, hd0⟩ := HQ.out rfl
          have HD : Hid (1 ≤ d ∨ (k = i ∧ d = 0)) := hd0
          clear hd0 HQ
          by_cases e34 : g k = 34
          · have b34 : (g k == 34) = true := beq_iff_eq.2 e34
            have HM : Hid (Js.W g n k d false false = Js.W g n (k + 1) d true false) := Js.W_f34 g n k d hlt e34
            clear e34
            go_wp2_with fail
            go_round
            case rel => exact ⟨k + 1, d, true, false, rfl, rfl, rfl, by go_num, by omega, by omega, (fun h => by cases h), by rw [← HA.out, HM.out]⟩
            case measure => simp [intOf]; omega
          · have b34 : (g k == 34) = false := beq_eq_false_iff_ne.2 e34
            by_cases e91 : g k = 91
            · have b91 : (g k == 91) = true := beq_iff_eq.2 e91
              have HM : Hid (Js.W g n k d false false = Js.W g n (k + 1) (d + 1) false false) := Js.W_fo g n k d hlt (.inl e91)
              clear e34 e91
              go_wp2_with fail
              go_round
              case rel => exact ⟨k + 1, d + 1, false, false, by go_num, rfl, rfl, by go_num, by omega, by omega, (fun _ => ⟨rfl, .inl (by omega)⟩), by rw [← HA.out, HM.out]⟩
              case measure => simp [intOf]; omega
            · have b91 : (g k == 91) = false := beq_eq_false_iff_ne.2 e91
              by_cases e123 : g k = 123
              · have b123 : (g k == 123) = true := beq_iff_eq.2 e123
                have HM : Hid (Js.W g n k d false false = Js.W g n (k + 1) (d + 1) false false) := Js.W_fo g n k d hlt (.inr e123)
                clear e34 e91 e123
                go_wp2_with fail
                go_round
                case rel => exact ⟨k + 1, d + 1, false, false, by go_num, rfl, rfl, by go_num, by omega, by omega, (fun _ => ⟨rfl, .inl (by omega)⟩), by rw [← HA.out, HM.out]⟩
                case measure => simp [intOf]; omega
              · have b123 : (g k == 123) = false := beq_eq_false_iff_ne.2 e123
                have hd1 : 1 ≤ d := by
                  rcases HD.out with h | ⟨h, _⟩
                  · exact h
                  · subst h; have := HO.out; omega
                by_cases e93 : g k = 93
                · have b93 : (g k == 93) = true := beq_iff_eq.2 e93
                  by_cases hd2 : d = 1
                  · have HM : Hid (Js.W g n k d false false = k + 1) := by rw [hd2]; exact Js.W_fl g n k hlt (.inl e93)
                    have bd : ((d : Int) - 1 == 0) = true := by rw [beq_iff_eq]; omega
                    clear e34 e91 e123 e93 hd2
                    go_wp2_with fail
                    go_ret
                    exact ⟨ret_int (by rw [← HA.out, HM.out]; omega), rfl⟩
                  · have HM : Hid (Js.W g n k d false false = Js.W g n (k + 1) (d - 1) false false) := Js.W_fc g n k d hlt (.inl e93) hd2
                    have bd : ((d : Int) - 1 == 0) = false := by rw [beq_eq_false_iff_ne]; omega
                    clear e34 e91 e123 e93
                    go_wp2_with fail
                    go_round
                    case rel => exact ⟨k + 1, d - 1, false, false, by go_num, rfl, rfl, by go_num, by omega, by omega, (fun _ => ⟨rfl, .inl (by omega)⟩), by rw [← HA.out, HM.out]⟩
                    case measure => simp [intOf]; omega
                · have b93 : (g k == 93) = false := beq_eq_false_iff_ne.2 e93
                  by_cases e125 : g k = 125
                  · have b125 : (g k == 125) = true := beq_iff_eq.2 e125
                    by_cases hd2 : d = 1
                    · have HM : Hid (Js.W g n k d false false = k + 1) := by rw [hd2]; exact Js.W_fl g n k hlt (.inr e125)
                      have bd : ((d : Int) - 1 == 0) = true := by rw [beq_iff_eq]; omega
                      clear e34 e91 e123 e93 e125 hd2
                      go_wp2_with fail
                      go_ret
                      exact ⟨ret_int (by rw [← HA.out, HM.out]; omega), rfl⟩
                    · have HM : Hid (Js.W g n k d false false = Js.W g n (k + 1) (d - 1) false false) := Js.W_fc g n k d hlt (.inr e125) hd2
                      have bd : ((d : Int) - 1 == 0) = false := by rw [beq_eq_false_iff_ne]; omega
                      clear e34 e91 e123 e93 e125
                      go_wp2_with fail
                      go_round
                      case rel => exact ⟨k + 1, d - 1, false, false, by go_num, rfl, rfl, by go_num, by omega, by omega, (fun _ => ⟨rfl, .inl (by omega)⟩), by rw [← HA.out, HM.out]⟩
                      case measure => simp [intOf]; omega
                  · have b125 : (g k == 125) = false := beq_eq_false_iff_ne.2 e125
                    have HM : Hid (Js.W g n k d false false = Js.W g n (k + 1) d false false) := Js.W_f g n k d hlt e34 (by omega) (by omega)
                    clear e34 e91 e123 e93 e125
                    go_wp2_with fail
                    go_round
                    case rel => exact ⟨k + 1, d, false, false, by go_num, rfl, rfl, by go_num, by omega, by omega, (fun _ => ⟨rfl, .inl (by omega)⟩), by rw [← HA.out, HM.out]⟩
                    case measure => simp [intOf]; omega
        · clear HQ
          cases e
          · by_cases e92 : g k = 92
            · have b92 : (g k == 92) = true := beq_iff_eq.2 e92
              have HM : Hid (Js.W g n k d true false = Js.W g n (k + 1) d true true) := Js.W_t92 g n k d hlt e92
              clear e92
              go_wp2_with fail
              go_round
              case rel => exact ⟨k + 1, d, true, true, by go_num, rfl, rfl, by go_num, by omega, by omega, (fun h => by cases h), by rw [← HA.out, HM.out]⟩
              case measure => simp [intOf]; omega
            · have b92 : (g k == 92) = false := beq_eq_false_iff_ne.2 e92
              by_cases e34 : g k = 34
              · have b34 : (g k == 34) = true := beq_iff_eq.2 e34
                by_cases hd2 : d = 0
                · have HM : Hid (Js.W g n k d true false = k + 1) := by rw [hd2]; exact Js.W_t34z g n k hlt e34
                  have bd : ((d : Int) == 0) = true := by rw [beq_iff_eq]; omega
                  clear e92 e34 hd2
                  go_wp2_with fail
                  go_ret
                  exact ⟨ret_int (by rw [← HA.out, HM.out]; omega), rfl⟩
                · have HM : Hid (Js.W g n k d true false = Js.W g n (k + 1) d false false) := Js.W_t34 g n k d hlt e34 hd2
                  have bd : ((d : Int) == 0) = false := by rw [beq_eq_false_iff_ne]; omega
                  clear e92 e34
                  go_wp2_with fail
                  go_round
                  case rel => exact ⟨k + 1, d, false, false, by go_num, rfl, rfl, by go_num, by omega, by omega, (fun _ => ⟨rfl, .inl (by omega)⟩), by rw [← HA.out, HM.out]⟩
                  case measure => simp [intOf]; omega
              · have b34 : (g k == 34) = false := beq_eq_false_iff_ne.2 e34
                have HM : Hid (Js.W g n k d true false = Js.W g n (k + 1) d true false) := Js.W_t g n k d hlt e92 e34
                clear e92 e34
                go_wp2_with fail
                go_round
                case rel => exact ⟨k + 1, d, true, false, by go_num, rfl, rfl, by go_num, by omega, by omega, (fun h => by cases h), by rw [← HA.out, HM.out]⟩
                case measure => simp [intOf]; omega
          · have HM : Hid (Js.W g n k d true true = Js.W g n (k + 1) d true false) := Js.W_te g n k d hlt
            go_wp2_with fail
            go_round
            case rel => exact ⟨k + 1, d, true, false, by go_num, rfl, rfl, by go_num, by omega, by omega, (fun h => by cases h), by rw [← HA.out, HM.out]⟩
            case measure => simp [intOf]; omega
      · go_wp2
        go_ret
        exact ⟨ret_int (by rw [← HA.out, Js.W_end g n k d q e (by omega)]; omega), rfl⟩
end Go.Proofs.Qxb6602832a
