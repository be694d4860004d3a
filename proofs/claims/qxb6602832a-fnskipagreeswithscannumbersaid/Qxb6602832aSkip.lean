import Derived.Test.Qxb6602832aStr
import Derived.WalkKit
namespace Go.Proofs.Qxb6602832a
open Go.RowKit
set_option linter.unusedVariables false

def space (c : Int) : Bool := c == 32 || c == 9 || c == 10 || c == 13
set_option maxHeartbeats 400000 in
theorem space_yes (c : Int) (w : World) (h : space c = true) :
    Calls Try.prog 35 #[.int .u8 c] w fun e w' => e = .returned (.bool true) ∧ w' = w := by
  have hb : c = 32 ∨ c = 9 ∨ c = 10 ∨ c = 13 := by simpa [space, or_assoc] using h
  clear h
  rcases hb with rfl | rfl | rfl | rfl
  all_goals
    go_enter Try.func35, Try.ntmps35
    go_wp2
    go_ret
    exact ⟨rfl, rfl⟩
set_option maxHeartbeats 400000 in
theorem space_no (c : Int) (w : World) (h : space c = false) :
    Calls Try.prog 35 #[.int .u8 c] w fun e w' => e = .returned (.bool false) ∧ w' = w := by
  have hb : (((c == 32) = false ∧ (c == 9) = false) ∧ (c == 10) = false) ∧ (c == 13) = false := by simpa only [space, Bool.or_eq_false_iff] using h
  obtain ⟨⟨⟨h1, h2⟩, h3⟩, h4⟩ := hb
  clear h
  go_enter Try.func35, Try.ntmps35
  go_wp2
  go_ret
  exact ⟨rfl, rfl⟩
theorem stop_split (c : Int) : Js.stop c = ((c == 44) || (c == 93) || (c == 125) || space c) := by
  unfold Js.stop space; simp [Bool.or_assoc]

set_option maxHeartbeats 400000 in
theorem skip_out (a : Option Addr) (n c : Nat) (i : Int) (w : World) (h : (n : Int) ≤ i) :
    Calls Try.prog 31 #[.slice a n c, .int .i64 i] w fun e w' => e = .returned (.int .i64 n) ∧ w' = w := by
  go_enter Try.func31, Try.ntmps31
  go_wp2
  go_ret
  exact ⟨rfl, rfl⟩

set_option maxRecDepth 100000 in
set_option maxHeartbeats 4000000 in
theorem skip_scalar (b off n c i : Nat) (g : Nat → Int) (w : World) (hn : n ≤ 1048576) (hnc : n ≤ c) (hc : c ≤ 9223372036854775807) (hi : i < n)
    (hg : ∀ x, x < n → w.cell? ⟨b, off + x, none⟩ = some (.int .u8 (g x))) (ho : Js.opens (g i) = false) :
    Calls Try.prog 31 #[.slice (some ⟨b, off, none⟩) n c, .int .i64 i] w fun e w' => e = .returned (.int .i64 (Js.C g n i)) ∧ w' = w := by
  have hgi := hg i hi
  have hni : decide (n ≤ i) = false := decide_eq_false (by omega)
  have h3 : ((g i == 34) = false ∧ (g i == 91) = false) ∧ (g i == 123) = false := by simpa only [Js.opens, Bool.or_eq_false_iff] using ho
  obtain ⟨⟨h34, h91⟩, h123⟩ := h3
  have HG : Hid (∀ x, x < n → w.cell? ⟨b, off + x, none⟩ = some (.int .u8 (g x))) := hg
  clear hg ho
  go_enter Try.func31, Try.ntmps31
  go_wp2
  go_loop [1] (fun j => ∃ k : Nat, j = .int .i64 k ∧ k ≤ n ∧ Js.C g n k = Js.C g n i) (fun j => n - (intOf j).toNat)
  case atStart => exact ⟨i, rfl, by omega, rfl⟩
  case round =>
    obtain ⟨k, rfl, hk, hA⟩ := hrel
    have HA : Hid (Js.C g n k = Js.C g n i) := hA
    clear hA hgi h34 h91 h123
    by_cases hlt : k < n
    · have hgk := HG.out k hlt
      cases hs : Js.stop (g k)
      · have HS : Hid (Js.stop (g k) = false) := hs
        rw [stop_split] at hs
        simp only [Bool.or_eq_false_iff] at hs
        obtain ⟨⟨⟨n1, n2⟩, n3⟩, n4⟩ := hs
        have m1 : (g k != 44) = true := by rw [bne, n1]; rfl
        have m2 : (g k != 93) = true := by rw [bne, n2]; rfl
        have m3 : (g k != 125) = true := by rw [bne, n3]; rfl
        go_wp2_with (go_at_call 35; refine (space_no (g k) _ n4).mono ?_; rintro e w' ⟨rfl, rfl⟩)
        go_round
        case rel => exact ⟨k + 1, by go_num, by omega, by rw [← HA.out, Js.C_on g n k hlt HS.out]⟩
        case measure => simp [intOf]; omega
      · have HS : Hid (Js.stop (g k) = true) := hs
        clear hs
        by_cases e1 : g k = 44
        · have m1 : (g k != 44) = false := by rw [e1]; rfl
          clear e1
          go_wp2
          go_ret
          exact ⟨ret_int (by rw [← HA.out, Js.C_stop g n k hlt HS.out]), rfl⟩
        · have m1 : (g k != 44) = true := bne_iff_ne.2 e1
          by_cases e2 : g k = 93
          · have m2 : (g k != 93) = false := by rw [e2]; rfl
            clear e1 e2
            go_wp2
            go_ret
            exact ⟨ret_int (by rw [← HA.out, Js.C_stop g n k hlt HS.out]), rfl⟩
          · have m2 : (g k != 93) = true := bne_iff_ne.2 e2
            by_cases e3 : g k = 125
            · have m3 : (g k != 125) = false := by rw [e3]; rfl
              clear e1 e2 e3
              go_wp2
              go_ret
              exact ⟨ret_int (by rw [← HA.out, Js.C_stop g n k hlt HS.out]), rfl⟩
            · have m3 : (g k != 125) = true := bne_iff_ne.2 e3
              have hsp : space (g k) = true := by
                have := HS.out
                rw [stop_split, beq_eq_false_iff_ne.2 e1, beq_eq_false_iff_ne.2 e2, beq_eq_false_iff_ne.2 e3] at this
                exact this
              clear e1 e2 e3
              go_wp2_with (go_at_call 35; refine (space_yes (g k) _ hsp).mono ?_; rintro e w' ⟨rfl, rfl⟩)
              go_ret
              exact ⟨ret_int (by rw [← HA.out, Js.C_stop g n k hlt HS.out]), rfl⟩
    · have hlt' : decide ((k : Int) < (n : Int)) = false := decide_eq_false (by omega)
      go_wp2
      go_ret
      exact ⟨ret_int (by rw [← HA.out, Js.C_end g n k (by omega)]), rfl⟩

set_option maxRecDepth 100000 in
set_option maxHeartbeats 4000000 in
theorem skip_quote (b off n c i : Nat) (g : Nat → Int) (w : World) (hn : n ≤ 1048576) (hnc : n ≤ c) (hc : c ≤ 9223372036854775807) (hi : i < n)
    (hg : ∀ x, x < n → w.cell? ⟨b, off + x, none⟩ = some (.int .u8 (g x))) (hr : ∀ x, 0 ≤ g x ∧ g x ≤ 255) (ho : g i = 34) :
    Calls Try.prog 31 #[.slice (some ⟨b, off, none⟩) n c, .int .i64 i] w fun e w' => e = .returned (.int .i64 (Js.ss g (n - (i + 1)) (i + 1) false)) ∧ w' = w := by
  have hgi := hg i hi
  have hni : decide (n ≤ i) = false := decide_eq_false (by omega)
  have h34 : (g i == 34) = true := beq_iff_eq.2 ho
  have HG : Hid (∀ x, x < n → w.cell? ⟨b, off + x, none⟩ = some (.int .u8 (g x))) := hg
  clear hg ho
  go_enter Try.func31, Try.ntmps31
  go_wp2_with fail
  refine (str_any b off n c i g _ hn hnc hc hi HG.out hr).mono ?_
  rintro e w' ⟨rfl, rfl⟩
  go_wp2_with fail
  go_ret
  exact ⟨rfl, rfl⟩

set_option maxRecDepth 100000 in
set_option maxHeartbeats 4000000 in
theorem skip_open (b off n c i : Nat) (g : Nat → Int) (w : World) (hn : n ≤ 1048576) (hnc : n ≤ c) (hc : c ≤ 9223372036854775807) (hi : i < n)
    (hg : ∀ x, x < n → w.cell? ⟨b, off + x, none⟩ = some (.int .u8 (g x))) (hr : ∀ x, 0 ≤ g x ∧ g x ≤ 255) (ho : g i = 91 ∨ g i = 123) :
    Calls Try.prog 31 #[.slice (some ⟨b, off, none⟩) n c, .int .i64 i] w fun e w' => e = .returned (.int .i64 (Js.M g n 0 i)) ∧ w' = w := by
  have hgi := hg i hi
  have hni : decide (n ≤ i) = false := decide_eq_false (by omega)
  have h34 : (g i == 34) = false := beq_eq_false_iff_ne.2 (by omega)
  have HO : Hid (g i = 91 ∨ g i = 123) := ho
  have HG : Hid (∀ x, x < n → w.cell? ⟨b, off + x, none⟩ = some (.int .u8 (g x))) := hg
  clear hg
  rcases ho with ho | ho
  · have h91 : (g i == 91) = true := beq_iff_eq.2 ho
    clear ho
    go_enter Try.func31, Try.ntmps31
    go_wp2
    go_loop [1, 5] (fun j dep => ∃ k d : Nat, j = .int .i64 k ∧ dep = .int .i64 d ∧ k ≤ n ∧ d ≤ k ∧ (1 ≤ d ∨ (k = i ∧ d = 0)) ∧ Js.M g n d k = Js.M g n 0 i) (fun j _ => n - (intOf j).toNat)
    case atStart => exact ⟨i, 0, rfl, rfl, by omega, by omega, .inr ⟨rfl, rfl⟩, rfl⟩
    case round =>
      obtain ⟨k, d, rfl, rfl, hk, hdk, hd, hA⟩ := hrel
      have HA : Hid (Js.M g n d k = Js.M g n 0 i) := hA
      have HD : Hid (1 ≤ d ∨ (k = i ∧ d = 0)) := hd
      clear hA hd hgi h34 h91
      by_cases hlt : k < n
      · have hgk := HG.out k hlt
        by_cases e34 : g k = 34
        · have hd1 : 1 ≤ d := by
            rcases HD.out with h | ⟨h, _⟩
            · exact h
            · subst h; have := HO.out; omega
          have b34 : (g k == 34) = true := beq_iff_eq.2 e34
          have HM : Hid (Js.M g n d k = Js.M g n d (Js.ss g (n - (k + 1)) (k + 1) false)) := Js.M_quote g n d k hlt (by omega) e34
          clear e34
          have hbd := Js.ss_bd g (n - (k + 1)) (k + 1) false
          go_wp2_with fail
          refine (str_any b off n c k g _ hn hnc hc hlt HG.out hr).mono ?_
          rintro e w' ⟨rfl, rfl⟩
          generalize hz : Js.ss g (n - (k + 1)) (k + 1) false = z at *
          go_wp2_with fail
          go_round
          case rel => exact ⟨z, d, rfl, rfl, by omega, by omega, .inl hd1, by rw [← HA.out, HM.out]⟩
          case measure => simp [intOf]; omega
        · have b34 : (g k == 34) = false := beq_eq_false_iff_ne.2 e34
          by_cases e91 : g k = 91
          · have b91 : (g k == 91) = true := beq_iff_eq.2 e91
            have HM : Hid (Js.M g n d k = Js.M g n (d + 1) (k + 1)) := Js.M_open g n d k hlt (.inl e91)
            clear e34 e91
            go_wp2_with fail
            go_round
            case rel => exact ⟨k + 1, d + 1, by go_num, by go_num, by omega, by omega, .inl (by omega), by rw [← HA.out, HM.out]⟩
            case measure => simp [intOf]; omega
          · have b91 : (g k == 91) = false := beq_eq_false_iff_ne.2 e91
            by_cases e123 : g k = 123
            · have b123 : (g k == 123) = true := beq_iff_eq.2 e123
              have HM : Hid (Js.M g n d k = Js.M g n (d + 1) (k + 1)) := Js.M_open g n d k hlt (.inr e123)
              clear e34 e91 e123
              go_wp2_with fail
              go_round
              case rel => exact ⟨k + 1, d + 1, by go_num, by go_num, by omega, by omega, .inl (by omega), by rw [← HA.out, HM.out]⟩
              case measure => simp [intOf]; omega
            · have b123 : (g k == 123) = false := beq_eq_false_iff_ne.2 e123
              have hd1 : 1 ≤ d := by
                rcases HD.out with h | ⟨h, _⟩
                · exact h
                · subst h; have := HO.out; omega
              by_cases e93 : g k = 93
              · have b93 : (g k == 93) = true := beq_iff_eq.2 e93
                by_cases hd2 : d = 1
                · have HM : Hid (Js.M g n d k = k + 1) := by rw [hd2]; exact Js.M_last g n k hlt (.inl e93)
                  have bd : ((d : Int) - 1 == 0) = true := by rw [beq_iff_eq]; omega
                  clear e34 e91 e123 e93
                  have HD2 : Hid (d = 1) := hd2
                  clear hd2
                  go_wp2_with fail
                  go_ret
                  exact ⟨ret_int (by rw [← HA.out, HM.out]; omega), rfl⟩
                · have HM : Hid (Js.M g n d k = Js.M g n (d - 1) (k + 1)) := Js.M_close g n d k hlt (.inl e93) hd2
                  have bd : ((d : Int) - 1 == 0) = false := by rw [beq_eq_false_iff_ne]; omega
                  clear e34 e91 e123 e93
                  go_wp2_with fail
                  go_round
                  case rel => exact ⟨k + 1, d - 1, by go_num, by go_num, by omega, by omega, .inl (by omega), by rw [← HA.out, HM.out]⟩
                  case measure => simp [intOf]; omega
              · have b93 : (g k == 93) = false := beq_eq_false_iff_ne.2 e93
                by_cases e125 : g k = 125
                · have b125 : (g k == 125) = true := beq_iff_eq.2 e125
                  by_cases hd2 : d = 1
                  · have HM : Hid (Js.M g n d k = k + 1) := by rw [hd2]; exact Js.M_last g n k hlt (.inr e125)
                    have bd : ((d : Int) - 1 == 0) = true := by rw [beq_iff_eq]; omega
                    clear e34 e91 e123 e93 e125
                    have HD2 : Hid (d = 1) := hd2
                    clear hd2
                    go_wp2_with fail
                    go_ret
                    exact ⟨ret_int (by rw [← HA.out, HM.out]; omega), rfl⟩
                  · have HM : Hid (Js.M g n d k = Js.M g n (d - 1) (k + 1)) := Js.M_close g n d k hlt (.inr e125) hd2
                    have bd : ((d : Int) - 1 == 0) = false := by rw [beq_eq_false_iff_ne]; omega
                    clear e34 e91 e123 e93 e125
                    go_wp2_with fail
                    go_round
                    case rel => exact ⟨k + 1, d - 1, by go_num, by go_num, by omega, by omega, .inl (by omega), by rw [← HA.out, HM.out]⟩
                    case measure => simp [intOf]; omega
                · have b125 : (g k == 125) = false := beq_eq_false_iff_ne.2 e125
                  have HM : Hid (Js.M g n d k = Js.M g n d (k + 1)) := Js.M_on g n d k hlt e34 (by omega) (by omega)
                  clear e34 e91 e123 e93 e125
                  go_wp2_with fail
                  go_round
                  case rel => exact ⟨k + 1, d, by go_num, by go_num, by omega, by omega, .inl (by omega), by rw [← HA.out, HM.out]⟩
                  case measure => simp [intOf]; omega
      · go_wp2
        go_ret
        exact ⟨ret_int (by rw [← HA.out, Js.M_end g n d k (by omega)]; omega), rfl⟩
  · have h91 : (g i == 91) = false := beq_eq_false_iff_ne.2 (by omega)
    have h123 : (g i == 123) = true := beq_iff_eq.2 ho
    clear ho
    go_enter Try.func31, Try.ntmps31
    go_wp2
    go_loop [1, 5] (fun j dep => ∃ k d : Nat, j = .int .i64 k ∧ dep = .int .i64 d ∧ k ≤ n ∧ d ≤ k ∧ (1 ≤ d ∨ (k = i ∧ d = 0)) ∧ Js.M g n d k = Js.M g n 0 i) (fun j _ => n - (intOf j).toNat)
    case atStart => exact ⟨i, 0, rfl, rfl, by omega, by omega, .inr ⟨rfl, rfl⟩, rfl⟩
    case round =>
      obtain ⟨k, d, rfl, rfl, hk, hdk, hd, hA⟩ := hrel
      have HA : Hid (Js.M g n d k = Js.M g n 0 i) := hA
      have HD : Hid (1 ≤ d ∨ (k = i ∧ d = 0)) := hd
      clear hA hd hgi h34 h91 h123
      by_cases hlt : k < n
      · have hgk := HG.out k hlt
        by_cases e34 : g k = 34
        · have hd1 : 1 ≤ d := by
            rcases HD.out with h | ⟨h, _⟩
            · exact h
            · subst h; have := HO.out; omega
          have b34 : (g k == 34) = true := beq_iff_eq.2 e34
          have HM : Hid (Js.M g n d k = Js.M g n d (Js.ss g (n - (k + 1)) (k + 1) false)) := Js.M_quote g n d k hlt (by omega) e34
          clear e34
          have hbd := Js.ss_bd g (n - (k + 1)) (k + 1) false
          go_wp2_with fail
          refine (str_any b off n c k g _ hn hnc hc hlt HG.out hr).mono ?_
          rintro e w' ⟨rfl, rfl⟩
          generalize hz : Js.ss g (n - (k + 1)) (k + 1) false = z at *
          go_wp2_with fail
          go_round
          case rel => exact ⟨z, d, rfl, rfl, by omega, by omega, .inl hd1, by rw [← HA.out, HM.out]⟩
          case measure => simp [intOf]; omega
        · have b34 : (g k == 34) = false := beq_eq_false_iff_ne.2 e34
          by_cases e91 : g k = 91
          · have b91 : (g k == 91) = true := beq_iff_eq.2 e91
            have HM : Hid (Js.M g n d k = Js.M g n (d + 1) (k + 1)) := Js.M_open g n d k hlt (.inl e91)
            clear e34 e91
            go_wp2_with fail
            go_round
            case rel => exact ⟨k + 1, d + 1, by go_num, by go_num, by omega, by omega, .inl (by omega), by rw [← HA.out, HM.out]⟩
            case measure => simp [intOf]; omega
          · have b91 : (g k == 91) = false := beq_eq_false_iff_ne.2 e91
            by_cases e123 : g k = 123
            · have b123 : (g k == 123) = true := beq_iff_eq.2 e123
              have HM : Hid (Js.M g n d k = Js.M g n (d + 1) (k + 1)) := Js.M_open g n d k hlt (.inr e123)
              clear e34 e91 e123
              go_wp2_with fail
              go_round
              case rel => exact ⟨k + 1, d + 1, by go_num, by go_num, by omega, by omega, .inl (by omega), by rw [← HA.out, HM.out]⟩
              case measure => simp [intOf]; omega
            · have b123 : (g k == 123) = false := beq_eq_false_iff_ne.2 e123
              have hd1 : 1 ≤ d := by
                rcases HD.out with h | ⟨h, _⟩
                · exact h
                · subst h; have := HO.out; omega
              by_cases e93 : g k = 93
              · have b93 : (g k == 93) = true := beq_iff_eq.2 e93
                by_cases hd2 : d = 1
                · have HM : Hid (Js.M g n d k = k + 1) := by rw [hd2]; exact Js.M_last g n k hlt (.inl e93)
                  have bd : ((d : Int) - 1 == 0) = true := by rw [beq_iff_eq]; omega
                  clear e34 e91 e123 e93
                  have HD2 : Hid (d = 1) := hd2
                  clear hd2
                  go_wp2_with fail
                  go_ret
                  exact ⟨ret_int (by rw [← HA.out, HM.out]; omega), rfl⟩
                · have HM : Hid (Js.M g n d k = Js.M g n (d - 1) (k + 1)) := Js.M_close g n d k hlt (.inl e93) hd2
                  have bd : ((d : Int) - 1 == 0) = false := by rw [beq_eq_false_iff_ne]; omega
                  clear e34 e91 e123 e93
                  go_wp2_with fail
                  go_round
                  case rel => exact ⟨k + 1, d - 1, by go_num, by go_num, by omega, by omega, .inl (by omega), by rw [← HA.out, HM.out]⟩
                  case measure => simp [intOf]; omega
              · have b93 : (g k == 93) = false := beq_eq_false_iff_ne.2 e93
                by_cases e125 : g k = 125
                · have b125 : (g k == 125) = true := beq_iff_eq.2 e125
                  by_cases hd2 : d = 1
                  · have HM : Hid (Js.M g n d k = k + 1) := by rw [hd2]; exact Js.M_last g n k hlt (.inr e125)
                    have bd : ((d : Int) - 1 == 0) = true := by rw [beq_iff_eq]; omega
                    clear e34 e91 e123 e93 e125
                    have HD2 : Hid (d = 1) := hd2
                    clear hd2
                    go_wp2_with fail
                    go_ret
                    exact ⟨ret_int (by rw [← HA.out, HM.out]; omega), rfl⟩
                  · have HM : Hid (Js.M g n d k = Js.M g n (d - 1) (k + 1)) := Js.M_close g n d k hlt (.inr e125) hd2
                    have bd : ((d : Int) - 1 == 0) = false := by rw [beq_eq_false_iff_ne]; omega
                    clear e34 e91 e123 e93 e125
                    go_wp2_with fail
                    go_round
                    case rel => exact ⟨k + 1, d - 1, by go_num, by go_num, by omega, by omega, .inl (by omega), by rw [← HA.out, HM.out]⟩
                    case measure => simp [intOf]; omega
                · have b125 : (g k == 125) = false := beq_eq_false_iff_ne.2 e125
                  have HM : Hid (Js.M g n d k = Js.M g n d (k + 1)) := Js.M_on g n d k hlt e34 (by omega) (by omega)
                  clear e34 e91 e123 e93 e125
                  go_wp2_with fail
                  go_round
                  case rel => exact ⟨k + 1, d, by go_num, by go_num, by omega, by omega, .inl (by omega), by rw [← HA.out, HM.out]⟩
                  case measure => simp [intOf]; omega
      · go_wp2
        go_ret
        exact ⟨ret_int (by rw [← HA.out, Js.M_end g n d k (by omega)]; omega), rfl⟩
end Go.Proofs.Qxb6602832a
