import Derived.Test.Qxb6602832aNum
import Derived.WalkKit
import Derived.Deep.DeepCutAuto
namespace Go.Proofs.Qxb6602832a
open Go.RowKit
set_option linter.unusedVariables false

theorem e_byte_nat : ∀ m : Fin 256, (bits BinOp.or IntKind.u8 ((m.val : Nat) : Int) 32 == 101) = true → ((m.val : Nat) : Int) = 101 ∨ ((m.val : Nat) : Int) = 69 := by decide +kernel
theorem e_byte (c : Int) (h0 : 0 ≤ c) (h1 : c ≤ 255) (h : (bits BinOp.or IntKind.u8 c 32 == 101) = true) : numb c := by
  have := e_byte_nat ⟨c.toNat, by omega⟩
  simp only at this
  rw [Int.toNat_of_nonneg h0] at this
  rcases this h with e | e
  · exact .inr (.inr (.inr (.inr (.inl e))))
  · exact .inr (.inr (.inr (.inr (.inr e))))

set_option maxRecDepth 100000 in
set_option maxHeartbeats 4000000 in
theorem scan_any (b off n c i : Nat) (g : Nat → Int) (w : World) (hn : n ≤ 1048576) (hi : i < n)
    (hg : ∀ x, x < n → w.cell? ⟨b, off + x, none⟩ = some (.int .u8 (g x))) (hr : ∀ x, 0 ≤ g x ∧ g x ≤ 255) :
    Calls Try.prog 27 #[.slice (some ⟨b, off, none⟩) n c, .int .i64 i] w fun e w' => ∃ (d : Nat) (ok : Bool), e = .returned (.tuple #[.int .i64 d, .bool ok]) ∧ (ok = true → i ≤ d ∧ d ≤ n ∧ Seg g i d) ∧ w' = w := by
  have hgi := hg i hi
  have HG : Hid (∀ x, x < n → w.cell? ⟨b, off + x, none⟩ = some (.int .u8 (g x))) := hg
  have HR : Hid (∀ x, 0 ≤ g x ∧ g x ≤ 255) := hr
  clear hg hr
  go_enter Try.func27, Try.ntmps27
  go_upto_if 12 with (fail)
  go_cut [1] (fun s wc => wc = w ∧ ∃ p : Nat, s = .int .i64 p ∧ i ≤ p ∧ p ≤ n ∧ Seg g i p)
  case first =>
    by_cases e45 : g i = 45
    · have b45 : (g i == 45) = true := beq_iff_eq.2 e45
      have HS : Hid (Seg g i (i + 1)) := (Seg.nil g i).snoc (.inr (.inl e45))
      clear e45
      go_wp2
      go_meet
      case rel => exact ⟨rfl, i + 1, by go_num, by omega, by omega, HS.out⟩
    · have b45 : (g i == 45) = false := beq_eq_false_iff_ne.2 e45
      clear e45
      go_wp2
      go_meet
      case rel => exact ⟨rfl, i, rfl, by omega, by omega, Seg.nil g i⟩
  case rest =>
    obtain ⟨rfl, p, rfl, hp1, hp2, hseg⟩ := hcut
    have HS : Hid (Seg g i p) := hseg
    clear hseg hgi
    by_cases hpn : p < n
    · have hgp := HG.out p hpn
      have hd0 : decide (n ≤ p) = false := decide_eq_false (by omega)
      go_upto_if 25 with (fail)
      go_cut [1] (fun s wd => wd = wc ∧ ∃ q : Nat, s = .int .i64 q ∧ i ≤ q ∧ q ≤ n ∧ Seg g i q)
      case first =>
        by_cases e48 : g p = 48
        · have b48 : (g p == 48) = true := beq_iff_eq.2 e48
          have HS2 : Hid (Seg g i (p + 1)) := HS.out.snoc (.inl (by omega))
          clear e48
          go_wp2
          go_meet
          case rel => exact ⟨rfl, p + 1, by go_num, by omega, by omega, HS2.out⟩
        · have b48 : (g p == 48) = false := beq_eq_false_iff_ne.2 e48
          clear e48
          cases hd : dig (g p)
          · have HD : Hid (dig (g p) = false) := hd
            clear hd
            go_wp2_with (go_at_call 32; refine (dig_no (g p) _ HD.out).mono ?_; rintro e w' ⟨rfl, rfl⟩)
            go_ret2
            exact ⟨p, false, rfl, (fun h => by cases h), rfl⟩
          · have HD : Hid (dig (g p) = true) := hd
            clear hd
            go_wp2_with (go_at_call 32; refine (dig_yes (g p) _ HD.out).mono ?_; rintro e w' ⟨rfl, rfl⟩)
            refine (digits_any b off n c p p rfl g _ hn (by omega) HG.out).mono ?_
            rintro e w' ⟨d, rfl, hd1, hd2, hds, rfl⟩
            have HS2 : Hid (Seg g i d) := HS.out.join hds
            clear hds
            go_wp2
            go_meet
            case rel => exact ⟨rfl, d, rfl, by omega, by omega, HS2.out⟩
      case rest =>
        obtain ⟨rfl, q, rfl, hq1, hq2, hseg2⟩ := hcut
        have HS2 : Hid (Seg g i q) := hseg2
        clear hseg2 HS hgp
        go_upto_region 10 with (fail)
        go_cut [47] (fun s wd => wd = wc ∧ s = .bool (decide (q < n ∧ g q = 46)))
        case first =>
          by_cases hqn : q < n
          · have hdq : decide ((q : Int) < (n : Int)) = true := decide_eq_true (by omega)
            have hgq := HG.out q hqn
            by_cases e46 : g q = 46
            · have b46 : (g q == 46) = true := beq_iff_eq.2 e46
              have HE : Hid (decide (q < n ∧ g q = 46) = true) := decide_eq_true ⟨hqn, e46⟩
              clear e46
              go_wp2
              go_meet
              case rel => exact ⟨rfl, by rw [HE.out]⟩
            · have b46 : (g q == 46) = false := beq_eq_false_iff_ne.2 e46
              have HE : Hid (decide (q < n ∧ g q = 46) = false) := decide_eq_false (fun h => e46 h.2)
              clear e46
              go_wp2
              go_meet
              case rel => exact ⟨rfl, by rw [HE.out]⟩
          · have hdq : decide ((q : Int) < (n : Int)) = false := decide_eq_false (by omega)
            have HE : Hid (decide (q < n ∧ g q = 46) = false) := decide_eq_false (fun h => hqn h.1)
            go_wp2
            go_meet
            case rel => exact ⟨rfl, by rw [HE.out]⟩
        case rest =>
          obtain ⟨rfl, rfl⟩ := hcut
          generalize hD : decide (q < n ∧ g q = 46) = D
          have HD : Hid (decide (q < n ∧ g q = 46) = D) := hD
          clear hD
          go_upto_if 47 with (fail)
          go_cut [1] (fun s wd => wd = wc ∧ ∃ r : Nat, s = .int .i64 r ∧ i ≤ r ∧ r ≤ n ∧ Seg g i r)
          case first =>
            cases D
            · go_wp2
              go_meet
              case rel => exact ⟨rfl, q, rfl, by omega, by omega, HS2.out⟩
            · obtain ⟨hqn, e46⟩ := of_decide_eq_true HD.out
              have HS3 : Hid (Seg g i (q + 1)) := HS2.out.snoc (.inr (.inr (.inr (.inl e46))))
              clear e46 HD
              go_wp2_with fail
              refine (digits_any b off n c ((q : Int) + 1) (q + 1) (by omega) g _ hn (by omega) HG.out).mono ?_
              rintro e w' ⟨d, rfl, hd1, hd2, hds, rfl⟩
              have HS4 : Hid (Seg g i d) := HS3.out.join hds
              clear hds
              by_cases hde : d = q + 1
              · have bde : ((d : Int) == (q : Int) + 1) = true := by rw [beq_iff_eq]; omega
                clear hde
                go_wp2
                go_ret2
                exact ⟨d, false, rfl, (fun h => by cases h), rfl⟩
              · have bde : ((d : Int) == (q : Int) + 1) = false := by rw [beq_eq_false_iff_ne]; omega
                go_wp2
                go_meet
                case rel => exact ⟨rfl, d, rfl, by omega, by omega, HS4.out⟩
          case rest =>
            obtain ⟨rfl, r, rfl, hr1, hr2, hseg3⟩ := hcut
            have HS3 : Hid (Seg g i r) := hseg3
            clear hseg3 HS2
            by_cases hrn : r < n
            · have hgr := HG.out r hrn
              have hdr : decide ((r : Int) < (n : Int)) = true := decide_eq_true (by omega)
              cases hE : (bits BinOp.or IntKind.u8 (g r) 32 == 101)
              · go_wp2
                go_ret2
                exact ⟨r, true, rfl, (fun _ => ⟨hr1, hr2, HS3.out⟩), rfl⟩
              · have hnb : numb (g r) := e_byte (g r) (HR.out r).1 (HR.out r).2 hE
                have HS4 : Hid (Seg g i (r + 1)) := HS3.out.snoc hnb
                clear hnb
                by_cases hrn2 : r + 1 < n
                · have hgr2 := HG.out (r + 1) hrn2
                  have hdr2 : decide ((r : Int) + 1 < (n : Int)) = true := decide_eq_true (by omega)
                  by_cases e43 : g (r + 1) = 43
                  · have b43 : (g (r + 1) == 43) = true := beq_iff_eq.2 e43
                    have HS5 : Hid (Seg g i (r + 2)) := HS4.out.snoc (.inr (.inr (.inl e43)))
                    clear e43
                    go_wp2_with fail
                    refine (digits_any b off n c ((r : Int) + 2) (r + 2) (by omega) g _ hn (by omega) HG.out).mono ?_
                    rintro e w' ⟨d, rfl, hd1, hd2, hds, rfl⟩
                    have HS6 : Hid (Seg g i d) := HS5.out.join hds
                    clear hds
                    by_cases hde : d = r + 2
                    · have bde : ((d : Int) == (r : Int) + 2) = true := by rw [beq_iff_eq]; omega
                      clear hde
                      go_wp2
                      go_ret2
                      exact ⟨d, false, rfl, (fun h => by cases h), rfl⟩
                    · have bde : ((d : Int) == (r : Int) + 2) = false := by rw [beq_eq_false_iff_ne]; omega
                      go_wp2
                      go_ret2
                      exact ⟨d, true, rfl, (fun _ => ⟨by omega, hd2, HS6.out⟩), rfl⟩
                  · have b43 : (g (r + 1) == 43) = false := beq_eq_false_iff_ne.2 e43
                    clear e43
                    by_cases e45 : g (r + 1) = 45
                    · have b45 : (g (r + 1) == 45) = true := beq_iff_eq.2 e45
                      have HS5 : Hid (Seg g i (r + 2)) := HS4.out.snoc (.inr (.inl e45))
                      clear e45
                      go_wp2_with fail
                      refine (digits_any b off n c ((r : Int) + 2) (r + 2) (by omega) g _ hn (by omega) HG.out).mono ?_
                      rintro e w' ⟨d, rfl, hd1, hd2, hds, rfl⟩
                      have HS6 : Hid (Seg g i d) := HS5.out.join hds
                      clear hds
                      by_cases hde : d = r + 2
                      · have bde : ((d : Int) == (r : Int) + 2) = true := by rw [beq_iff_eq]; omega
                        clear hde
                        go_wp2
                        go_ret2
                        exact ⟨d, false, rfl, (fun h => by cases h), rfl⟩
                      · have bde : ((d : Int) == (r : Int) + 2) = false := by rw [beq_eq_false_iff_ne]; omega
                        go_wp2
                        go_ret2
                        exact ⟨d, true, rfl, (fun _ => ⟨by omega, hd2, HS6.out⟩), rfl⟩
                    · have b45 : (g (r + 1) == 45) = false := beq_eq_false_iff_ne.2 e45
                      have HS5 : Hid (Seg g i (r + 1)) := HS4.out
                      clear e45
                      go_wp2_with fail
                      refine (digits_any b off n c ((r : Int) + 1) (r + 1) (by omega) g _ hn (by omega) HG.out).mono ?_
                      rintro e w' ⟨d, rfl, hd1, hd2, hds, rfl⟩
                      have HS6 : Hid (Seg g i d) := HS5.out.join hds
                      clear hds
                      by_cases hde : d = r + 1
                      · have bde : ((d : Int) == (r : Int) + 1) = true := by rw [beq_iff_eq]; omega
                        clear hde
                        go_wp2
                        go_ret2
                        exact ⟨d, false, rfl, (fun h => by cases h), rfl⟩
                      · have bde : ((d : Int) == (r : Int) + 1) = false := by rw [beq_eq_false_iff_ne]; omega
                        go_wp2
                        go_ret2
                        exact ⟨d, true, rfl, (fun _ => ⟨by omega, hd2, HS6.out⟩), rfl⟩
                · have hdr2 : decide ((r : Int) + 1 < (n : Int)) = false := decide_eq_false (by omega)
                  have HS5 : Hid (Seg g i (r + 1)) := HS4.out
                  go_wp2_with fail
                  refine (digits_any b off n c ((r : Int) + 1) (r + 1) (by omega) g _ hn (by omega) HG.out).mono ?_
                  rintro e w' ⟨d, rfl, hd1, hd2, hds, rfl⟩
                  have HS6 : Hid (Seg g i d) := HS5.out.join hds
                  clear hds
                  by_cases hde : d = r + 1
                  · have bde : ((d : Int) == (r : Int) + 1) = true := by rw [beq_iff_eq]; omega
                    clear hde
                    go_wp2
                    go_ret2
                    exact ⟨d, false, rfl, (fun h => by cases h), rfl⟩
                  · have bde : ((d : Int) == (r : Int) + 1) = false := by rw [beq_eq_false_iff_ne]; omega
                    go_wp2
                    go_ret2
                    exact ⟨d, true, rfl, (fun _ => ⟨by omega, hd2, HS6.out⟩), rfl⟩
            · have hdr : decide ((r : Int) < (n : Int)) = false := decide_eq_false (by omega)
              go_wp2
              go_ret2
              exact ⟨r, true, rfl, (fun _ => ⟨hr1, hr2, HS3.out⟩), rfl⟩
    · have hd0 : decide (n ≤ p) = true := decide_eq_true (by omega)
      go_wp2
      go_ret2
      exact ⟨n, false, rfl, (fun h => by cases h), rfl⟩
end Go.Proofs.Qxb6602832a
