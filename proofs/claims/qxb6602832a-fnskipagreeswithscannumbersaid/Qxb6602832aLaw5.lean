import Derived.Test.Qxb6602832aModel
import Derived.Test.Qxb6602832aScan
import Derived.WalkKit
namespace Go.Proofs.Qxb6602832a
open Go.RowKit
set_option linter.unusedVariables false

set_option maxHeartbeats 1000000 in
theorem zscan_any (b off n c i : Nat) (g : Nat → Int) (w : World) (hn : n ≤ 1048576) (hi : i < n)
    (hg : ∀ x, x < n → w.cell? ⟨b, off + x, none⟩ = some (.int .u8 (g x))) (hr : ∀ x, 0 ≤ g x ∧ g x ≤ 255) :
    Calls Try.prog 13 #[.slice (some ⟨b, off, none⟩) n c, .int .i64 i] w fun e w' => ∃ (d : Nat) (ok : Bool), e = .returned (.tuple #[.int .i64 d, .bool ok]) ∧ (ok = true → i ≤ d ∧ d ≤ n ∧ Seg g i d) ∧ w' = w := by
  have HG : Hid (∀ x, x < n → w.cell? ⟨b, off + x, none⟩ = some (.int .u8 (g x))) := hg
  have HR : Hid (∀ x, 0 ≤ g x ∧ g x ≤ 255) := hr
  clear hg hr
  go_enter Try.func13, Try.ntmps13
  go_wp2_with fail
  refine (scan_any b off n c i g _ hn hi HG.out HR.out).mono ?_
  rintro e w' ⟨d, ok, rfl, hok, rfl⟩
  have HK : Hid (ok = true → i ≤ d ∧ d ≤ n ∧ Seg g i d) := hok
  clear hok
  go_wp2_with fail
  go_ret2
  exact ⟨d, ok, rfl, HK.out, rfl⟩

set_option maxRecDepth 100000 in
set_option maxHeartbeats 1000000 in
theorem agrees_walk (a : Option Addr) (n c : Nat) (zs : List Int) (k : Int) (w : World) (hrow : IsRow .u8 w a n c zs) (hk : k ≤ 9223372036854775807) (hn0 : n ≤ 9223372036854775807) :
    Calls Try.prog 5 #[.slice a n c, .int .i64 k] w fun e w' => e = .returned (.bool true) ∧ Below w.heap.size w w' := by
  obtain ⟨hr0, hrg, hnil⟩ := row_in hrow
  have HR : Hid (Row w a n (fun x => zs.getD x 0)) := hr0
  have HG : Hid (∀ x, 0 ≤ zs.getD x 0 ∧ zs.getD x 0 ≤ 255) := hrg
  have HN : Hid (a = none → n = 0) := hnil
  clear hr0 hrow hrg hnil
  generalize hgz : (fun x => zs.getD x 0) = g at *
  have HG' : Hid (∀ x, 0 ≤ g x ∧ g x ≤ 255) := fun x => by rw [← hgz]; exact HG.out x
  clear HG hgz zs
  by_cases h1 : n ≤ 1048576
  · by_cases h2 : k < 0
    · go_enter Try.func5, Try.ntmps5
      go_wp2
      go_ret
      exact ⟨rfl, Below.refl _ _⟩
    · by_cases h3 : (n : Int) ≤ k
      · go_enter Try.func5, Try.ntmps5
        go_wp2
        go_ret
        exact ⟨rfl, Below.refl _ _⟩
      · obtain ⟨i, rfl⟩ := Int.eq_ofNat_of_zero_le (show 0 ≤ k by omega)
        have hi : i < n := by omega
        go_enter Try.func5, Try.ntmps5
        go_wp2_with (go_at_call 17; go_in)
        refine (clone_row a n c g w h1 HN.out HR.out).mono ?_
        rintro e w1 ⟨a', rfl, hrow1, hbel⟩
        have HR1 : Hid (Row w1 a' n g) := hrow1
        have HB : Hid (Below w.heap.size w w1) := hbel
        clear hbel
        obtain ⟨b, off, rfl, hcell⟩ : ∃ b off, a' = some ⟨b, off, none⟩ ∧ ∀ x, x < n → w1.cell? ⟨b, off + x, none⟩ = some (.int .u8 (g x)) := by
          rcases hrow1 with h | h
          · omega
          · exact h
        have HC : Hid (∀ x, x < n → w1.cell? ⟨b, off + x, none⟩ = some (.int .u8 (g x))) := hcell
        clear hrow1 hcell
        go_wp2_with fail
        refine (zscan_any b off n n i g _ h1 hi HC.out HG'.out).mono ?_
        rintro e w2 ⟨d, ok, rfl, hok, rfl⟩
        cases ok
        · clear hok
          go_wp2
          go_ret
          exact ⟨rfl, HB.out⟩
        · obtain ⟨f1, f2, f3⟩ := hok rfl
          have HSG : Hid (Seg g i d) := f3
          clear hok f3
          by_cases hdn : d < n
          · have hdd : decide ((d : Int) < (n : Int)) = true := decide_eq_true (by omega)
            have hcd := HC.out d hdn
            cases hs : Js.stop (g d)
            · have HST : Hid (Js.stop (g d) = false) := hs
              clear hs
              go_wp2_with (go_at_call 18; refine (stop_no (g d) _ HST.out).mono ?_; rintro e w' ⟨rfl, rfl⟩)
              go_ret
              exact ⟨rfl, HB.out⟩
            · have HST : Hid (Js.stop (g d) = true) := hs
              have HZ : Hid (Js.skp g n i = d) := numb_skips g n i d f1 f2 HSG.out (.inr hs) hi
              clear hs
              go_wp2_with (go_at_call 18; refine (stop_yes (g d) _ HST.out).mono ?_; rintro e w' ⟨rfl, rfl⟩)
              refine (zz_any (some ⟨b, off, none⟩) n n i g _ h1 (Nat.le_refl _) (by omega) HR1.out HG'.out).mono ?_
              rintro e w2 ⟨rfl, rfl⟩
              rw [HZ.out]
              go_wp2_with fail
              go_ret
              exact ⟨ret_bool (by simp), HB.out⟩
          · have hdd : decide ((d : Int) < (n : Int)) = false := decide_eq_false (by omega)
            have HZ : Hid (Js.skp g n i = d) := numb_skips g n i d f1 f2 HSG.out (.inl (by omega)) hi
            go_wp2_with fail
            refine (zz_any (some ⟨b, off, none⟩) n n i g _ h1 (Nat.le_refl _) (by omega) HR1.out HG'.out).mono ?_
            rintro e w2 ⟨rfl, rfl⟩
            rw [HZ.out]
            go_wp2_with fail
            go_ret
            exact ⟨ret_bool (by simp), HB.out⟩
  · go_enter Try.func5, Try.ntmps5
    go_wp2
    go_ret
    exact ⟨rfl, Below.refl _ _⟩
end Go.Proofs.Qxb6602832a
