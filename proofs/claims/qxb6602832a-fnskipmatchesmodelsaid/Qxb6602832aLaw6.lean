import Derived.Test.Qxb6602832aModel
import Derived.WalkKit
namespace Go.Proofs.Qxb6602832a
open Go.RowKit
set_option linter.unusedVariables false

set_option maxHeartbeats 1000000 in
theorem model_any (a : Option Addr) (n c i : Nat) (g : Nat → Int) (w : World) (hn : n ≤ 1048576) (hnc : n ≤ c) (hc : c ≤ 9223372036854775807) (hrow : Row w a n g) :
    Calls Try.prog 21 #[.slice a n c, .int .i64 i] w fun e w' => e = .returned (.int .i64 (Js.skp g n i)) ∧ w' = w := by
  by_cases hi : n ≤ i
  · rw [Js.skp_end g n i hi]
    exact model_out a n c i w (by omega)
  · rcases hrow with h0 | ⟨b, off, rfl, hcell⟩
    · omega
    · cases ho : Js.opens (g i)
      · rw [Js.skp_plain g n i (by omega) ho]
        exact model_scalar b off n c i g w hn hnc hc (by omega) hcell ho
      · rw [Js.skp_W g n i (by omega) ho]
        exact model_auto b off n c i g w hn hnc hc (by omega) hcell ho

set_option maxRecDepth 100000 in
set_option maxHeartbeats 1000000 in
theorem matches_walk (a : Option Addr) (n c : Nat) (zs : List Int) (k : Int) (w : World) (hrow : IsRow .u8 w a n c zs) (hk : k ≤ 9223372036854775807) (hn0 : n ≤ 9223372036854775807) :
    Calls Try.prog 6 #[.slice a n c, .int .i64 k] w fun e w' => e = .returned (.bool true) ∧ Below w.heap.size w w' := by
  obtain ⟨hr0, hrg, hnil⟩ := row_in hrow
  have HR : Hid (Row w a n (fun x => zs.getD x 0)) := hr0
  have HG : Hid (∀ x, 0 ≤ zs.getD x 0 ∧ zs.getD x 0 ≤ 255) := hrg
  have HN : Hid (a = none → n = 0) := hnil
  clear hr0 hrow hrg hnil
  generalize hgz : (fun x => zs.getD x 0) = g at *
  have HG' : Hid (∀ x, 0 ≤ g x ∧ g x ≤ 255) := fun x => by rw [← hgz]; exact HG.out x
  clear HG hgz zs
  by_cases h1 : n ≤ 1048576
  · by_cases h2 : k < 0
    · go_enter Try.func6, Try.ntmps6
      go_wp2
      go_ret
      exact ⟨rfl, Below.refl _ _⟩
    · obtain ⟨i, rfl⟩ := Int.eq_ofNat_of_zero_le (show 0 ≤ k by omega)
      generalize hz : Js.skp g n i = r at *
      have HZ : Hid (Js.skp g n i = r) := hz
      clear hz
      go_enter Try.func6, Try.ntmps6
      go_wp2_with (go_at_call 20; go_in)
      refine (clone_row a n c g w h1 HN.out HR.out).mono ?_
      rintro e w1 ⟨a', rfl, hrow1, hbel⟩
      have HR1 : Hid (Row w1 a' n g) := hrow1
      have HB : Hid (Below w.heap.size w w1) := hbel
      clear hbel hrow1
      go_wp2_with fail
      refine (zz_any a' n n i g _ h1 (Nat.le_refl _) (by omega) HR1.out HG'.out).mono ?_
      rintro e w2 ⟨rfl, rfl⟩
      rw [HZ.out]
      go_wp2_with fail
      refine (model_any a' n n i g _ h1 (Nat.le_refl _) (by omega) HR1.out).mono ?_
      rintro e w2 ⟨rfl, rfl⟩
      rw [HZ.out]
      go_wp2_with fail
      go_ret
      exact ⟨ret_bool (by simp), HB.out⟩
  · go_enter Try.func6, Try.ntmps6
    go_wp2
    go_ret
    exact ⟨rfl, Below.refl _ _⟩
end Go.Proofs.Qxb6602832a
