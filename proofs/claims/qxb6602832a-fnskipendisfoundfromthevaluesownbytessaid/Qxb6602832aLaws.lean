import Derived.Test.Qxb6602832aZz
import Derived.Test.Qxb6602832aFacts
import Derived.WalkKit
import Derived.Deep.QuietTactic
import Derived.BigQuiet
import Derived.Deep.RegionWith
namespace Go.Proofs.Qxb6602832a
open Go.RowKit
set_option linter.unusedVariables false

theorem row_take {w : World} {a : Option Addr} {n r : Nat} {g : Nat → Int} (h : Row w a n g) (hr : r ≤ n) : Row w a r g := by
  rcases h with h | ⟨b, off, rfl, hc⟩
  · exact .inl (by omega)
  · exact .inr ⟨b, off, rfl, fun x hx => hc x (by omega)⟩

set_option maxRecDepth 100000 in
set_option maxHeartbeats 1000000 in
theorem own_walk (a : Option Addr) (n c : Nat) (zs : List Int) (k : Int) (w : World) (hrow : IsRow .u8 w a n c zs) (hk : k ≤ 9223372036854775807) (hn0 : n ≤ 9223372036854775807) :
    Calls Try.prog 8 #[.slice a n c, .int .i64 k] w fun e w' => e = .returned (.bool true) ∧ Below w.heap.size w w' := by
  obtain ⟨hr0, hrg, hnil⟩ := row_in hrow
  have HR : Hid (Row w a n (fun x => zs.getD x 0)) := hr0
  have HG : Hid (∀ x, 0 ≤ zs.getD x 0 ∧ zs.getD x 0 ≤ 255) := hrg
  have HN : Hid (a = none → n = 0) := hnil
  clear hr0 hrow hrg hnil
  generalize hgz : (fun x => zs.getD x 0) = g at *
  have HG' : Hid (∀ x, 0 ≤ g x ∧ g x ≤ 255) := fun x => by rw [← hgz]; exact HG.out x
  clear HG hgz zs
  by_cases h1 : n ≤ 1048576
  · by_cases h2 : k < 0
    · go_enter Try.func8, Try.ntmps8
      go_wp2
      go_ret
      exact ⟨rfl, Below.refl _ _⟩
    · by_cases h3 : (n : Int) ≤ k
      · go_enter Try.func8, Try.ntmps8
        go_wp2
        go_ret
        exact ⟨rfl, Below.refl _ _⟩
      · obtain ⟨i, rfl⟩ := Int.eq_ofNat_of_zero_le (show 0 ≤ k by omega)
        have hi : i < n := by omega
        obtain ⟨f1, f2, f3, f4⟩ := Js.skp_own g n i hi
        generalize hz : Js.skp g n i = r at *
        have HZ : Hid (Js.skp g n i = r) := hz
        have HZ2 : Hid (Js.skp g r i = r) := f4
        have HO : Hid (Js.opens (g i) = true → i < r) := f3
        clear hz f3 f4
        go_enter Try.func8, Try.ntmps8
        go_wp2_with (go_at_call 23; go_in)
        refine (clone_row a n c g w h1 HN.out HR.out).mono ?_
        rintro e w1 ⟨a', rfl, hrow1, hbel⟩
        have HR1 : Hid (Row w1 a' n g) := hrow1
        have HB : Hid (Below w.heap.size w w1) := hbel
        clear hbel
        obtain ⟨b, off, rfl, hcell⟩ : ∃ b off, a' = some ⟨b, off, none⟩ ∧ ∀ x, x < n → w1.cell? ⟨b, off + x, none⟩ = some (.int .u8 (g x)) := by
          rcases hrow1 with h | h
          · omega
          · exact h
        have hci := hcell i hi
        clear hrow1 hcell
        go_wp2_with fail
        refine (zz_any (some ⟨b, off, none⟩) n n i g _ h1 (Nat.le_refl _) (by omega) HR1.out HG'.out).mono ?_
        rintro e w1 ⟨rfl, rfl⟩
        rw [HZ.out]
        by_cases e34 : g i = 34
        · have hir : i < r := HO.out (by rw [e34]; rfl)
          have hne : ((r : Int) == (i : Int)) = false := by rw [beq_eq_false_iff_ne]; omega
          have b34 : (g i == 34) = true := beq_iff_eq.2 e34
          clear e34
          go_wp2_with fail
          refine (zz_any (some ⟨b, off, none⟩) r n i g _ (by omega) (by omega) (by omega) (row_take HR1.out f2) HG'.out).mono ?_
          rintro e w1 ⟨rfl, rfl⟩
          rw [HZ2.out]
          go_wp2_with fail
          go_ret
          exact ⟨ret_bool (by simp), HB.out⟩
        · have b34 : (g i == 34) = false := beq_eq_false_iff_ne.2 e34
          by_cases e91 : g i = 91
          · have hir : i < r := HO.out (by rw [e91]; rfl)
            have hne : ((r : Int) == (i : Int)) = false := by rw [beq_eq_false_iff_ne]; omega
            have b91 : (g i == 91) = true := beq_iff_eq.2 e91
            clear e34 e91
            go_wp2_with fail
            refine (zz_any (some ⟨b, off, none⟩) r n i g _ (by omega) (by omega) (by omega) (row_take HR1.out f2) HG'.out).mono ?_
            rintro e w1 ⟨rfl, rfl⟩
            rw [HZ2.out]
            go_wp2_with fail
            go_ret
            exact ⟨ret_bool (by simp), HB.out⟩
          · have b91 : (g i == 91) = false := beq_eq_false_iff_ne.2 e91
            by_cases e123 : g i = 123
            · have hir : i < r := HO.out (by rw [e123]; rfl)
              have hne : ((r : Int) == (i : Int)) = false := by rw [beq_eq_false_iff_ne]; omega
              have b123 : (g i == 123) = true := beq_iff_eq.2 e123
              clear e34 e91 e123
              go_wp2_with fail
              refine (zz_any (some ⟨b, off, none⟩) r n i g _ (by omega) (by omega) (by omega) (row_take HR1.out f2) HG'.out).mono ?_
              rintro e w1 ⟨rfl, rfl⟩
              rw [HZ2.out]
              go_wp2_with fail
              go_ret
              exact ⟨ret_bool (by simp), HB.out⟩
            · have b123 : (g i == 123) = false := beq_eq_false_iff_ne.2 e123
              clear e34 e91 e123
              go_wp2_with fail
              refine (zz_any (some ⟨b, off, none⟩) r n i g _ (by omega) (by omega) (by omega) (row_take HR1.out f2) HG'.out).mono ?_
              rintro e w1 ⟨rfl, rfl⟩
              rw [HZ2.out]
              go_wp2_with fail
              go_ret
              exact ⟨ret_bool (by simp), HB.out⟩
  · go_enter Try.func8, Try.ntmps8
    go_wp2
    go_ret
    exact ⟨rfl, Below.refl _ _⟩

theorem row_drew {w : World} {a : Option Addr} {n : Nat} {g : Nat → Int} (h : Row w a n g) (q : Nat) : Row (w.drewN q) a n g := by
  rcases h with h | ⟨b, off, rfl, hc⟩
  · exact .inl h
  · exact .inr ⟨b, off, rfl, fun x hx => hc x hx⟩
theorem below_drew {B : Nat} {w w' : World} (h : Below B w w') (q : Nat) : Below B w (w'.drewN q) := ⟨h.os, h.tape, h.output, h.size, h.block⟩
theorem zz_zero (a : Option Addr) (n c : Nat) (g : Nat → Int) (w : World) (hn : n ≤ 1048576) (hnc : n ≤ c) (hc : c ≤ 9223372036854775807) (hrow : Row w a n g) (hr : ∀ x, 0 ≤ g x ∧ g x ≤ 255) :
    Calls Try.prog 19 #[.slice a n c, .int .i64 0] w fun e w' => e = .returned (.int .i64 (Js.skp g n 0)) ∧ w' = w :=
  zz_any a n c 0 g w hn hnc hc hrow hr

set_option maxRecDepth 100000 in
set_option maxHeartbeats 1000000 in
theorem start_walk (a : Option Addr) (n c : Nat) (zs : List Int) (k : Int) (w : World) (hrow : IsRow .u8 w a n c zs) (hk : k ≤ 9223372036854775807) (hn0 : n ≤ 9223372036854775807) :
    Calls Try.prog 7 #[.slice a n c, .int .i64 k] w fun e w' => e = .returned (.bool true) ∧ Below w.heap.size w w' := by
  obtain ⟨hr0, hrg, hnil⟩ := row_in hrow
  have HR : Hid (Row w a n (fun x => zs.getD x 0)) := hr0
  have HG : Hid (∀ x, 0 ≤ zs.getD x 0 ∧ zs.getD x 0 ≤ 255) := hrg
  have HN : Hid (a = none → n = 0) := hnil
  clear hr0 hrow hrg hnil
  generalize hgz : (fun x => zs.getD x 0) = g at *
  have HG' : Hid (∀ x, 0 ≤ g x ∧ g x ≤ 255) := fun x => by rw [← hgz]; exact HG.out x
  clear HG hgz zs
  by_cases h1 : n ≤ 1048576
  · by_cases h2 : k < 0
    · go_enter Try.func7, Try.ntmps7
      go_wp2
      go_ret
      exact ⟨rfl, Below.refl _ _⟩
    · by_cases h3 : (n : Int) < k
      · go_enter Try.func7, Try.ntmps7
        go_wp2
        go_ret
        exact ⟨rfl, Below.refl _ _⟩
      · obtain ⟨i, rfl⟩ := Int.eq_ofNat_of_zero_le (show 0 ≤ k by omega)
        have hi : i ≤ n := by omega
        have hsh := Js.skp_shift g n i hi
        have hrn : Js.skp g n i ≤ n := by
          by_cases e : i < n
          · exact (Js.skp_own g n i e).2.1
          · rw [Js.skp_end g n i (by omega)]; exact Nat.le_refl _
        generalize hz : Js.skp g n i = r at *
        generalize hy : Js.skp (fun x => g (i + x)) (n - i) 0 = y at *
        have HZ : Hid (Js.skp g n i = r) := hz
        have HY : Hid (Js.skp (fun x => g (i + x)) (n - i) 0 = y) := hy
        have HS : Hid (r = i + y) := hsh
        have hyn : i + y ≤ n := by omega
        clear hz hy hsh
        go_enter Try.func7, Try.ntmps7
        go_wp2_with (go_at_call 22; go_in)
        refine (clone_row a n c g w h1 HN.out HR.out).mono ?_
        rintro e w1 ⟨a', rfl, hrow1, hbel⟩
        have HR1 : Hid (Row w1 a' n g) := hrow1
        have HB : Hid (Below w.heap.size w w1) := hbel
        clear hbel
        have Q1 : Hid (∀ q, Calls Try.prog 19 #[.slice a' n n, .int .i64 i] (w1.drewN q) fun e w' => e = .returned (.int .i64 r) ∧ w' = w1.drewN q) := fun q => by
          have := zz_any a' n n i g (w1.drewN q) h1 (Nat.le_refl _) (by omega) (row_drew hrow1 q) HG'.out
          rwa [HZ.out] at this
        by_cases hin : i < n
        · obtain ⟨b, off, rfl, hcell⟩ : ∃ b off, a' = some ⟨b, off, none⟩ ∧ ∀ x, x < n → w1.cell? ⟨b, off + x, none⟩ = some (.int .u8 (g x)) := by
            rcases hrow1 with h | h
            · omega
            · exact h
          have Q2 : Hid (∀ q, Calls Try.prog 19 #[.slice (some ⟨b, off + i, none⟩) (n - i) (n - i), .int .i64 0] (w1.drewN q) fun e w' => e = .returned (.int .i64 y) ∧ w' = w1.drewN q) := fun q => by
            have := zz_zero (some ⟨b, off + i, none⟩) (n - i) (n - i) (fun x => g (i + x)) (w1.drewN q) (by omega) (Nat.le_refl _) (by omega) (row_drew (.inr ⟨b, off + i, rfl, fun x hx => by rw [Nat.add_assoc]; exact hcell (i + x) (by omega)⟩) q) (fun x => HG'.out (i + x))
            rwa [HY.out] at this
          clear hrow1 hcell
          go_wp2_with fail
          go_quiet (first | (go_at_call_of 19 (Value.int IntKind.i64 (i : Int)); exact Calls.quiet_of_same (Q1.out _)) | (go_at_call 19; exact Calls.quiet_of_same (Q2.out _)))
          go_wp2
          go_ret
          exact ⟨ret_bool (by rw [beq_iff_eq]; have := HS.out; omega), below_drew HB.out _⟩
        · have Q2 : Hid (∀ q, Calls Try.prog 19 #[.slice a' 0 0, .int .i64 0] (w1.drewN q) fun e w' => e = .returned (.int .i64 y) ∧ w' = w1.drewN q) := fun q => by
            have := zz_zero a' 0 0 (fun x => g (i + x)) (w1.drewN q) (by omega) (Nat.le_refl _) (by omega) (.inl rfl) (fun x => HG'.out (i + x))
            have hy0 := HY.out
            rw [show n - i = 0 from by omega] at hy0
            rwa [hy0] at this
          have hin' : n = i := by omega
          subst hin'
          clear hrow1
          go_wp2_with fail
          cases a' with
          | none =>
            go_quiet (first | (go_at_call_of 19 (Value.int IntKind.i64 (n : Int)); exact Calls.quiet_of_same (Q1.out _)) | (go_at_call 19; exact Calls.quiet_of_same (Q2.out _)))
            go_wp2
            go_ret
            exact ⟨ret_bool (by rw [beq_iff_eq]; have := HS.out; omega), below_drew HB.out _⟩
          | some ad =>
            go_quiet (first | (go_at_call_of 19 (Value.int IntKind.i64 (n : Int)); exact Calls.quiet_of_same (Q1.out _)) | (go_at_call 19; exact Calls.quiet_of_same (Q2.out _)))
            go_wp2
            go_ret
            exact ⟨ret_bool (by rw [beq_iff_eq]; have := HS.out; omega), below_drew HB.out _⟩
  · go_enter Try.func7, Try.ntmps7
    go_wp2
    go_ret
    exact ⟨rfl, Below.refl _ _⟩
end Go.Proofs.Qxb6602832a
