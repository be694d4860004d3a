import Derived.Test.Qxb6602832aClone
import Derived.OpenShut
namespace Go.Proofs.Qxb6602832a
open Go.RowKit
set_option linter.unusedVariables false

set_option maxHeartbeats 1000000 in
theorem skip_any (a : Option Addr) (n c i : Nat) (g : Nat → Int) (w : World) (hn : n ≤ 1048576) (hnc : n ≤ c) (hc : c ≤ 9223372036854775807) (hrow : Row w a n g) (hr : ∀ x, 0 ≤ g x ∧ g x ≤ 255) :
    Calls Try.prog 31 #[.slice a n c, .int .i64 i] w fun e w' => e = .returned (.int .i64 (Js.skp g n i)) ∧ w' = w := by
  by_cases hi : n ≤ i
  · rw [Js.skp_end g n i hi]
    exact skip_out a n c i w (by omega)
  · rcases hrow with h0 | ⟨b, off, rfl, hcell⟩
    · omega
    · cases ho : Js.opens (g i)
      · rw [Js.skp_plain g n i (by omega) ho]
        exact skip_scalar b off n c i g w hn hnc hc (by omega) hcell ho
      · rw [Js.opens_iff] at ho
        rcases ho with h | h
        · rw [Js.skp_quote g n i (by omega) h]
          exact skip_quote b off n c i g w hn hnc hc (by omega) hcell hr h
        · rw [Js.skp_open g n i (by omega) h]
          exact skip_open b off n c i g w hn hnc hc (by omega) hcell hr h

set_option maxHeartbeats 1000000 in
theorem zz_any (a : Option Addr) (n c i : Nat) (g : Nat → Int) (w : World) (hn : n ≤ 1048576) (hnc : n ≤ c) (hc : c ≤ 9223372036854775807) (hrow : Row w a n g) (hr : ∀ x, 0 ≤ g x ∧ g x ≤ 255) :
    Calls Try.prog 19 #[.slice a n c, .int .i64 i] w fun e w' => e = .returned (.int .i64 (Js.skp g n i)) ∧ w' = w := by
  have HR : Hid (Row w a n g) := hrow
  clear hrow
  go_enter Try.func19, Try.ntmps19
  go_wp2_with fail
  refine (skip_any a n c i g _ hn hnc hc HR.out hr).mono ?_
  rintro e w' ⟨rfl, rfl⟩
  go_wp2_with fail
  go_ret
  exact ⟨rfl, rfl⟩

/-- what a slice that came in is (the shell's word) -/
def IsRow (k : IntKind) (w : World) (a : Option Addr) (len cap : Nat) (zs : List Int) : Prop :=
  (a = none ∧ len = 0 ∧ cap = 0 ∧ zs = []) ∨
  ∃ x, a = some x ∧ len ≤ cap ∧ cap ≤ maxLen ∧ zs.length = cap ∧ (∀ i, i < zs.length → w.cell? (x.add i) = some (.int k (zs.getD i 0))) ∧ ∀ n ∈ zs, (Lit.int k n).wf = true

theorem row_in {w : World} {a : Option Addr} {n c : Nat} {zs : List Int} (h : IsRow .u8 w a n c zs) : Row w a n (fun x => zs.getD x 0) ∧ (∀ x, 0 ≤ zs.getD x 0 ∧ zs.getD x 0 ≤ 255) ∧ (a = none → n = 0) := by
  rcases h with ⟨rfl, rfl, rfl, rfl⟩ | ⟨x, rfl, h1, h2, h3, h4, h5⟩
  · exact ⟨.inl rfl, fun x => by simp, fun _ => rfl⟩
  · refine ⟨?_, fun y => ?_, fun h => by cases h⟩
    · by_cases h0 : n = 0
      · exact .inl h0
      · obtain ⟨b, off, rfl, hc⟩ := ints_at h4 (by omega)
        exact .inr ⟨b, off, rfl, fun y hy => hc y (by omega)⟩
    · have := range_u8 h5 y
      simpa using this

/-- the clone that the laws make -/
theorem clone_row (a : Option Addr) (n c : Nat) (g : Nat → Int) (w : World) (hn : n ≤ 1048576) (hnil : a = none → n = 0) (hg : Row w a n g) :
    Calls Try.prog 12 #[.slice a n c] w fun e w' => ∃ a', e = .returned (.slice a' n n) ∧ Row w' a' n g ∧ Below w.heap.size w w' := by
  cases a with
  | none =>
    have h0 := hnil rfl
    subst h0
    refine (clone_nil w c).mono ?_
    rintro e w' ⟨rfl, rfl⟩
    exact ⟨none, rfl, .inl rfl, Below.refl _ _⟩
  | some ad =>
    refine (clone_any ad n c g w hn hg).mono ?_
    rintro e w' ⟨rfl, h1, h2⟩
    exact ⟨_, rfl, h1, h2⟩
end Go.Proofs.Qxb6602832a
