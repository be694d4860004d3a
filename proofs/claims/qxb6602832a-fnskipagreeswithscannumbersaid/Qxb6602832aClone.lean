import Derived.Test.Qxb6602832aSkip
import Derived.WalkKit
import Derived.Laws.OwnMore
import Derived.Lib.SliceRun
namespace Go.Proofs.Qxb6602832a
open Go.RowKit
set_option linter.unusedVariables false

/-- a slice's bytes: 'g 0' .. 'g (n - 1)' lie at its address; of a slice without bytes nothing is asked -/
def Row (w : World) (a : Option Addr) (n : Nat) (g : Nat → Int) : Prop := n = 0 ∨ ∃ b off, a = some ⟨b, off, none⟩ ∧ ∀ x, x < n → w.cell? ⟨b, off + x, none⟩ = some (.int .u8 (g x))

theorem Try.info5 : (Try.prog.info? 5).map (fun i => (i.zero, i.size, i.bytes)) = some (some (.int .u8 0), 1, 1) := by kernel_rfl

set_option maxHeartbeats 1000000 in
theorem clone_nil (w : World) (c : Nat) :
    Calls Try.prog 12 #[.slice none 0 c] w fun e w' => e = .returned (.slice none 0 0) ∧ w' = w := by
  have q22 : ∀ (w : World) (a : Option Addr) (n c n' c' : Nat), (binOp .eql 22 (.slice a n c) (.slice none n' c')).run Try.prog w = .ok (.bool a.isNone) w := fun w a n c n' c' => Lib.run_eql_slice_nil w _ _ a n c n' c' Try.underlying22
  go_enter Try.func12, Try.ntmps12
  go_wp2
  go_ret
  exact ⟨rfl, rfl⟩

set_option maxRecDepth 100000 in
set_option maxHeartbeats 1000000 in
theorem clone_any (ad : Addr) (n c : Nat) (g : Nat → Int) (w : World) (hn : n ≤ 1048576) (hg : Row w (some ad) n g) :
    Calls Try.prog 12 #[.slice (some ad) n c] w fun e w' => e = .returned (.slice (some ⟨w.heap.size, 0, none⟩) n n) ∧ Row w' (some ⟨w.heap.size, 0, none⟩) n g ∧ Below w.heap.size w w' := by
  obtain ⟨i0, hi, hz0, hz1, hz2⟩ := info_parts Try.info5
  have hold : ∀ x, x < n → ∃ b off, ad = ⟨b, off, none⟩ ∧ b < w.heap.size ∧ w.cell? ⟨b, off + x, none⟩ = some (.int .u8 (g x)) := fun x hx => by
    rcases hg with h0 | ⟨b, off, had, hc⟩
    · omega
    · exact ⟨b, off, Option.some.inj had, World.block_lt_of_cell? _ _ (hc x hx), hc x hx⟩
  have HOLD : Hid (∀ x, x < n → ∃ b off, ad = ⟨b, off, none⟩ ∧ b < w.heap.size ∧ w.cell? ⟨b, off + x, none⟩ = some (.int .u8 (g x))) := hold
  clear hold hg
  have q22 : ∀ (w : World) (a : Option Addr) (n c n' c' : Nat), (binOp .eql 22 (.slice a n c) (.slice none n' c')).run Try.prog w = .ok (.bool a.isNone) w := fun w a n c n' c' => Lib.run_eql_slice_nil w _ _ a n c n' c' Try.underlying22
  go_enter Try.func12, Try.ntmps12
  go_wp2_with (at_make; refine wpList_make_full _ rfl _ _ 22 rfl w.heap.size 5 i0 (.int .u8 0) 1 Try.underlying22 hi hz0 hz1 .i64 .i64 _ _ n rfl rfl rfl rfl (by rw [hz2]; omega) (by unfold maxLen; omega) (Nat.le_refl _) ?_; intro w1 hown1 hgrow1)
  clear q22 hi hz0 hz1 hz2
  have HOWN : Hid (w1.ownsRow w.heap.size 5 1 (.slice (some ⟨w.heap.size, 0, none⟩) n n) n (madeCells (Value.int IntKind.u8 0).cells (n * 1)).toList) := hown1
  have HBEL : Hid (Below w.heap.size w w1) := (Below.refl _ _).grown hgrow1 (Nat.le_refl _) (fun k h => by cases h)
  clear hown1 hgrow1
  go_loopw [4] (fun j wr => ∃ k : Nat, j = .int .i64 k ∧ k ≤ n ∧ (∃ xs, wr.ownsRow w.heap.size 5 1 (.slice (some ⟨w.heap.size, 0, none⟩) n n) n xs ∧ ∀ x, x < k → xs[x]? = some (.int .u8 (g x))) ∧ Below w.heap.size w wr) (fun j _ => n - (intOf j).toNat)
  case atStart => exact ⟨0, rfl, Nat.zero_le _, ⟨_, HOWN.out, fun x h => absurd h (Nat.not_lt_zero _)⟩, HBEL.out⟩
  case round =>
    obtain ⟨k, rfl, hk, ⟨xs, hown, hxs⟩, hbel⟩ := hrel
    have HX : Hid (∀ x, x < k → xs[x]? = some (.int .u8 (g x))) := hxs
    have HO : Hid (wr.ownsRow w.heap.size 5 1 (.slice (some ⟨w.heap.size, 0, none⟩) n n) n xs) := hown
    have HB : Hid (Below w.heap.size w wr) := hbel
    clear hxs hown hbel
    by_cases hlt : k < n
    · obtain ⟨b, off, rfl, hb, hc0⟩ := HOLD.out k hlt
      have hc : wr.cell? ⟨b, off + k, none⟩ = some (.int .u8 (g k)) := (HB.out.cell (p := ⟨b, off + k, none⟩) hb).trans hc0
      clear hc0
      have hxl : xs.length = n := by have := HO.out.1; omega
      obtain ⟨old, hdst⟩ : ∃ old, wr.cell? ⟨w.heap.size, k, none⟩ = some old := ⟨_, (HO.out.cellAt k (by omega)).trans (List.getElem?_eq_getElem (by omega))⟩
      have hfz : wr.frozen? ⟨w.heap.size, k, none⟩ = false := HO.out.frozenAt k
      have HXL : Hid (xs.length = n) := hxl
      clear hxl
      have st := HO.out.stored k (.int .u8 (g k))
      have HS : Hid ((wr.setCell ⟨w.heap.size, k, none⟩ (.int .u8 (g k))).ownsRow w.heap.size 5 1 (.slice (some ⟨w.heap.size, 0, none⟩) n n) n (xs.set k (.int .u8 (g k)))) := st.1
      have HB' : Hid (Below w.heap.size w (wr.setCell ⟨w.heap.size, k, none⟩ (.int .u8 (g k)))) := HB.out.setCell (Nat.le_refl _) _
      clear st
      go_wp2
      go_roundw
      case rel => exact ⟨k + 1, by go_num, by omega, ⟨_, HS.out, fun x hx => by
        have := HXL.out
        rw [List.getElem?_set]
        by_cases e : k = x
        · subst e; rw [if_pos rfl, if_pos (by omega)]
        · rw [if_neg e]; exact HX.out x (by omega)⟩, HB'.out⟩
      case measure => simp [intOf]; omega
    · go_wp2
      go_ret
      refine ⟨rfl, .inr ⟨w.heap.size, 0, rfl, fun x hx => ?_⟩, HB.out⟩
      rw [Nat.zero_add, HO.out.cellAt x (by omega)]
      exact HX.out x (by omega)
end Go.Proofs.Qxb6602832a
