import Derived.Test.Qxb6603284aTok
import Derived.WalkKit
namespace Go.Proofs.Qxb6603284a
open Go.RowKit
set_option linter.unusedVariables false

/-- where the parser's read position stands -/
def posOf (w : World) (B : Nat) : Nat := match w.cell? ⟨B, 1, none⟩ with | some v => (intOf v).toNat | none => 0
theorem posOf_of {w : World} {B k : Nat} (h : w.cell? ⟨B, 1, none⟩ = some (.int .i64 k)) : posOf w B = k := by unfold posOf; rw [h]; simp [intOf]
theorem below_drew {B : Nat} {w w' : World} (h : Below B w w') (q : Nat) : Below B w (w'.drewN q) := ⟨h.os, h.tape, h.output, h.size, h.block⟩

/-- the parser's block: the text and the read position; nothing older has turned -/
def Par (w wr : World) (B : Nat) (s : ByteArray) (k : Nat) : Prop :=
  wr.cell? ⟨B, 0, none⟩ = some (.string s) ∧ wr.cell? ⟨B, 1, none⟩ = some (.int .i64 k) ∧ wr.frozen? ⟨B, 1, none⟩ = false ∧ Below B w wr
theorem Par.drew {w wr : World} {B k : Nat} {s : ByteArray} (h : Par w wr B s k) (q : Nat) : Par w (wr.drewN q) B s k := ⟨h.1, h.2.1, h.2.2.1, below_drew h.2.2.2 q⟩
theorem Par.step {w wr : World} {B k : Nat} {s : ByteArray} (h : Par w wr B s k) : Par w (wr.setCell ⟨B, 1, none⟩ (.int .i64 ((k : Int) + 1))) B s (k + 1) := by
  refine ⟨?_, ?_, ?_, h.2.2.2.setCell (Nat.le_refl _) _⟩
  · rw [World.cell?_setCell_other _ _ _ _ (by simp)]; exact h.1
  · rw [World.cell?_setCell_same _ _ _ h.2.1]; simp
  · have := h.2.2.1; simpa using this

set_option maxRecDepth 100000 in
set_option maxHeartbeats 2000000 in
theorem token_any (B k0 : Nat) (s : ByteArray) (w w0 : World) (hs : s.size ≤ 1048576) (hk0 : k0 ≤ 9223372036854775807) (hp : Par w w0 B s k0) :
    Calls Try.prog 17 #[.pointer (some ⟨B, 0, none⟩)] w0 fun e w' => e = .returned (.tuple #[]) ∧ ∃ q : Nat, Par w w' B s q ∧ k0 ≤ q ∧ (∀ x, k0 ≤ x → x < q → tok (bt s x) = true) ∧ tok (bt s q) = false := by
  have HP : Hid (Par w w0 B s k0) := hp
  clear hp
  go_enter Try.func17, Try.ntmps17
  go_wp2_with fail
  refine (next_any B s k0 _ HP.out.1 HP.out.2.1).mono ?_
  rintro e w' ⟨rfl, m, rfl⟩
  go_wp2_with fail
  go_loopw [2] (fun cs wr => ∃ k : Nat, cs = .int .u8 (bt s k) ∧ k0 ≤ k ∧ k ≤ 9223372036854775807 ∧ Par w wr B s k ∧ ∀ x, k0 ≤ x → x < k → tok (bt s x) = true) (fun _ wr => s.size - posOf wr B)
  case atStart => exact ⟨k0, rfl, Nat.le_refl _, hk0, HP.out.drew m, fun x h1 h2 => by omega⟩
  case round =>
    obtain ⟨k, rfl, hk1, hk2, hpar, htok⟩ := hrel
    have HPR : Hid (Par w wr B s k) := hpar
    have HT : Hid (∀ x, k0 ≤ x → x < k → tok (bt s x) = true) := htok
    have hc1 := hpar.2.1
    have hfz := hpar.2.2.1
    clear hpar htok
    cases ht : tok (bt s k)
    · have HTK : Hid (tok (bt s k) = false) := ht
      have h3 : (tc (bt s k) = false ∧ (bt s k == 58) = false) ∧ (bt s k == 47) = false := by simpa only [tok, Bool.or_eq_false_iff] using ht
      obtain ⟨⟨t1, b58⟩, b47⟩ := h3
      have HTC : Hid (tc (bt s k) = false) := t1
      clear ht t1
      go_wp2_with (go_at_call 19; refine (tc_any (bt s k) false _ HTC.out).mono ?_; rintro e w' ⟨rfl, rfl⟩)
      go_end0
      exact ⟨rfl, k, HPR.out, hk1, HT.out, HTK.out⟩
    · have hroom := tok_room s k ht
      have HTK : Hid (tok (bt s k) = true) := ht
      have HST : Hid (Par w (wr.setCell ⟨B, 1, none⟩ (.int .i64 ((k : Int) + 1))) B s (k + 1)) := HPR.out.step
      cases t1 : tc (bt s k)
      · have HTC : Hid (tc (bt s k) = false) := t1
        cases b58 : (bt s k == 58)
        · have b47 : (bt s k == 47) = true := by
            rw [tok, t1, b58] at ht; simpa using ht
          clear t1 ht
          go_wp2_with (go_at_call 19; refine (tc_any (bt s k) false _ HTC.out).mono ?_; rintro e w' ⟨rfl, rfl⟩)
          refine (next_any B s (k + 1) _ HST.out.1 HST.out.2.1).mono ?_
          rintro e w2 ⟨rfl, m2, rfl⟩
          go_wp2_with fail
          go_roundw
          case rel => exact ⟨k + 1, rfl, by omega, by omega, HST.out.drew m2, fun x h1 h2 => by
            by_cases e : x = k
            · rw [e]; exact HTK.out
            · exact HT.out x h1 (by omega)⟩
          case measure => rw [posOf_of (HST.out.drew m2).2.1, posOf_of HPR.out.2.1]; omega
        · clear t1 ht
          go_wp2_with (go_at_call 19; refine (tc_any (bt s k) false _ HTC.out).mono ?_; rintro e w' ⟨rfl, rfl⟩)
          refine (next_any B s (k + 1) _ HST.out.1 HST.out.2.1).mono ?_
          rintro e w2 ⟨rfl, m2, rfl⟩
          go_wp2_with fail
          go_roundw
          case rel => exact ⟨k + 1, rfl, by omega, by omega, HST.out.drew m2, fun x h1 h2 => by
            by_cases e : x = k
            · rw [e]; exact HTK.out
            · exact HT.out x h1 (by omega)⟩
          case measure => rw [posOf_of (HST.out.drew m2).2.1, posOf_of HPR.out.2.1]; omega
      · have HTC : Hid (tc (bt s k) = true) := t1
        clear t1 ht
        go_wp2_with (go_at_call 19; refine (tc_any (bt s k) true _ HTC.out).mono ?_; rintro e w' ⟨rfl, rfl⟩)
        refine (next_any B s (k + 1) _ HST.out.1 HST.out.2.1).mono ?_
        rintro e w2 ⟨rfl, m2, rfl⟩
        go_wp2_with fail
        go_roundw
        case rel => exact ⟨k + 1, rfl, by omega, by omega, HST.out.drew m2, fun x h1 h2 => by
          by_cases e : x = k
          · rw [e]; exact HTK.out
          · exact HT.out x h1 (by omega)⟩
        case measure => rw [posOf_of (HST.out.drew m2).2.1, posOf_of HPR.out.2.1]; omega
end Go.Proofs.Qxb6603284a
