import Derived.Test.Qxb6603284aChars
import Derived.WalkKit
import Derived.Deep.QuietTactic
import Derived.BigQuiet
namespace Go.Proofs.Qxb6603284a
open Go.RowKit
set_option linter.unusedVariables false

set_option maxHeartbeats 1000000 in
theorem done_any (B : Nat) (s : ByteArray) (k : Int) (w : World) (h0 : w.cell? ⟨B, 0, none⟩ = some (.string s)) (h1 : w.cell? ⟨B, 1, none⟩ = some (.int .i64 k)) :
    Calls Try.prog 20 #[.pointer (some ⟨B, 0, none⟩)] w fun e w' => e = .returned (.bool (decide ((s.size : Int) ≤ k))) ∧ ∃ m, w' = w.drewN m := by
  go_enter Try.func20, Try.ntmps20
  go_wp2
  go_quiet (fail)
  go_wp2
  go_ret
  exact ⟨rfl, _, rfl⟩

set_option maxHeartbeats 1000000 in
theorem next_any (B : Nat) (s : ByteArray) (k : Nat) (w : World) (h0 : w.cell? ⟨B, 0, none⟩ = some (.string s)) (h1 : w.cell? ⟨B, 1, none⟩ = some (.int .i64 k)) :
    Calls Try.prog 18 #[.pointer (some ⟨B, 0, none⟩)] w fun e w' => e = .returned (.int .u8 (bt s k)) ∧ ∃ m, w' = w.drewN m := by
  by_cases hk : k < s.size
  · have hd : decide ((s.size : Int) ≤ (k : Int)) = false := decide_eq_false (by omega)
    rw [bt_in s k hk]
    go_enter Try.func18, Try.ntmps18
    go_wp2_with (go_at_call 20; refine (done_any B s k _ h0 h1).mono ?_; rintro e w' ⟨rfl, m, rfl⟩)
    go_quiet (fail)
    go_wp2
    go_ret
    exact ⟨rfl, _, by rw [World.drewN_drewN]⟩
  · have hd : decide ((s.size : Int) ≤ (k : Int)) = true := decide_eq_true (by omega)
    rw [bt_out s k (by omega)]
    go_enter Try.func18, Try.ntmps18
    go_wp2_with (go_at_call 20; refine (done_any B s k _ h0 h1).mono ?_; rintro e w' ⟨rfl, m, rfl⟩)
    go_ret
    exact ⟨rfl, _, rfl⟩
end Go.Proofs.Qxb6603284a
