import Derived.Test.Qxb6602483aRows
import Derived.WalkKit
import Derived.ProofKit
import Derived.WalkSpells
import Derived.Deep.QuietTactic
import Derived.BigQuiet
import Derived.WalkSmall
namespace Go.Proofs.Qxb6602483a.Take
open Go.ChangeShapes Go.WideShapes Go.ChangeAt Go.RowKit

/-- A batch that has room, or holds nothing, takes the frame. -/
theorem take_empty (s : Int) (w : World) (s0 : 0 ≤ s) (s1 : s ≤ 4611686018427387903) :
    Calls Try.prog 5 #[.int .i64 0, .int .i64 0, .int .i64 s] w fun e w' => e = .returned (.tuple #[.bool true, .int .i64 1, .int .i64 s]) ∧ Below w.heap.size w w' := by
  go_enter Try.func5, Try.ntmps5
  go_wp2
  go_quiet (fail)
  go_wp2
  go_ret3
  exact ⟨rfl, below_drewN (((Below.refl _ _).alloc (Nat.le_refl _) _)) _⟩

theorem take_yes (f b s : Int) (w : World) (f0 : 0 < f) (f1 : f ≤ 65536) (b0 : 0 ≤ b) (b1 : b ≤ 4611686018427387903) (s0 : 0 ≤ s) (s1 : s ≤ 4611686018427387903) (h : ¬ 4194304 < b + s) :
    Calls Try.prog 5 #[.int .i64 f, .int .i64 b, .int .i64 s] w fun e w' => e = .returned (.tuple #[.bool true, .int .i64 (f + 1), .int .i64 (b + s)]) ∧ Below w.heap.size w w' := by
  go_enter Try.func5, Try.ntmps5
  go_wp2
  go_quiet (fail)
  go_wp2
  go_ret3
  exact ⟨rfl, below_drewN (((Below.refl _ _).alloc (Nat.le_refl _) _)) _⟩

theorem take_no (f b s : Int) (w : World) (f0 : 0 < f) (b0 : 0 ≤ b) (b1 : b ≤ 4611686018427387903) (s0 : 0 ≤ s) (s1 : s ≤ 4611686018427387903) (h : 4194304 < b + s) :
    Calls Try.prog 5 #[.int .i64 f, .int .i64 b, .int .i64 s] w fun e w' => e = .returned (.tuple #[.bool false, .int .i64 f, .int .i64 b]) ∧ Below w.heap.size w w' := by
  go_enter Try.func5, Try.ntmps5
  go_wp2
  go_quiet (fail)
  go_wp2
  go_ret3
  exact ⟨rfl, below_drewN (((Below.refl _ _).alloc (Nat.le_refl _) _)) _⟩
end Go.Proofs.Qxb6602483a.Take
