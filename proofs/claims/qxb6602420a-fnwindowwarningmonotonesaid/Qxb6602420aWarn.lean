import Derived.Test.Qxb6602420aRows
import Derived.WalkKit
import Derived.ProofKit
import Derived.Deep.QuietTactic
import Derived.BigQuiet
namespace Go.Proofs.Qxb6602420a.Warn
open Go.ChangeShapes Go.WideShapes Go.ChangeAt Go.RowKit

theorem grown_drewN (w : World) (n : Nat) : Grown w (w.drewN n) := by
  have h := Grown.refl w
  exact h

/-! ### 'rules.ZZwindowWarning' (function 6), which hands on to 'rules.windowWarning': one contract a way. -/
theorem warn_nil (a : Int) (w : World) :
    Calls Try.prog 6 #[.pointer none, .int .i64 a] w fun e w' => e = .returned (.string { data := #[] }) ∧ ∃ n, w' = w.drewN n := by
  go_enter Try.func6, Try.ntmps6
  go_wp2
  go_ret
  exact ⟨rfl, 0, rfl⟩

theorem warn_unl (b o : Nat) (a : Int) (w : World) (hc : w.cell? ⟨b, o, none⟩ = some (.int .i64 (-1))) :
    Calls Try.prog 6 #[.pointer (some ⟨b, o, none⟩), .int .i64 a] w fun e w' => e = .returned (.string { data := #[] }) ∧ ∃ n, w' = w.drewN n := by
  go_enter Try.func6, Try.ntmps6
  go_wp2
  go_ret
  exact ⟨rfl, 0, rfl⟩

theorem warn_over (b o : Nat) (l a : Int) (w : World) (hc : w.cell? ⟨b, o, none⟩ = some (.int .i64 l)) (h1 : (l == -1) = false) (h2 : l < a) :
    Calls Try.prog 6 #[.pointer (some ⟨b, o, none⟩), .int .i64 a] w fun e w' => e = .returned (.string { data := #[111, 118, 101, 114, 95, 108, 105, 109, 105, 116] }) ∧ ∃ n, w' = w.drewN n := by
  go_enter Try.func6, Try.ntmps6
  go_wp2
  go_ret
  exact ⟨rfl, 0, rfl⟩

theorem warn_near (b o : Nat) (l a : Int) (w : World) (hc : w.cell? ⟨b, o, none⟩ = some (.int .i64 l)) (h1 : (l == -1) = false) (h2 : ¬ l < a)
    (hl0 : -9223372036854775808 ≤ l) (hl1 : l ≤ 9223372036854775807) (hn : wrap64 (l - l.tdiv 5) ≤ a) :
    Calls Try.prog 6 #[.pointer (some ⟨b, o, none⟩), .int .i64 a] w fun e w' => e = .returned (.string { data := #[110, 101, 97, 114, 95, 108, 105, 109, 105, 116] }) ∧ ∃ n, w' = w.drewN n := by
  go_enter Try.func6, Try.ntmps6
  go_wp2
  go_quiet (fail)
  go_wp2
  go_ret
  exact ⟨rfl, _, rfl⟩

theorem warn_low (b o : Nat) (l a : Int) (w : World) (hc : w.cell? ⟨b, o, none⟩ = some (.int .i64 l)) (h1 : (l == -1) = false) (h2 : ¬ l < a)
    (hl0 : -9223372036854775808 ≤ l) (hl1 : l ≤ 9223372036854775807) (hn : a < wrap64 (l - l.tdiv 5)) :
    Calls Try.prog 6 #[.pointer (some ⟨b, o, none⟩), .int .i64 a] w fun e w' => e = .returned (.string { data := #[] }) ∧ ∃ n, w' = w.drewN n := by
  go_enter Try.func6, Try.ntmps6
  go_wp2
  go_quiet (fail)
  go_wp2
  go_ret
  exact ⟨rfl, _, rfl⟩

/-- The plain law: for a limit that is not negative the program's mark is 'limit - limit/5'. -/
theorem mark_is (l : Int) (h0 : 0 ≤ l) (h1 : l ≤ 9223372036854775807) : wrap64 (l - l.tdiv 5) = l - l / 5 := by
  rw [Int.tdiv_eq_ediv_of_nonneg h0, IntWalk.wrap64_in _ (by omega)]
end Go.Proofs.Qxb6602420a.Warn
