import Derived.Test.Qxb6602423aRows
import Derived.WalkKit
import Derived.ProofKit
import Derived.WalkSpells
import Derived.Deep.QuietTactic
import Derived.BigQuiet
import Derived.Deep.LoopGhost
import Derived.Laws.Rows
import Derived.WalkSmall
namespace Go.Proofs.Qxb6602423a.Scan
open Go.ChangeShapes Go.WideShapes Go.ChangeAt Go.RowKit

/-- The scanner's block: seven fields. -/
def blockOf (src : ByteArray) (p : Int) : Array Value := #[.string src, .int .i64 p, .bool false, .int .i64 0, .bool false, .slice none 0 0, .slice none 0 0]

/-- The world 'wr' is 'w0' below block B, and block B is the scanner over 'src' at 'p'. -/
structure Sc (w0 : World) (B : Nat) (src : ByteArray) (p : Int) (wr : World) : Prop where
  blk : wr.heap[B]? = some (.cells (blockOf src p) 36 (0, 0))
  below : Below B w0 wr

section
variable {w0 wr : World} {B : Nat} {src : ByteArray} {p : Int}
theorem Sc.c0 (h : Sc w0 B src p wr) : wr.cell? ⟨B, 0, none⟩ = some (.string src) := by simp [World.cell?, h.blk, blockOf]
theorem Sc.c1 (h : Sc w0 B src p wr) : wr.cell? ⟨B, 1, none⟩ = some (.int .i64 p) := by simp [World.cell?, h.blk, blockOf]
theorem Sc.c2 (h : Sc w0 B src p wr) : wr.cell? ⟨B, 2, none⟩ = some (.bool false) := by simp [World.cell?, h.blk, blockOf]
theorem Sc.c3 (h : Sc w0 B src p wr) : wr.cell? ⟨B, 3, none⟩ = some (.int .i64 0) := by simp [World.cell?, h.blk, blockOf]
theorem Sc.c4 (h : Sc w0 B src p wr) : wr.cell? ⟨B, 4, none⟩ = some (.bool false) := by simp [World.cell?, h.blk, blockOf]
theorem Sc.c5 (h : Sc w0 B src p wr) : wr.cell? ⟨B, 5, none⟩ = some (.slice none 0 0) := by simp [World.cell?, h.blk, blockOf]
theorem Sc.c6 (h : Sc w0 B src p wr) : wr.cell? ⟨B, 6, none⟩ = some (.slice none 0 0) := by simp [World.cell?, h.blk, blockOf]
theorem Sc.f1 (h : Sc w0 B src p wr) : wr.frozen? ⟨B, 1, none⟩ = false := by simp [World.frozen?, h.blk]
theorem Sc.to (h : Sc w0 B src p wr) {q : Int} (e : p = q) : Sc w0 B src q wr := e ▸ h
theorem Sc.drewN (h : Sc w0 B src p wr) (n : Nat) : Sc w0 B src p (wr.drewN n) := ⟨h.blk, below_drewN h.below n⟩
theorem Sc.set (h : Sc w0 B src p wr) (q : Int) : Sc w0 B src q (wr.setCell ⟨B, 1, none⟩ (.int .i64 q)) := by
  refine ⟨?_, h.below.setCell (Nat.le_refl _) _⟩
  rw [heap_setCell_same wr B 1 _ _ _ h.blk]
  rfl
end

def spaceB (c : Int) : Bool := c == 32 || (decide (9 ≤ c) && decide (c ≤ 13))

theorem isSpace_any (c : Int) (w : World) : Calls Try.prog 18 #[.int .u8 c] w fun e w' => e = .returned (.bool (spaceB c)) ∧ w' = w := by
  unfold spaceB
  by_cases h1 : (c == 32) = true
  · go_enter Try.func18, Try.ntmps18
    go_wp2
    go_ret
    exact ⟨by simp [h1], rfl⟩
  · have h1' : (c == 32) = false := by simpa using h1
    by_cases h2 : 9 ≤ c
    · go_enter Try.func18, Try.ntmps18
      go_wp2
      go_ret
      exact ⟨by simp [h1', h2], rfl⟩
    · go_enter Try.func18, Try.ntmps18
      go_wp2
      go_ret
      exact ⟨by simp; omega, rfl⟩

theorem prefix_short (s : ByteArray) (w : World) (h : s.size < 2) : Calls Try.prog 19 #[.string s, .string { data := #[92, 92] }] w fun e w' => e = .returned (.bool false) ∧ w' = w := by
  go_enter Try.func19, Try.ntmps19
  go_wp2
  go_ret
  exact ⟨rfl, rfl⟩

theorem prefix_long (s : ByteArray) (w : World) (h : 2 ≤ s.size) (hm : s.size ≤ maxLen) : Calls Try.prog 19 #[.string s, .string { data := #[92, 92] }] w fun e w' => e = .returned (.bool ((s.extract 0 2).toList == [92, 92])) ∧ w' = w := by
  unfold maxLen at hm
  go_enter Try.func19, Try.ntmps19
  go_wp2
  go_ret
  exact ⟨rfl, rfl⟩

theorem wrap_one (k : Nat) (h : k ≤ 1048576) : IntKind.i64.wrap ((k : Int) + 1) = (k : Int) + 1 := by
  rw [IntWalk.i64_left]
  exact IntWalk.wrap64_in _ (by omega)

theorem run_next (src : ByteArray) (k : Nat) (h : k + 1 < src.size) (w : World) :
    (Instr.index 9 (.string src) (.int .i64 ((k : Int) + 1))).run Try.prog w = .ok (.int .u8 (src[k + 1].toNat : Int)) w := by
  have e : ((k : Int) + 1) = ((k + 1 : Nat) : Int) := by omega
  rw [e, run_index_string w 9 src .i64 _ Try.underlying9, dif_pos (by omega)]
  rfl

/-- No line break from a on, ahead of b. -/
def Clean (src : ByteArray) (a b : Nat) : Prop := ∀ i (h : i < src.size), a ≤ i → i < b → (src[i].toNat : Int) ≠ 10

theorem Clean.step {src : ByteArray} {a b : Nat} (h : Clean src a b) (hb : b < src.size) (hn : (src[b].toNat : Int) ≠ 10) : Clean src a (b + 1) := by
  intro i hi ha hlt
  by_cases e : i = b
  · subst e; exact hn
  · exact h i hi ha (by omega)

set_option maxRecDepth 100000 in
set_option maxHeartbeats 1000000 in
theorem quote_any (w0 : World) (B : Nat) (src : ByteArray) (p : Nat) (q : Int) (w : World) (hs : Sc w0 B src p w) (hm : src.size ≤ 1048576) (hp : p < src.size) :
    Calls Try.prog 22 #[.pointer (some ⟨B, 0, none⟩), .int .u8 q] w fun e w' => e = .returned (.tuple #[]) ∧ ∃ p' : Nat, p < p' ∧ p' ≤ src.size ∧ Clean src (p + 1) p' ∧ Sc w0 B src p' w' := by
  have c1 := hs.c1
  have f1 := hs.f1
  go_enter Try.func22, Try.ntmps22
  go_wp2
  clear c1 f1
  go_loopg [] (src.size - (p + 1)) (fun g wr => ∃ k : Nat, g = src.size - k ∧ p < k ∧ k ≤ src.size ∧ Hid (Clean src (p + 1) k) ∧ Hid (Sc w0 B src k wr))
  case atStart => exact ⟨p + 1, rfl, by omega, by omega, fun i _ _ _ => by omega, by have := hs.set ((p : Int) + 1); unfold Hid; simpa using this⟩
  case round =>
    obtain ⟨k, rfl, hk1, hk2, Hcl, Hsc⟩ := hrel
    have c0 := Hsc.out.c0
    have c1 := Hsc.out.c1
    have f1 := Hsc.out.f1
    by_cases hlt : k < src.size
    · have hlt' : (k : Int) < (src.size : Int) := by omega
      by_cases hnl : (src[k].toNat : Int) = 10
      · have hnl' : ((src[k].toNat : Int) != 10) = false := by simpa using hnl
        clear hnl
        go_wp2_with fail
        go_quiet (fail)
        go_wp2
        go_end0
        exact ⟨rfl, k, by omega, by omega, Hcl.out, Hsc.out.drewN _⟩
      have hnl' : ((src[k].toNat : Int) != 10) = true := by simpa using hnl
      have Hcl' : Hid (Clean src (p + 1) (k + 1)) := Hcl.out.step hlt hnl
      clear hnl
      by_cases hq : (src[k].toNat : Int) = q
      · have hq' : ((src[k].toNat : Int) == q) = true := by simpa using hq
        clear hq
        go_wp2_with fail
        go_quiet (fail)
        go_wp2_with fail
        go_quiet (fail)
        go_wp2
        (try simp only [Exit.inBlock, Exit.then])
        refine bodyPost_ret (results_none rfl _ _ _) rfl ?_
        exact ⟨rfl, k + 1, by omega, by omega, Hcl'.out, ((Hsc.out.drewN _).set _).to (by omega)⟩
      have hq' : ((src[k].toNat : Int) == q) = false := by simpa using hq
      clear hq
      by_cases hb : (src[k].toNat : Int) = 92
      · have hb' : ((src[k].toNat : Int) == 92) = true := by simpa using hb
        clear hb
        by_cases h39 : q = 39
        · have h39' : (q == 39) = true := by simpa using h39
          clear h39
          have hw1 := wrap_one k (Nat.le_trans hk2 hm)
          by_cases h1 : k + 1 < src.size
          · have h1' : (k : Int) + 1 < (src.size : Int) := by omega
            have hix := run_next src k h1
            by_cases h2 : (src[k + 1].toNat : Int) = 10
            · have h2' : ((src[k + 1].toNat : Int) != 10) = false := by simpa using h2
              clear h2
              go_wp2_with fail
              go_quiet (fail)
              go_wp2_with fail
              go_quiet (fail)
              go_wp2
              go_quiet (fail)
              go_wp2
              go_roundg (src.size - (k + 1))
              case measure => omega
              case rel => exact ⟨k + 1, rfl, by omega, by omega, Hcl', ((Hsc.out.drewN _).set _).to (by omega)⟩
            · have h2' : ((src[k + 1].toNat : Int) != 10) = true := by simpa using h2
              have Hcl2 : Hid (Clean src (p + 1) (k + 1 + 1)) := Hcl'.out.step h1 h2
              clear h2
              go_wp2_with fail
              go_quiet (fail)
              go_wp2_with fail
              go_quiet (fail)
              go_wp2
              go_quiet (fail)
              go_wp2
              go_roundg (src.size - (k + 1 + 1))
              case measure => omega
              case rel => exact ⟨k + 1 + 1, rfl, by omega, by omega, Hcl2, (((Hsc.out.drewN _).set _).set _).to (by omega)⟩
          · have h1' : decide ((k : Int) + 1 < (src.size : Int)) = false := by simp; omega
            go_wp2_with fail
            go_quiet (fail)
            go_wp2_with fail
            go_quiet (fail)
            go_wp2
            go_quiet (fail)
            go_wp2
            go_roundg (src.size - (k + 1))
            case measure => omega
            case rel => exact ⟨k + 1, rfl, by omega, by omega, Hcl', ((Hsc.out.drewN _).set _).to (by omega)⟩
        · have h39' : (q == 39) = false := by simpa using h39
          clear h39
          go_wp2_with fail
          go_quiet (fail)
          go_wp2_with fail
          go_quiet (fail)
          go_wp2
          go_quiet (fail)
          go_wp2
          go_roundg (src.size - (k + 1))
          case measure => omega
          case rel => exact ⟨k + 1, rfl, by omega, by omega, Hcl', ((Hsc.out.drewN _).set _).to (by omega)⟩
      · have hb' : ((src[k].toNat : Int) == 92) = false := by simpa using hb
        clear hb
        go_wp2_with fail
        go_quiet (fail)
        go_wp2_with fail
        go_quiet (fail)
        go_wp2
        go_quiet (fail)
        go_wp2
        go_roundg (src.size - (k + 1))
        case measure => omega
        case rel => exact ⟨k + 1, rfl, by omega, by omega, Hcl', ((Hsc.out.drewN _).set _).to (by omega)⟩
    · have hlt' : decide ((k : Int) < (src.size : Int)) = false := by simp; omega
      go_wp2_with fail
      go_quiet (fail)
      go_wp2
      go_end0
      exact ⟨rfl, k, by omega, by omega, Hcl.out, Hsc.out.drewN _⟩
end Go.Proofs.Qxb6602423a.Scan
