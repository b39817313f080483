import Derived.Test.Qxb6602489aSizes
import Derived.Deep.OwnRows
namespace Go.Proofs.Qxb6602489a.Same
open Go.ChangeShapes Go.WideShapes Go.ChangeAt Go.RowKit

theorem info9 : (Try.prog.info? 9).map (fun i => (i.zero, i.size, i.bytes)) = some (some (.string { data := #[] }), 1, 16) := by kernel_rfl

/-- The new row N, of 'len' cells, of which the first j hold the strings. -/
structure Row (w : World) (N len : Nat) (ss : List ByteArray) (j : Nat) (wr : World) : Prop where
  below : Below N w wr
  done : ∀ t, t < j → wr.cell? ⟨N, t, none⟩ = some (.string (ss.getD t ByteArray.empty))
  there : ∀ t, t < len → (wr.cell? ⟨N, t, none⟩).isSome = true
  free : ∀ t, wr.frozen? ⟨N, t, none⟩ = false

theorem cell_isSome {W : World} {N len : Nat} {cur : Array Value} (hg : W.heap[N]? = some (.cells cur 9 (0, 0))) (hn : cur.size = len) (t : Nat) (ht : t < len) : (W.cell? ⟨N, t, none⟩).isSome = true := by
  simp [World.cell?, hg, hn, ht]
theorem cell_free {W : World} {N : Nat} {cur : Array Value} (hg : W.heap[N]? = some (.cells cur 9 (0, 0))) (t : Nat) : W.frozen? ⟨N, t, none⟩ = false := by
  simp [World.frozen?, hg]

theorem Row.start (w : World) (len : Nat) (ss : List ByteArray) : Row w w.heap.size len ss 0 (w.alloc (.cells (madeCells #[.string { data := #[] }] len) 9)) := by
  have hg : (w.alloc (.cells (madeCells #[.string { data := #[] }] len) 9)).heap[w.heap.size]? = some (.cells (madeCells #[.string { data := #[] }] len) 9 (0, 0)) := (MapKept.heap_alloc w _).1
  refine ⟨(Below.refl _ _).alloc (Nat.le_refl _) _, fun t ht => absurd ht (Nat.not_lt_zero _), cell_isSome hg (size_madeCells _ _), cell_free hg⟩

theorem Row.step {w wr : World} {N len : Nat} {ss : List ByteArray} {j : Nat} (h : Row w N len ss j wr) (hj : j < len) {s : ByteArray} (e : ss.getD j ByteArray.empty = s) :
    Row w N len ss (j + 1) (wr.setCell ⟨N, j, none⟩ (.string s)) := by
  obtain ⟨v, hv⟩ := Option.isSome_iff_exists.1 (h.there j hj)
  have hsame := World.cell?_setCell_same (w := wr) (a := ⟨N, j, none⟩) (v := .string s) hv
  refine ⟨h.below.setCell (Nat.le_refl _) _, fun t ht => ?_, fun t ht => ?_, fun t => by rw [World.frozen?_setCell]; exact h.free t⟩
  · by_cases q : t = j
    · subst q; rw [e]; exact hsame
    · rw [World.cell?_setCell_other wr ⟨N, j, none⟩ ⟨N, t, none⟩ _ (by intro h; injection h; omega)]; exact h.done t (by omega)
  · by_cases q : t = j
    · subst q; rw [hsame]; rfl
    · rw [World.cell?_setCell_other wr ⟨N, j, none⟩ ⟨N, t, none⟩ _ (by intro h; injection h; omega)]; exact h.there t ht

/-- What cloneStringsB1 hands back. -/
def Cloned (ss : List ByteArray) (w : World) (e : Ending) (w' : World) : Prop :=
  ∃ (a : Option Addr) (c : Nat), e = .returned (.slice a ss.length c) ∧ HasStrs w' a ss ∧ Below w.heap.size w w'

set_option maxRecDepth 100000 in
set_option maxHeartbeats 1000000 in
theorem clone_any (a : Option Addr) (ca : Nat) (ss : List ByteArray) (w : World) (ha : HasStrs w a ss) (hl : ss.length ≤ 131072) :
    Calls Try.prog 13 #[.slice a ss.length ca] w fun e w' => Cloned ss w e w' := by
  have heq := fun wx a n c => Lib.run_eql_slice_nil (P := Try.prog) wx 24 9 a n c 0 0 Try.underlying24
  cases a with
  | none =>
    obtain rfl : ss = [] := by
      cases ss with
      | nil => rfl
      | cons s r => obtain ⟨x, hx, _⟩ := ha 0 (by simp); simp at hx
    clear ha
    go_enter Try.func13, Try.ntmps13
    go_wp2
    go_ret
    exact ⟨none, 0, rfl, fun i hi => absurd hi (Nat.not_lt_zero _), Below.refl _ _⟩
  | some x =>
    have hmk := run_make_row' (P := Try.prog) 24 9 (.string { data := #[] }) 16 Try.underlying24 info9 rfl .i64 .i64 ss.length (by omega) (by omega)
    have HA : Hid (HasStrs w (some x) ss) := ha
    clear ha
    go_enter Try.func13, Try.ntmps13
    go_wp2
    clear hmk heq
    go_loopw [4] (fun i wr => ∃ j : Nat, j ≤ ss.length ∧ i = .int .i64 j ∧ Hid (Row w w.heap.size ss.length ss j wr)) (fun i _ => ss.length - (intOf i).toNat)
    case atStart => exact ⟨0, Nat.zero_le _, rfl, Row.start w _ ss⟩
    case round =>
      obtain ⟨j, hj, rfl, HR⟩ := hrel
      by_cases hlt : j < ss.length
      · obtain ⟨y, hy, hc0⟩ := HA.out j hlt
        obtain rfl : x = y := by simpa using hy
        clear hy
        have hc := cell_later HR.out.below hc0
        clear hc0
        obtain ⟨v, hv⟩ := Option.isSome_iff_exists.1 (HR.out.there j hlt)
        have hf := HR.out.free j
        obtain ⟨s, hs⟩ : ∃ s, ss.getD j ByteArray.empty = s := ⟨_, rfl⟩
        rw [hs] at hc
        have HE : Hid (Row w w.heap.size ss.length ss (j + 1) (wr.setCell ⟨w.heap.size, j, none⟩ (.string s))) := HR.out.step hlt hs
        clear hs
        go_wp2
        go_roundw
        case rel => exact ⟨j + 1, by omega, by go_num, HE⟩
        case measure => simp [intOf]; omega
      · obtain rfl : j = ss.length := by omega
        go_wp2
        go_ret
        exact ⟨some ⟨w.heap.size, 0, none⟩, ss.length, rfl, fun i hi => ⟨_, rfl, by rw [add_plain, Nat.zero_add]; exact HR.out.done i hi⟩, HR.out.below⟩
end Go.Proofs.Qxb6602489a.Same
