import Derived.Test.Qxb6602483aTake
import Derived.Laws.CopyOwn
import Derived.Deep.OwnRows
import Derived.OpenShut
import Derived.ShutString
import Derived.ChangeOld
import Derived.Below
namespace Go.Proofs.Qxb6602483a.Take
open Go.ChangeShapes Go.WideShapes Go.ChangeAt Go.RowKit

theorem info3 : (Try.prog.info? 3).map (fun i => (i.zero, i.size, i.bytes)) = some (some (.int .i64 0), 1, 8) := by kernel_rfl
theorem size3 : (Try.prog.info? 3).map (·.size) = some 1 := by kernel_rfl

theorem bytes_yes (a : Option Addr) (len cap : Nat) (w : World) (hm : len ≤ 1048576) :
    Calls Try.prog 4 #[.slice a len cap] w fun e w' => e = .returned (.bool true) ∧ w = w' := by
  go_enter Try.func4, Try.ntmps4
  go_wp2
  go_ret
  exact ⟨rfl, rfl⟩

theorem bytes_no (a : Option Addr) (len cap : Nat) (w : World) (hm : 1048576 < len) :
    Calls Try.prog 4 #[.slice a len cap] w fun e w' => e = .returned (.bool false) ∧ w = w' := by
  go_enter Try.func4, Try.ntmps4
  go_wp2
  go_ret
  exact ⟨rfl, rfl⟩

theorem law_long (a : Option Addr) (len cap : Nat) (w : World) (hm : 65536 < len) :
    Calls Try.prog 3 #[.slice a len cap] w fun e w' => e = .returned (.bool true) ∧ Below w.heap.size w w' := by
  by_cases h : len ≤ 1048576
  · go_enter Try.func3, Try.ntmps3
    go_wp2_with (go_at_call 4; refine (bytes_yes _ _ _ _ h).mono ?_; rintro e w' ⟨rfl, rfl⟩)
    go_ret
    exact ⟨rfl, Below.refl _ _⟩
  · go_enter Try.func3, Try.ntmps3
    go_wp2_with (go_at_call 4; refine (bytes_no _ _ _ _ (by omega)).mono ?_; rintro e w' ⟨rfl, rfl⟩)
    go_ret
    exact ⟨rfl, Below.refl _ _⟩

set_option maxRecDepth 100000 in
set_option maxHeartbeats 1000000 in
theorem law_nil (w : World) :
    Calls Try.prog 3 #[.slice none 0 0] w fun e w' => e = .returned (.bool true) ∧ Below w.heap.size w w' := by
  have hneq := fun wx a n c => run_neq_slice_nil_any (P := Try.prog) wx 22 3 a n c 0 0 Try.underlying22
  go_enter Try.func3, Try.ntmps3
  go_wp2_with (go_at_call 4; refine (bytes_yes _ _ _ _ (by omega)).mono ?_; rintro e w' ⟨rfl, rfl⟩)
  go_loop [3] (fun i => i = .int .i64 0) (fun _ => 0)
  case atStart => rfl
  case round =>
    subst hrel
    go_wp2
    go_loop [5, 8, 9] (fun f c i => f = .int .i64 0 ∧ c = .int .i64 0 ∧ i = .int .i64 0) (fun _ _ _ => 0)
    case atStart => exact ⟨rfl, rfl, rfl⟩
    case round =>
      obtain ⟨rfl, rfl, rfl⟩ := hrel
      go_wp2
      go_ret
      exact ⟨rfl, Below.refl _ _⟩

/-- The row behind 'make' and 'copy'. -/
theorem row_cells {w2 : World} {g len : Nat} {zs : List Int} {cur : List Value} (hl : cur.length = len) (hz : len ≤ zs.length)
    (hg : w2.heap[g]? = some (.cells (splice cur 0 ((zs.take len).map (Value.int .i64))).toArray 3 (0, 0))) :
    ∀ t, t < len → w2.cell? ⟨g, t, none⟩ = some (.int .i64 (zs.getD t 0)) := by
  intro t ht
  have e : splice cur 0 ((zs.take len).map (Value.int .i64)) = (zs.take len).map (Value.int .i64) := by
    unfold splice
    have : (List.map (Value.int IntKind.i64) (List.take len zs)).length = len := by simp; omega
    rw [this, Nat.zero_add, List.drop_of_length_le (by omega)]
    simp
  rw [e] at hg
  have ht' : t < zs.length := by omega
  simp [World.cell?, hg, ht, List.getElem?_eq_getElem ht']

theorem cells_src {w : World} {x : Addr} {len : Nat} {zs : List Int} (hz : len ≤ zs.length) (hc : ∀ i, i < len → w.cell? (x.add i) = some (.int .i64 (zs.getD i 0))) :
    ∀ (j : Nat) (v : Value), ((zs.take len).map (Value.int .i64))[j]? = some v → w.cell? (x.add j) = some v := by
  intro j v hv
  by_cases hj : j < len
  · have hj' : j < zs.length := by omega
    rw [hc j hj]
    simp [hj, List.getElem?_eq_getElem hj'] at hv
    simp [List.getElem?_eq_getElem hj', ← hv]
  · simp [List.getElem?_take, hj] at hv

/-- 'c := make([]int, len); copy(c, sizes)': a new row that holds what 'sizes' holds. -/
theorem copy_made (x : Addr) (len cap : Nat) (zs : List Int) (w : World) (hz : len ≤ zs.length)
    (hc : ∀ i, i < len → w.cell? (x.add i) = some (.int .i64 (zs.getD i 0))) :
    ∃ w2, (Builtin.copy_ #[22, 22] 3 #[.slice (some ⟨w.heap.size, 0, none⟩) len len, .slice (some x) len cap]).run Try.prog (w.alloc (.cells (madeCells #[.int .i64 0] len) 3)) = .ok (goInt len) w2 ∧
      (∀ t, t < len → w2.cell? ⟨w.heap.size, t, none⟩ = some (.int .i64 (zs.getD t 0))) ∧ Below w.heap.size w w2 ∧ w.heap.size + 1 ≤ w2.heap.size := by
  have hb1 : Below w.heap.size w (w.alloc (.cells (madeCells #[.int .i64 0] len) 3)) := (Below.refl _ _).alloc (Nat.le_refl _) _
  have hg : (w.alloc (.cells (madeCells #[.int .i64 0] len) 3)).heap[w.heap.size]? = some (.cells (madeCells #[.int .i64 0] len) 3 (0, 0)) := (MapKept.heap_alloc w _).1
  have hlen : ((zs.take len).map (Value.int .i64)).length = len := by simp; omega
  have hrun := run_copy_row (P := Try.prog) (w.alloc (.cells (madeCells #[.int .i64 0] len) 3)) 22 22 3 3 w.heap.size 0 len len x len cap _ 3 ((zs.take len).map (Value.int .i64)) Try.underlying22 size3 hg
    (by rw [hlen]; exact (Nat.min_self len).symm) (cells_src hz fun i hi => cell_later hb1 (hc i hi)) (by rw [hlen, size_madeCells]; omega) (by intro v hv; rw [List.mem_map] at hv; obtain ⟨n, _, rfl⟩ := hv; rfl)
  rw [hlen] at hrun
  refine ⟨_, hrun, row_cells (cur := (madeCells #[.int .i64 0] len).toList) (by simp [size_madeCells]) hz ?_, below_setRow hb1 (Nat.le_refl _) _, ?_⟩
  · rw [setRow_heap _ _ _ _ _ _ hg]
    simp only [splice, hlen, List.append_assoc]
  · simp [World.setRow]

/-- What the packing loop keeps: 'j' frames seen, of which 'C' lie in closed batches and 'F' in the open one, which counts 'b' bytes. -/
def Packs (zs : List Int) (w2 : World) (B len j F C : Nat) (b : Int) (wr : World) : Prop :=
  C + F = j ∧ (F = 0 → b = 0) ∧ 0 ≤ b ∧ b ≤ 4611686018427387903 ∧ Below (B + 1) w2 wr ∧ B + 1 ≤ wr.heap.size ∧
    ∀ t, t < len → wr.cell? ⟨B, t, none⟩ = some (.int .i64 (zs.getD t 0))

theorem packs_next {zs : List Int} {w2 wr w1 : World} {B len k F C : Nat} {b : Int} (hCF : C + F = k) (hF : 0 < F) (b0 : 0 ≤ b) (b1 : b ≤ 4611686018427387903) (hbel : Below (B + 1) w2 wr) (hsz : B + 1 ≤ wr.heap.size)
    (hc : ∀ t, t < len → wr.cell? ⟨B, t, none⟩ = some (.int .i64 (zs.getD t 0))) (hb : Below wr.heap.size wr w1) : Packs zs w2 B len k F C b w1 :=
  ⟨hCF, fun h => by omega, b0, b1, hbel.trans (hb.mono hsz), Nat.le_trans hsz hb.size, fun t ht => (hb.cell (p := ⟨B, t, none⟩) (by show B < wr.heap.size; omega)).trans (hc t ht)⟩

set_option maxRecDepth 100000 in
set_option maxHeartbeats 4000000 in
theorem law_in (x : Addr) (len cap : Nat) (zs : List Int) (w : World) (hlen : len ≤ 65536) (hz : len ≤ zs.length)
    (hc : ∀ i, i < len → w.cell? (x.add i) = some (.int .i64 (zs.getD i 0))) :
    Calls Try.prog 3 #[.slice (some x) len cap] w fun e w' => e = .returned (.bool true) ∧ Below w.heap.size w w' := by
  have hneq := fun wx a n c => run_neq_slice_nil_any (P := Try.prog) wx 22 3 a n c 0 0 Try.underlying22
  have hmk := run_make_row' (P := Try.prog) 22 3 (.int .i64 0) 8 Try.underlying22 info3 rfl .i64 .i64 len (by omega) (by omega)
  have HC : Hid (∀ i, i < len → w.cell? (x.add i) = some (.int .i64 (zs.getD i 0))) := hc
  clear hc
  go_enter Try.func3, Try.ntmps3
  go_wp2_with (go_at_call 4; refine (bytes_yes _ _ _ _ (by omega)).mono ?_; rintro e w' ⟨rfl, rfl⟩)
  go_loop [3] (fun i => ∃ j : Nat, j ≤ len ∧ i = .int .i64 j ∧ Hid (∀ t, t < j → 0 ≤ zs.getD t 0 ∧ zs.getD t 0 ≤ 4611686018427387903)) (fun i => len - (intOf i).toNat)
  case atStart => exact ⟨0, Nat.zero_le _, rfl, fun t ht => absurd ht (Nat.not_lt_zero _)⟩
  case round =>
    obtain ⟨j, hj, rfl, Hall⟩ := hrel
    by_cases hlt : j < len
    · obtain ⟨z, hz'⟩ : ∃ z, zs.getD j 0 = z := ⟨_, rfl⟩
      have hcj := HC.out j hlt
      rw [hz'] at hcj
      have HZ : Hid (zs.getD j 0 = z) := hz'
      clear hz'
      by_cases h1 : z < 0
      · go_wp2
        go_ret
        exact ⟨rfl, Below.refl _ _⟩
      · by_cases h2 : 4611686018427387903 < z
        · go_wp2
          go_ret
          exact ⟨rfl, Below.refl _ _⟩
        · have Hall' : Hid (∀ t, t < j + 1 → 0 ≤ zs.getD t 0 ∧ zs.getD t 0 ≤ 4611686018427387903) := by
            intro t ht
            by_cases e : t = j
            · subst e; rw [HZ.out]; omega
            · exact Hall.out t (by omega)
          go_wp2
          go_round
          case rel => exact ⟨j + 1, by omega, by go_num, Hall'⟩
          case measure => simp [intOf]; omega
    · obtain rfl : j = len := by omega
      obtain ⟨w2, hcp, hrow, hb2, hs2⟩ := copy_made x j cap zs w hz HC.out
      have HR : Hid (∀ t, t < j → w2.cell? ⟨w.heap.size, t, none⟩ = some (.int .i64 (zs.getD t 0))) := hrow
      have HB : Hid (Below w.heap.size w w2) := hb2
      clear hrow hb2 HC
      go_wp2_with fail
      clear hcp hmk hneq
      go_loopw [5, 6, 7, 8, 9] (fun f y o c i wr => ∃ (k F C : Nat) (b : Int), k ≤ j ∧ f = .int .i64 F ∧ y = .int .i64 b ∧ o = .int .i64 b ∧ c = .int .i64 C ∧ i = .int .i64 k ∧ Hid (Packs zs w2 w.heap.size j k F C b wr))
        (fun _ _ _ _ i _ => j - (intOf i).toNat)
      case atStart => exact ⟨0, 0, 0, 0, Nat.zero_le _, rfl, rfl, rfl, rfl, rfl, rfl, fun _ => rfl, by omega, by omega, Below.refl _ _, hs2, HR.out⟩
      case round =>
        obtain ⟨k, F, C, b, hk, rfl, rfl, rfl, rfl, rfl, Hp⟩ := hrel
        by_cases hlt' : k < j
        · obtain ⟨z, hz'⟩ : ∃ z, zs.getD k 0 = z := ⟨_, rfl⟩
          have hck := Hp.out.2.2.2.2.2.2 k hlt'
          have hzb := Hall.out k hlt'
          rw [hz'] at hck hzb
          obtain ⟨z0, z1⟩ := hzb
          clear hz'
          obtain ⟨hCF, hF0, b0, b1, hbel, hsz, hcells⟩ := Hp.out
          have HCF : Hid (C + F = k) := hCF
          have HBW : Hid (Below (w.heap.size + 1) w2 wr) := hbel
          have HCE : Hid (∀ t, t < j → wr.cell? ⟨w.heap.size, t, none⟩ = some (.int .i64 (zs.getD t 0))) := hcells
          have hF1 : F ≤ 65536 := by omega
          have hC1 : C ≤ 65536 := by omega
          clear hCF hbel hcells Hp
          by_cases hF : F = 0
          · obtain rfl : b = 0 := hF0 hF
            subst hF
            clear hF0
            go_wp2_with fail
            refine (take_empty z wr z0 z1).mono ?_
            rintro e w1 ⟨rfl, hb1⟩
            have HP : Hid (Packs zs w2 w.heap.size j (k + 1) 1 C z w1) := packs_next (by have := HCF.out; omega) (by omega) z0 z1 HBW.out hsz HCE.out hb1
            clear hb1 hck hsz
            go_wp2
            go_roundw
            case rel => exact ⟨k + 1, 1, C, z, by omega, rfl, rfl, by go_num, rfl, by go_num, HP⟩
            case measure => simp [intOf]; omega
          · have hFp : (0 : Int) < (F : Int) := by omega
            have hFe : ((F : Int) == 0) = false := by simpa using hF
            clear hF0 hF
            by_cases hm : 4194304 < b + z
            · have hmn : ¬ b + z ≤ 4194304 := by omega
              go_wp2_with fail
              refine (take_no F b z wr hFp b0 b1 z0 z1 hm).mono ?_
              rintro e w1 ⟨rfl, hb1⟩
              go_wp2_with fail
              refine (take_empty z w1 z0 z1).mono ?_
              rintro e w3 ⟨rfl, hb3⟩
              have HP : Hid (Packs zs w2 w.heap.size j (k + 1) 1 (C + F) z w3) :=
                packs_next (by have := HCF.out; omega) (by omega) z0 z1 HBW.out hsz HCE.out (hb1.trans (hb3.mono hb1.size))
              clear hb1 hb3 hck hsz
              go_wp2
              go_roundw
              case rel => exact ⟨k + 1, 1, C + F, z, by omega, rfl, rfl, by go_num, by go_num, by go_num, HP⟩
              case measure => simp [intOf]; omega
            · go_wp2_with fail
              refine (take_yes F b z wr hFp (by omega) b0 b1 z0 z1 (by omega)).mono ?_
              rintro e w1 ⟨rfl, hb1⟩
              have HP : Hid (Packs zs w2 w.heap.size j (k + 1) (F + 1) C (b + z) w1) := packs_next (by have := HCF.out; omega) (by omega) (by omega) (by omega) HBW.out hsz HCE.out hb1
              clear hb1 hck hsz
              go_wp2
              go_roundw
              case rel => exact ⟨k + 1, F + 1, C, b + z, by omega, by go_num, rfl, by go_num, rfl, by go_num, HP⟩
              case measure => simp [intOf]; omega
        · obtain rfl : k = j := by omega
          obtain ⟨hCF, _, _, _, hbel, _, _⟩ := Hp.out
          have hfin : (((C : Int) + (F : Int)) == (k : Int)) = true := by rw [beq_iff_eq]; omega
          have hC1 : C ≤ 65536 := by omega
          have hF1 : F ≤ 65536 := by omega
          have HL : Hid (Below w.heap.size w wr) := HB.out.trans (hbel.mono (by omega))
          clear hbel hCF
          go_wp2
          go_ret
          exact ⟨rfl, HL.out⟩

theorem own : ownKnob Try.prog.godebug = none := by kernel_rfl
theorem laidOut : laidOutB Try.prog = true := by kernel_rfl

/-- WHAT THE WALK IS TOLD OF A SLICE OF INTEGERS THAT CAME IN: it is nil; or it leads to a row of 'cap' cells, the numbers 'zs' (the first 'len' are its elements, the rest its spare room), each fitting its kind. -/
def IsRow (k : IntKind) (w : World) (a : Option Addr) (len cap : Nat) (zs : List Int) : Prop :=
  (a = none ∧ len = 0 ∧ cap = 0 ∧ zs = []) ∨
  ∃ x, a = some x ∧ len ≤ cap ∧ cap ≤ maxLen ∧ zs.length = cap ∧ (∀ i, i < zs.length → w.cell? (x.add i) = some (.int k (zs.getD i 0))) ∧ ∀ n ∈ zs, (Lit.int k n).wf = true

theorem walk (a0 : Option Addr) (len0 cap0 : Nat) (z0 : List Int) (w : World) (w0 : IsRow .i64 w a0 len0 cap0 z0) :
    Calls Try.prog 3 #[.slice a0 len0 cap0] w fun e w' => e = .returned (.bool true) ∧ Below w.heap.size w w' := by
  rcases w0 with ⟨rfl, rfl, rfl, rfl⟩ | ⟨x, rfl, hl, _, hz, hc, _⟩
  · exact law_nil w
  · by_cases h : len0 ≤ 65536
    · exact law_in x len0 cap0 z0 w h (by omega) fun i hi => hc i (by omega)
    · exact law_long (some x) len0 cap0 w (by omega)

set_option maxRecDepth 100000 in
theorem lifted (os : Os) (started : os.Started) (H : Type) (enc : TypeId × Value → H) :
    ReturnsInHanded {} Try.checked os 3 .any (Rows.fnBatchTakeGreedyPackingKeepsItsPromisesSpec.pre6 enc Try.prog Try.f3 Rows.fnBatchTakeGreedyPackingKeepsItsPromisesRow.domain false) (Rows.fnBatchTakeGreedyPackingKeepsItsPromisesSpec.post enc Try.prog Try.f3 false true false false) := by
  refine returnsInHanded_of_change (C := Try.checked) own started (by kernel_rfl) Try.func3
    (ChangeSpec.witness6 (enc := enc) (C := Try.checked) false ⟨#[], #[.slice none 0 0], []⟩ 8 (by kernel_rfl) (by kernel_rfl) (by kernel_rfl) (by kernel_rfl)) ?_
  intro W base args ds gs before hval0 hW hcnd _
  have hval : ∀ (j : Nat) t v, Try.f3.params[j]? = some t → args[j]? = some v → Value.okWide Try.prog W .any base t v := hval0
  have hW' := hW
  obtain ⟨p, q, hA0, hV, rfl, hfz, hnd⟩ := hW
  have hA : DataW.TrodAll enc Try.prog W 0 (fun _ => true) true Try.f3.params.toList args.toList ds p := hA0
  rw [Try.params3] at hA hval
  obtain ⟨v0, vs0, d0, ds0, p0, q0, hargs, rfl, rfl, h0, r0⟩ := trodAll_cons hA
  obtain ⟨rfl, rfl, rfl⟩ := trodAll_nil r0
  obtain rfl : args = #[v0] := by cases args; simp_all
  obtain ⟨rfl, rfl⟩ := trodVars_none hV
  obtain ⟨a0, len0, cap0, rfl⟩ := okWide_slice Try.underlying22 (hval 0 22 v0 rfl rfl)
  have k0 := h0
  have lt0 : ∀ x ∈ p0, x.block < W.heap.size := by obtain ⟨m, hm⟩ := k0; exact DataW.trod_lt m _ _ _ hm
  obtain ⟨z0, w0⟩ : ∃ zs, IsRow .i64 W a0 len0 cap0 zs := by
    obtain ⟨fuel, hf⟩ := h0
    rcases open_ints Try.underlying22 Try.underlying3 (by kernel_rfl) hf with ⟨hcs, _⟩ | ⟨x, l, c, zs, hcs, _, hl, hm, hz, _, hcell, hwz⟩
    · simp [Value.cells] at hcs
      obtain ⟨rfl, rfl, rfl⟩ := hcs
      exact ⟨[], .inl ⟨rfl, rfl, rfl, rfl⟩⟩
    · simp [Value.cells] at hcs
      obtain ⟨rfl, rfl, rfl⟩ := hcs
      exact ⟨zs, .inr ⟨_, rfl, hl, hm, by simpa using hz, hcell, hwz⟩⟩
  clear hA0 hval0
  refine (walk a0 len0 cap0 z0 W w0).mono fun e W' ⟨he, bel⟩ => ?_
  subst he
  exact ⟨_, rfl, _, _, _, [], _, [], hW', trodAll_mk1 (shut_bool Try.underlying4 _), (trodAll_cons_mk (Below.trod laidOut (by kernel_rfl) (of_decide_eq_true (by kernel_rfl)) k0 bel lt0) trodAll_mk0), rfl, bel.frame _, fun h => by cases h⟩

theorem over : Rows.fnBatchTakeGreedyPackingKeepsItsPromisesRow.holds Try.pinned (OpenSpec.ofChange Rows.fnBatchTakeGreedyPackingKeepsItsPromisesSpec) :=
  OpenClaim.holds_of_wide 3 Try.f3 rfl rfl rfl rfl rfl rfl rfl ⟨rfl, rfl, rfl, rfl, rfl⟩ rfl rfl rfl rfl rfl (by kernel_rfl) Try.func3 (by kernel_rfl)
    (of_decide_eq_true (by kernel_rfl)) (by unfold Func.isWrapper; first | (rw [if_pos (by decide +kernel)]; kernel_rfl) | (rw [if_neg (by decide +kernel)]; exact ⟨rfl, rfl⟩))
    (fun os started H enc _ => lifted os started H enc)

/-- ████ THE STATEMENT ████ -/
theorem proved : Rows.FnBatchTakeGreedyPackingKeepsItsPromisesSaid := over
end Go.Proofs.Qxb6602483a.Take
