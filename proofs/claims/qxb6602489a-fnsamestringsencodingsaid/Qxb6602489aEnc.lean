import Derived.Test.Qxb6602489aEq
import Derived.Deep.OwnRows
namespace Go.Proofs.Qxb6602489a.Same
open Go.ChangeShapes Go.WideShapes Go.ChangeAt Go.RowKit

theorem info5 : (Try.prog.info? 5).map (fun i => (i.zero, i.size, i.bytes)) = some (some (.int .u8 0), 1, 1) := by kernel_rfl

/-- The slice value v, from block 'base' on the call's own, holds the bytes ps. -/
def Own (base : Nat) (w : World) (v : Value) (ps : List Int) : Prop := w.ownsRow base 5 1 v ps.length (ps.map (Value.int .u8))

/-- The first j of the little-endian bytes of x. -/
def leTo (x : Nat) (j : Nat) : List Int := (List.range j).map fun k => (x : Int) / 2 ^ (8 * k) % 256
theorem leTo_succ (x j : Nat) : leTo x (j + 1) = leTo x j ++ [(x : Int) / 2 ^ (8 * j) % 256] := by
  unfold leTo; rw [List.range_succ, List.map_append]; rfl
theorem leTo_length (x j : Nat) : (leTo x j).length = j := by simp [leTo]

theorem one_cell (w : World) (c : Int) : ∀ (j : Nat) (u : Value), ([Value.int .u8 c] : List Value)[j]? = some u → (w.alloc (.cells #[Value.int .u8 c] 5)).cell? ((⟨w.heap.size, 0, none⟩ : Addr).add j) = some u := by
  have hg : (w.alloc (.cells #[Value.int .u8 c] 5)).heap[w.heap.size]? = some (.cells #[Value.int .u8 c] 5 (0, 0)) := (MapKept.heap_alloc w _).1
  generalize w.alloc (.cells #[Value.int .u8 c] 5) = W at hg
  intro j u hu
  match j, hu with
  | 0, hu =>
    simp at hu
    subst hu
    rw [add_plain]
    simp [World.cell?, hg]

theorem own_push {base : Nat} {w1 : World} {v' : Value} {ps : List Int} {c : Int} (h : w1.ownsRow base 5 1 v' (ps.length + 1) (ps.map (Value.int .u8) ++ [Value.int .u8 c])) : Own base w1 v' (ps ++ [c]) := by
  unfold Own
  simpa using h

theorem below_push {base : Nat} {w wr w1 : World} {v : Value} {ps : List Int} {o : Obj} (hb : Below base w wr) (hs : base ≤ wr.heap.size) (ho : Own base wr v ps) (hg : (wr.alloc o).grownBy w1 v.ownBlock) : Below base w w1 :=
  (hb.alloc hs o).grown hg (by simp; omega) fun k hk => (World.ownsRow.lt ho k hk).1

set_option maxRecDepth 100000 in
set_option maxHeartbeats 1000000 in
theorem u64_any (v : Value) (ps : List Int) (x : Nat) (base : Nat) (w : World) (hown : Own base w v ps) (hn : ps.length ≤ 1073741824) (hb : base ≤ w.heap.size) :
    Calls Try.prog 21 #[v, .int .u64 x] w fun e w' => ∃ v', e = .returned v' ∧ Own base w' v' (ps ++ leTo x 8) ∧ Below base w w' := by
  obtain ⟨i0, hi, hz0, hz1, hz2⟩ := info_parts info5
  have HO : Hid (Own base w v ps) := hown
  clear hown
  go_enter Try.func21, Try.ntmps21
  go_wp2
  go_loopw [0, 5] (fun u i wr => ∃ j : Nat, j ≤ 8 ∧ i = .int .i64 j ∧ Hid (Own base wr u (ps ++ leTo x j)) ∧ Hid (Below base w wr))
    (fun _ i _ => 8 - (intOf i).toNat)
  case atStart => exact ⟨0, Nat.zero_le _, rfl, by simpa [leTo] using HO, Below.refl _ _⟩
  case round =>
    obtain ⟨j, hj, rfl, Hown, Hbel⟩ := hrel
    by_cases hlt : j < 8
    · have hlen : (ps ++ leTo x j).length = ps.length + j := by rw [List.length_append, leTo_length]
      have HLen : Hid ((ps ++ leTo x j).length = ps.length + j) := hlen
      clear hlen
      have hsz : base ≤ wr.heap.size := Nat.le_trans hb Hbel.out.size
      go_wp2_with (at_builtin; refine wpList_append_own _ rfl (.tmp 10) (.tmp 17) 29 rfl base 5 i0 (.int .u8 0) 1 1 Try.underlying29 hi hz0 hz1 hz2 rfl (by decide) _ _ _ rfl (Hown.out.alloc _) ⟨wr.heap.size, 0, none⟩ 1 1 [.int .u8 ((x : Int) / 2 ^ (8 * j) % 256)] rfl rfl ?c1 ?c2 ?c3 ?c4 ?c5 ?_)
      case c1 => exact one_cell wr _
      case c2 => intro u hu; simp at hu; subst hu; rfl
      case c3 => have := HLen.out; unfold maxLen; omega
      case c4 => have := HLen.out; omega
      case c5 => simp; omega
      intro v' w1 hown' hgrow _
      have HN : Hid (Own base w1 v' (ps ++ leTo x (j + 1))) := by rw [leTo_succ, ← List.append_assoc]; exact own_push (by simpa using hown')
      have HB : Hid (Below base w w1) := below_push Hbel.out hsz Hown.out hgrow
      clear hown' hgrow Hown Hbel
      go_wp2
      go_roundw
      case rel => exact ⟨j + 1, by omega, by go_num, HN, HB⟩
      case measure => simp [intOf]; omega
    · obtain rfl : j = 8 := by omega
      go_wp2
      go_ret
      exact ⟨_, rfl, Hown.out, Hbel.out⟩

/-- The bytes of a string, as numbers. -/
def bytesOf (s : ByteArray) : List Int := s.data.toList.map fun c => (c.toNat : Int)
theorem bytesOf_length (s : ByteArray) : (bytesOf s).length = s.size := by
  show (s.data.toList.map _).length = s.data.size
  rw [List.length_map, Array.length_toList]
theorem bytesOf_take (s : ByteArray) (j : Nat) (h : j < s.size) : (bytesOf s).take (j + 1) = (bytesOf s).take j ++ [(s[j].toNat : Int)] := by
  have h' : j < (bytesOf s).length := by rw [bytesOf_length]; exact h
  rw [List.take_succ_eq_append_getElem h']
  congr 1
  simp [bytesOf]
  rfl

/-- The strings, each ahead by its length. -/
def body (ss : List ByteArray) : List Int := ss.flatMap fun s => leTo s.size 8 ++ bytesOf s
def enc (ss : List ByteArray) : List Int := leTo ss.length 8 ++ body ss
theorem body_take (ss : List ByteArray) (j : Nat) (h : j < ss.length) : body (ss.take (j + 1)) = body (ss.take j) ++ (leTo (ss.getD j ByteArray.empty).size 8 ++ bytesOf (ss.getD j ByteArray.empty)) := by
  unfold body
  rw [List.take_succ_eq_append_getElem h, List.flatMap_append]
  simp [List.getElem?_eq_getElem h]
theorem body_length (ss : List ByteArray) : (body ss).length = 8 * ss.length + total ss := by
  induction ss with
  | nil => rfl
  | cons s r ih =>
    have e1 : body (s :: r) = (leTo s.size 8 ++ bytesOf s) ++ body r := rfl
    have e2 : total (s :: r) = s.size + total r := rfl
    rw [e1, e2, List.length_append, List.length_append, ih, leTo_length, bytesOf_length, List.length_cons]
    omega
theorem total_take_le (ss : List ByteArray) (j : Nat) : total (ss.take j) ≤ total ss := by
  have e : total ss = total (ss.take j) + total (ss.drop j) := by
    unfold total
    rw [← List.sum_append, ← List.map_append, List.take_append_drop]
  omega

theorem own_done {base : Nat} {wr : World} {v : Value} {pre A : List Int} {s : ByteArray} (h : Own base wr v (pre ++ (bytesOf s).take s.size)) (hp : A = pre ++ bytesOf s) : Hid (Own base wr v A) := by
  rw [List.take_of_length_le (by rw [bytesOf_length]; exact Nat.le_refl _)] at h
  rw [hp]
  exact h
theorem own_all {base : Nat} {wr : World} {v : Value} {ss : List ByteArray} (h : Own base wr v (leTo ss.length 8 ++ body (ss.take ss.length))) : Hid (Own base wr v (enc ss)) := by
  rw [List.take_length] at h
  exact h

set_option maxRecDepth 100000 in
set_option maxHeartbeats 2000000 in
theorem enc_any (a : Option Addr) (ca : Nat) (ss : List ByteArray) (w : World) (ha : HasStrs w a ss) (hf : 8 * ss.length + total ss ≤ 1048576) :
    Calls Try.prog 16 #[.slice a ss.length ca] w fun e w' => ∃ v', e = .returned v' ∧ Own w.heap.size w' v' (enc ss) ∧ Below w.heap.size w w' := by
  obtain ⟨i0, hi, hz0, hz1, hz2⟩ := info_parts info5
  have HA : Hid (HasStrs w a ss) := ha
  have HF : Hid (8 * ss.length + total ss ≤ 1048576) := hf
  have hl : ss.length ≤ 131072 := by omega
  clear ha hf
  go_enter Try.func16, Try.ntmps16
  go_wp2
  go_loop [3, 4] (fun n i => ∃ j t : Nat, j ≤ ss.length ∧ t ≤ 1048584 ∧ n = .int .i64 t ∧ i = .int .i64 j ∧ Hid (t = 8 + 8 * j + total (ss.take j))) (fun _ i => ss.length - (intOf i).toNat)
  case atStart => exact ⟨0, 8, Nat.zero_le _, by omega, rfl, rfl, rfl⟩
  case round =>
    obtain ⟨j, t, hj, ht, rfl, rfl, HI⟩ := hrel
    by_cases hlt : j < ss.length
    · obtain ⟨x, rfl, hc⟩ := HA.out j hlt
      have htt := total_take_succ ss j hlt
      have hle := total_take_le ss (j + 1)
      obtain ⟨s, hs⟩ : ∃ s, ss.getD j ByteArray.empty = s := ⟨_, rfl⟩
      rw [hs] at hc htt
      have hbd : t + (8 + s.size) ≤ 1048584 := by have e1 := HI.out; have e2 := HF.out; omega
      have HN : Hid (t + (8 + s.size) = 8 + 8 * (j + 1) + total (ss.take (j + 1))) := by have e1 := HI.out; unfold Hid; omega
      clear hs htt hle
      go_wp2
      go_round
      case rel => exact ⟨j + 1, t + (8 + s.size), by omega, hbd, by go_num, by go_num, HN⟩
      case measure => simp [intOf]; omega
    · obtain rfl : j = ss.length := by omega
      go_wp2_with (at_make; refine wpList_make_own _ rfl _ _ 29 rfl w.heap.size 5 i0 (.int .u8 0) 1 Try.underlying29 hi hz0 hz1 _ _ _ t rfl rfl (by omega) ?b1 ?b2 (Nat.le_refl _) ?_)
      case b1 => omega
      case b2 => unfold maxLen; omega
      intro w1 hown hgrow
      have HO : Hid (Own w.heap.size w1 (.slice (some ⟨w.heap.size, 0, none⟩) 0 t) []) := hown
      have HB : Hid (Below w.heap.size w w1) := (Below.refl _ _).grown hgrow (Nat.le_refl _) (fun k hk => by cases hk)
      clear hown hgrow
      have HLn : Hid (∀ j, (leTo ss.length 8 ++ body (ss.take j)).length ≤ 1048584) := by
        intro j
        have e1 := HF.out
        have e2 := total_take_le ss j
        have e3 : (ss.take j).length ≤ ss.length := by rw [List.length_take]; omega
        rw [List.length_append, leTo_length, body_length]
        omega
      clear HI HF
      go_wp2_with fail
      refine (u64_any _ [] ss.length w.heap.size w1 HO.out (by simp) HB.out.size).mono ?_
      rintro e w2 ⟨v2, rfl, ho2, hb2⟩
      have HO2 : Hid (Own w.heap.size w2 v2 (leTo ss.length 8 ++ body (ss.take 0))) := by unfold Hid; simpa [body] using ho2
      have HB2 : Hid (Below w.heap.size w w2) := HB.out.trans hb2
      clear ho2 hb2 HO HB
      go_wp2_with fail
      go_loopw [5, 6] (fun v i wr => ∃ k : Nat, k ≤ ss.length ∧ i = .int .i64 k ∧ Hid (Own w.heap.size wr v (leTo ss.length 8 ++ body (ss.take k))) ∧ Hid (Below w.heap.size w wr)) (fun _ i _ => ss.length - (intOf i).toNat)
      case atStart => exact ⟨0, Nat.zero_le _, rfl, HO2, HB2⟩
      case round =>
        clear HO2 HB2
        obtain ⟨k, hk, rfl, HO2, HB2⟩ := hrel
        by_cases hkl : k < ss.length
        · obtain ⟨x, rfl, hc0⟩ := HA.out k hkl
          have hc := cell_later HB2.out hc0
          have hbt := body_take ss k hkl
          obtain ⟨s, hs⟩ : ∃ s, ss.getD k ByteArray.empty = s := ⟨_, rfl⟩
          rw [hs] at hc hbt
          have HBT : Hid (body (ss.take (k + 1)) = body (ss.take k) ++ (leTo s.size 8 ++ bytesOf s)) := hbt
          have hss : s.size ≤ 1048584 := by
            have e1 := HLn.out (k + 1)
            rw [hbt] at e1
            simp only [List.length_append, bytesOf_length] at e1
            omega
          clear hs hbt hc0
          have hlnk := HLn.out k
          have hszr := HB2.out.size
          go_wp2_with fail
          refine (u64_any _ _ s.size w.heap.size wr HO2.out (by omega) hszr).mono ?_
          rintro e w3 ⟨v3, rfl, ho3, hb3⟩
          obtain ⟨pre, hpre⟩ : ∃ pre, leTo ss.length 8 ++ body (ss.take k) ++ leTo s.size 8 = pre := ⟨_, rfl⟩
          have hpl : pre.length ≤ 1048592 := by rw [← hpre, List.length_append, leTo_length]; omega
          rw [hpre] at ho3
          have HP : Hid (leTo ss.length 8 ++ body (ss.take (k + 1)) = pre ++ bytesOf s) := by unfold Hid; rw [HBT.out, ← hpre]; simp only [List.append_assoc]
          have HO3 : Hid (Own w.heap.size w3 v3 (pre ++ (bytesOf s).take 0)) := by unfold Hid; simpa using ho3
          have HB3 : Hid (Below w.heap.size w w3) := HB2.out.trans hb3
          clear ho3 hb3 hpre HBT HO2 HB2 hlnk hszr hc
          go_wp2_with fail
          obtain ⟨wo, rfl⟩ : ∃ wo : World, wo = wr := ⟨_, rfl⟩
          go_loopw [5, 8] (fun v i wr => ∃ m : Nat, m ≤ s.size ∧ i = .int .i64 m ∧ Hid (Own w.heap.size wr v (pre ++ (bytesOf s).take m)) ∧ Hid (Below w.heap.size w wr)) (fun _ i _ => s.size - (intOf i).toNat)
          case atStart => exact ⟨0, Nat.zero_le _, rfl, HO3, HB3⟩
          case round =>
            clear HO3 HB3
            obtain ⟨m, hm, rfl, HO3, HB3⟩ := hrel
            by_cases hml : m < s.size
            · have hlen : (pre ++ (bytesOf s).take m).length ≤ 1048592 + 1048584 := by
                rw [List.length_append, List.length_take]
                omega
              have HLen : Hid ((pre ++ (bytesOf s).take m).length ≤ 1048592 + 1048584) := hlen
              clear hlen
              have hsz : w.heap.size ≤ wr.heap.size := HB3.out.size
              have HT : Hid ((bytesOf s).take (m + 1) = (bytesOf s).take m ++ [(s[m].toNat : Int)]) := bytesOf_take s m hml
              go_wp2_with (at_builtin; refine wpList_append_own _ rfl (.tmp 51) (.tmp 55) 29 rfl w.heap.size 5 i0 (.int .u8 0) 1 1 Try.underlying29 hi hz0 hz1 hz2 rfl (by decide) _ _ _ rfl (HO3.out.alloc _) ⟨wr.heap.size, 0, none⟩ 1 1 [.int .u8 (s[m].toNat : Int)] rfl rfl ?c1 ?c2 ?c3 ?c4 ?c5 ?_)
              case c1 => exact one_cell wr _
              case c2 => intro u hu; simp at hu; subst hu; rfl
              case c3 => have := HLen.out; unfold maxLen; omega
              case c4 => have := HLen.out; omega
              case c5 => simp; omega
              intro v' w4 hown' hgrow _
              have HN : Hid (Own w.heap.size w4 v' (pre ++ (bytesOf s).take (m + 1))) := by rw [HT.out, ← List.append_assoc]; exact own_push (by simpa using hown')
              have HB : Hid (Below w.heap.size w w4) := below_push HB3.out hsz HO3.out hgrow
              clear hown' hgrow HO3 HB3 HT HLen
              go_wp2
              go_roundw
              case rel => exact ⟨m + 1, by omega, by go_num, HN, HB⟩
              case measure => simp [intOf]; omega
            · obtain rfl : m = s.size := by omega
              have HN := own_done HO3.out HP.out
              clear HO3
              go_wp2
              go_roundw
              case rel => exact ⟨k + 1, by omega, by go_num, HN, HB3⟩
              case measure => simp [intOf]; omega
        · obtain rfl : k = ss.length := by omega
          have HE := own_all HO2.out
          go_wp2
          go_ret
          exact ⟨_, rfl, HE.out, HB2.out⟩
end Go.Proofs.Qxb6602489a.Same
