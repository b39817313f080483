import Derived.Test.Qxb6602489aInj
import Derived.Test.Qxb6602489aClone
import Derived.SliceStrings
import Derived.OpenShut
import Derived.ShutString
import Derived.ChangeOld
import Derived.Below
import Derived.WalkSmall
namespace Go.Proofs.Qxb6602489a.Same
open Go.ChangeShapes Go.WideShapes Go.ChangeAt Go.RowKit

theorem HasStrs.later {w w' : World} {a : Option Addr} {ss : List ByteArray} (h : HasStrs w a ss) (hb : Below w.heap.size w w') : HasStrs w' a ss := by
  intro i hi
  obtain ⟨x, rfl, hc⟩ := h i hi
  exact ⟨x, rfl, cell_later hb hc⟩
theorem HasBytes.later {w w' : World} {a : Option Addr} {ps : List Int} (h : HasBytes w a ps) (hb : Below w.heap.size w w') : HasBytes w' a ps := by
  intro i hi
  obtain ⟨x, rfl, hc⟩ := h i hi
  exact ⟨x, rfl, cell_later hb hc⟩

/-- What is owned is a slice that holds the bytes. -/
theorem own_slice {base : Nat} {w : World} {v : Value} {ps : List Int} (h : Own base w v ps) : ∃ a c, v = .slice a ps.length c ∧ HasBytes w a ps := by
  have h0 := h
  rcases h.2 with ⟨hv, hn⟩ | ⟨g, cap, cur, hv, _, _, _, _, _, _⟩
  · exact ⟨none, 0, by rw [hv, hn], fun i hi => by omega⟩
  · refine ⟨some ⟨g, 0, none⟩, cap, hv, fun i hi => ⟨_, rfl, ?_⟩⟩
    unfold Own at h0
    rw [hv] at h0
    rw [add_plain, Nat.zero_add, h0.cellAt i (by omega)]
    simp [List.getElem?_eq_getElem hi]

/-- encodeB1 hands back a slice that holds the encoding. -/
theorem enc_slice (a : Option Addr) (ca : Nat) (ss : List ByteArray) (w : World) (ha : HasStrs w a ss) (hf : 8 * ss.length + total ss ≤ 1048576) :
    Calls Try.prog 16 #[.slice a ss.length ca] w fun e w' => ∃ a' c', e = .returned (.slice a' (enc ss).length c') ∧ HasBytes w' a' (enc ss) ∧ Below w.heap.size w w' := by
  refine (enc_any a ca ss w ha hf).mono ?_
  rintro e w' ⟨v, rfl, ho, hb⟩
  obtain ⟨a', c', rfl, hy⟩ := own_slice ho
  exact ⟨a', c', rfl, hy, hb⟩

theorem enc_length (ss : List ByteArray) : (enc ss).length = 8 + (8 * ss.length + total ss) := by
  unfold enc
  rw [List.length_append, leTo_length, body_length]

set_option maxRecDepth 100000 in
set_option maxHeartbeats 2000000 in
theorem walk (a b : Option Addr) (ca cb : Nat) (ss ts : List ByteArray) (w : World) (ha : HasStrs w a ss) (hb : HasStrs w b ts) :
    Calls Try.prog 5 #[.slice a ss.length ca, .slice b ts.length cb] w fun e w' => e = .returned (.bool true) ∧ Below w.heap.size w w' := by
  have HA : Hid (HasStrs w a ss) := ha
  have HB : Hid (HasStrs w b ts) := hb
  clear ha hb
  go_enter Try.func5, Try.ntmps5
  go_wp2_with fail
  refine (bytes_any a b ca cb ss ts w HA.out HB.out).mono ?_
  rintro e w1 ⟨⟨r1, rfl, h1⟩, rfl⟩
  cases r1 with
  | false =>
    clear h1
    go_wp2_with fail
    go_ret
    exact ⟨rfl, Below.refl _ _⟩
  | true =>
    obtain ⟨hsS, hsT⟩ := h1 rfl
    clear h1
    have HSS : Hid (Short ss ss.length) := hsS
    have HST : Hid (Short ts ts.length) := hsT
    clear hsS hsT
    go_wp2_with fail
    refine (fits_any a b ca cb ss ts w HA.out HB.out HSS.out HST.out).mono ?_
    rintro e w1 ⟨⟨r2, rfl, h2⟩, rfl⟩
    clear HSS HST
    cases r2 with
    | false =>
      clear h2
      go_wp2_with fail
      go_ret
      exact ⟨rfl, Below.refl _ _⟩
    | true =>
      have HF : Hid (Fits ss ts) := h2 rfl
      clear h2
      have hl1 : ss.length ≤ 131072 := by have := HF.out; unfold Fits at this; omega
      have hl2 : ts.length ≤ 131072 := by have := HF.out; unfold Fits at this; omega
      go_wp2_with fail
      refine (clone_any a ca ss w HA.out hl1).mono ?_
      rintro e w1 ⟨a1, c1, rfl, hs1, hb1⟩
      have HB1 : Hid (Below w.heap.size w w1) := hb1
      have HA1 : Hid (HasStrs w1 a1 ss) := hs1
      have HBb : Hid (HasStrs w1 b ts) := HB.out.later hb1
      clear hs1 hb1 HA HB
      go_wp2_with fail
      refine (clone_any b cb ts w1 HBb.out hl2).mono ?_
      rintro e w2 ⟨a2, c2, rfl, hs2, hb2⟩
      have HB2 : Hid (Below w.heap.size w w2) := HB1.out.trans (hb2.mono HB1.out.size)
      have HA2 : Hid (HasStrs w2 a1 ss) := HA1.out.later hb2
      have HT2 : Hid (HasStrs w2 a2 ts) := hs2
      clear hs2 hb2 HB1 HA1 HBb
      go_wp2_with fail
      refine (same_any a1 a2 c1 c2 ss ts w2 HA2.out HT2.out hl1).mono ?_
      rintro e w3 ⟨⟨r3, rfl, h3⟩, n, rfl⟩
      have H3 : Hid (r3 = true ↔ ss = ts) := h3
      clear h3
      have hb3 : Below w2.heap.size w2 (w2.drewN n) := below_drewN (Below.refl _ _) n
      have HB3 : Hid (Below w.heap.size w (w2.drewN n)) := below_drewN HB2.out n
      have HA3 : Hid (HasStrs (w2.drewN n) a1 ss) := HA2.out.later hb3
      have HT3 : Hid (HasStrs (w2.drewN n) a2 ts) := HT2.out.later hb3
      clear hb3 HB2 HA2 HT2
      generalize w2.drewN n = w3 at *
      go_wp2_with fail
      refine (enc_slice a1 c1 ss w3 HA3.out (by have := HF.out; unfold Fits at this; omega)).mono ?_
      rintro e w4 ⟨a4, c4, rfl, hy4, hb4⟩
      have HB4 : Hid (Below w.heap.size w w4) := HB3.out.trans (hb4.mono HB3.out.size)
      have HY4 : Hid (HasBytes w4 a4 (enc ss)) := hy4
      have HT4 : Hid (HasStrs w4 a2 ts) := HT3.out.later hb4
      clear hy4 hb4 HB3 HA3 HT3
      go_wp2_with fail
      refine (enc_slice a2 c2 ts w4 HT4.out (by have := HF.out; unfold Fits at this; omega)).mono ?_
      rintro e w5 ⟨a5, c5, rfl, hy5, hb5⟩
      have HB5 : Hid (Below w.heap.size w w5) := HB4.out.trans (hb5.mono HB4.out.size)
      have HY5 : Hid (HasBytes w5 a5 (enc ts)) := hy5
      have HX5 : Hid (HasBytes w5 a4 (enc ss)) := HY4.out.later hb5
      clear hy5 hb5 HB4 HY4 HT4
      go_wp2_with fail
      refine (bytesEq_any a4 a5 c4 c5 (enc ss) (enc ts) w5 HX5.out HY5.out (by rw [enc_length]; have := HF.out; unfold Fits at this; omega)).mono ?_
      rintro e w6 ⟨⟨r6, rfl, h6⟩, n6, rfl⟩
      obtain rfl : r3 = r6 := by rw [Bool.eq_iff_iff, H3.out, h6, enc_inj ss ts HF.out]
      have HB6 : Hid (Below w.heap.size w (w5.drewN n6)) := below_drewN HB5.out n6
      clear h6 H3 HB5
      go_wp2
      go_ret
      exact ⟨by simp, HB6.out⟩

theorem own : ownKnob Try.prog.godebug = none := by kernel_rfl
theorem laidOut : laidOutB Try.prog = true := by kernel_rfl

/-- A slice of strings that came in, opened: its strings. -/
theorem view {H : Type} {enc : TypeId × Value → H} {W : World} {v : Value} {d : DataW H} {ps : List MemPlace} {base : Nat}
    (hv : Value.okWide Try.prog W .any base 24 v) (h : DataW.Trod enc Try.prog W 0 (fun _ => true) true 24 v d ps) :
    ∃ (a : Option Addr) (c : Nat) (ss : List ByteArray), v = .slice a ss.length c ∧ HasStrs W a ss := by
  obtain ⟨a0, len0, cap0, rfl⟩ := okWide_slice Try.underlying24 hv
  obtain ⟨fuel, hf⟩ := h
  rcases open_strings Try.underlying24 Try.underlying9 (by kernel_rfl) hf with ⟨hcs, _⟩ | ⟨x, l, c, zs, hcs, _, hl, hm, hz, _, hcell, hwz⟩
  · simp [Value.cells] at hcs
    obtain ⟨rfl, rfl, rfl⟩ := hcs
    exact ⟨none, 0, [], rfl, fun i hi => absurd hi (Nat.not_lt_zero _)⟩
  · simp [Value.cells] at hcs
    obtain ⟨rfl, rfl, rfl⟩ := hcs
    have hzl : zs.length = cap0 := by simpa using hz
    refine ⟨some x, cap0, zs.take len0, ?_, ?_⟩
    · rw [List.length_take, Nat.min_eq_left (by omega)]
    · intro i hi
      rw [List.length_take, Nat.min_eq_left (by omega)] at hi
      refine ⟨x, rfl, ?_⟩
      rw [hcell i (by omega)]
      simp [hi]

set_option maxRecDepth 100000 in
theorem lifted (os : Os) (started : os.Started) (H : Type) (enc : TypeId × Value → H) :
    ReturnsInHanded {} Try.checked os 5 .any (Rows.fnSameStringsEncodingSpec.pre6 enc Try.prog Try.f5 Rows.fnSameStringsEncodingRow.domain false) (Rows.fnSameStringsEncodingSpec.post enc Try.prog Try.f5 false true false false) := by
  refine returnsInHanded_of_change (C := Try.checked) own started (by kernel_rfl) Try.func5
    (ChangeSpec.witness6 (enc := enc) (C := Try.checked) false ⟨#[], #[.slice none 0 0, .slice none 0 0], []⟩ 8 (by kernel_rfl) (by kernel_rfl) (by kernel_rfl) (by kernel_rfl)) ?_
  intro W base args ds gs before hval0 hW hcnd _
  have hval : ∀ (j : Nat) t v, Try.f5.params[j]? = some t → args[j]? = some v → Value.okWide Try.prog W .any base t v := hval0
  have hW' := hW
  obtain ⟨p, q, hA0, hV, rfl, hfz, hnd⟩ := hW
  have hA : DataW.TrodAll enc Try.prog W 0 (fun _ => true) true Try.f5.params.toList args.toList ds p := hA0
  rw [Try.params5] at hA hval
  obtain ⟨v0, vs0, d0, ds0, p0, q0, hargs, rfl, rfl, h0, r0⟩ := trodAll_cons hA
  obtain ⟨v1, vs1, d1, ds1, p1, q1, rfl, rfl, rfl, h1, r1⟩ := trodAll_cons r0
  obtain ⟨rfl, rfl, rfl⟩ := trodAll_nil r1
  obtain rfl : args = #[v0, v1] := by cases args; simp_all
  obtain ⟨rfl, rfl⟩ := trodVars_none hV
  have k0 := h0
  have k1 := h1
  have lt0 : ∀ x ∈ p0, x.block < W.heap.size := by obtain ⟨m, hm⟩ := k0; exact DataW.trod_lt m _ _ _ hm
  have lt1 : ∀ x ∈ p1, x.block < W.heap.size := by obtain ⟨m, hm⟩ := k1; exact DataW.trod_lt m _ _ _ hm
  obtain ⟨a, ca, ss, rfl, ha⟩ := view (hval 0 24 v0 rfl rfl) h0
  obtain ⟨b, cb, ts, rfl, hb⟩ := view (hval 1 24 v1 rfl rfl) h1
  clear hA0 hval0
  refine (walk a b ca cb ss ts W ha hb).mono fun e W' ⟨he, bel⟩ => ?_
  subst he
  exact ⟨_, rfl, _, _, _, [], _, [], hW', trodAll_mk1 (shut_bool Try.underlying4 _),
    (trodAll_cons_mk (Below.trod laidOut (by kernel_rfl) (of_decide_eq_true (by kernel_rfl)) k0 bel lt0) (trodAll_cons_mk (Below.trod laidOut (by kernel_rfl) (of_decide_eq_true (by kernel_rfl)) k1 bel lt1) trodAll_mk0)), rfl, bel.frame _, fun h => by cases h⟩

theorem over : Rows.fnSameStringsEncodingRow.holds Try.pinned (OpenSpec.ofChange Rows.fnSameStringsEncodingSpec) :=
  OpenClaim.holds_of_wide 5 Try.f5 rfl rfl rfl rfl rfl rfl rfl ⟨rfl, rfl, rfl, rfl, rfl⟩ rfl rfl rfl rfl rfl (by kernel_rfl) Try.func5 (by kernel_rfl)
    (of_decide_eq_true (by kernel_rfl)) (by unfold Func.isWrapper; first | (rw [if_pos (by decide +kernel)]; kernel_rfl) | (rw [if_neg (by decide +kernel)]; exact ⟨rfl, rfl⟩))
    (fun os started H enc _ => lifted os started H enc)

theorem proved : Rows.FnSameStringsEncodingSaid := over
end Go.Proofs.Qxb6602489a.Same
