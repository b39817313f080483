import Derived.Test.Qxb6602420aWarn
import Derived.OpenShut
import Derived.ShutString
namespace Go.Proofs.Qxb6602420a.fnWindowWarningSpec
open Go.ChangeShapes Go.WideShapes Go.ChangeAt Go.RowKit
open Warn

theorem own : ownKnob Try.prog.godebug = none := by kernel_rfl
theorem cells2 : Try.prog.cellsOf 2 = 1 := by kernel_rfl

theorem walk_nil (a : Int) (w : World) :
    Calls Try.prog 3 #[.pointer none, .int .i64 a] w fun e w' => e = .returned (.bool true) ∧ ∃ n, w' = w.drewN n := by
  go_enter Try.func3, Try.ntmps3
  go_wp2_with (go_at_call 6; refine (warn_nil _ _).mono ?_; rintro e w' ⟨rfl, n, rfl⟩)
  go_ret
  exact ⟨rfl, _, rfl⟩

theorem walk_some (b o : Nat) (l a : Int) (w : World) (hc : w.cell? ⟨b, o, none⟩ = some (.int .i64 l))
    (hl0 : -9223372036854775808 ≤ l) (hl1 : l ≤ 9223372036854775807) (ha0 : -9223372036854775808 ≤ a) (ha1 : a ≤ 9223372036854775807) :
    Calls Try.prog 3 #[.pointer (some ⟨b, o, none⟩), .int .i64 a] w fun e w' => e = .returned (.bool true) ∧ ∃ n, w' = w.drewN n := by
  by_cases c1 : l < -1
  · go_enter Try.func3, Try.ntmps3
    go_wp2_with fail
    go_ret
    exact ⟨rfl, 0, rfl⟩
  by_cases c2 : l = -1
  · subst c2
    go_enter Try.func3, Try.ntmps3
    go_wp2_with (go_at_call 6; refine (warn_unl _ _ _ _ (by simpa using hc)).mono ?_; rintro e w' ⟨rfl, n, rfl⟩)
    go_ret
    exact ⟨rfl, _, rfl⟩
  have h1 : (l == -1) = false := by simpa using c2
  have h0 : 0 ≤ l := by omega
  clear c1 c2
  have hm := mark_is l h0 hl1
  by_cases c3 : l < a
  · clear hm
    go_enter Try.func3, Try.ntmps3
    go_wp2_with (go_at_call 6; refine (warn_over _ _ l _ _ (by simpa using hc) h1 (by omega)).mono ?_; rintro e w' ⟨rfl, n, rfl⟩)
    go_ret
    exact ⟨rfl, _, rfl⟩
  by_cases c4 : 0 ≤ a
  · by_cases c5 : l - a < 2305843009213693952
    · by_cases c6 : 4 * (l - a) ≤ a
      · have hn : wrap64 (l - l.tdiv 5) ≤ a := by rw [hm]; omega
        clear hm
        have hw := warn_near b o l a w hc h1 c3 hl0 hl1 hn
        clear hn
        go_enter Try.func3, Try.ntmps3
        go_wp2_with (go_at_call 6; refine hw.mono ?_; rintro e w' ⟨rfl, n, rfl⟩; clear hw)
        go_ret
        exact ⟨rfl, _, rfl⟩
      · have hn : a < wrap64 (l - l.tdiv 5) := by rw [hm]; omega
        clear hm
        have hw := warn_low b o l a w hc h1 c3 hl0 hl1 hn
        clear hn
        go_enter Try.func3, Try.ntmps3
        go_wp2_with (go_at_call 6; refine hw.mono ?_; rintro e w' ⟨rfl, n, rfl⟩; clear hw)
        go_ret
        exact ⟨rfl, _, rfl⟩
    · have hn : a < wrap64 (l - l.tdiv 5) := by rw [hm]; omega
      clear hm
      have hw := warn_low b o l a w hc h1 c3 hl0 hl1 hn
      clear hn
      go_enter Try.func3, Try.ntmps3
      go_wp2_with (go_at_call 6; refine hw.mono ?_; rintro e w' ⟨rfl, n, rfl⟩; clear hw)
      go_ret
      exact ⟨rfl, _, rfl⟩
  · have hn : a < wrap64 (l - l.tdiv 5) := by rw [hm]; omega
    clear hm
    have hw := warn_low b o l a w hc h1 c3 hl0 hl1 hn
    clear hn
    go_enter Try.func3, Try.ntmps3
    go_wp2_with (go_at_call 6; refine hw.mono ?_; rintro e w' ⟨rfl, n, rfl⟩; clear hw)
    go_ret
    exact ⟨rfl, _, rfl⟩

set_option maxRecDepth 100000 in
theorem lifted (os : Os) (started : os.Started) (H : Type) (enc : TypeId × Value → H) :
    ReturnsInHanded {} Try.checked os 3 .any (Rows.fnWindowWarningSpecSpec.pre6 enc Try.prog Try.f3 Rows.fnWindowWarningSpecRow.domain false) (Rows.fnWindowWarningSpecSpec.post enc Try.prog Try.f3 false true false false) := by
  refine returnsInHanded_of_change (C := Try.checked) own started (by kernel_rfl) Try.func3
    (ChangeSpec.witness6 (enc := enc) (C := Try.checked) false ⟨#[], #[.pointer none, .int .i64 0], []⟩ 8 (by kernel_rfl) (by kernel_rfl) (by kernel_rfl) (by kernel_rfl)) ?_
  intro W base args ds gs before hval0 hW hcnd _
  have hval : ∀ (j : Nat) t v, Try.f3.params[j]? = some t → args[j]? = some v → Value.okWide Try.prog W .any base t v := hval0
  have hW' := hW
  obtain ⟨p, q, hA0, hV, rfl, hfz, hnd⟩ := hW
  have hA : DataW.TrodAll enc Try.prog W 0 (fun _ => true) true Try.f3.params.toList args.toList ds p := hA0
  rw [Try.params3] at hA hval
  obtain ⟨v0, v1, d0, d1, p0, p1, rfl, rfl, rfl, h0, h1⟩ := trodAll_two hA
  obtain ⟨rfl, rfl⟩ := trodVars_none hV
  obtain ⟨a1, rfl, rfl, rfl, w1⟩ := open_int Try.underlying2 (hval 1 2 v1 rfl rfl) h1
  rcases open_ptr_int Try.underlying22 Try.underlying2 cells2 (hval 0 22 v0 rfl rfl) h0 with ⟨rfl, rfl, rfl⟩ | ⟨b0, o0, x, rfl, rfl, rfl, g0, wx⟩
  · clear hA0 hval0
    simp only [List.append_nil] at hW'
    refine (walk_nil a1 W).mono fun e W' ⟨he, n, hn⟩ => ?_
    subst he
    subst hn
    have hg := grown_drewN W n
    exact ⟨_, rfl, post_of_same (pa := []) (pv := []) hW' (fun _ _ _ => trodAll_mk1 (shut_bool Try.underlying4 _)) (fun sp _ => trodAll_mk2 (shut_ptr_nil Try.underlying22) (shut_int Try.underlying2 w1)) (fun _ _ => rfl) rfl
      (hg.frame _) hg.2.1 (ok_one (by kernel_rfl) rfl (okWide_bool_mk Try.underlying4 _))⟩
  · clear hA0 hval0
    simp only [List.append_nil] at hW'
    have bx := bounds_i64 wx
    have ba := bounds_i64 w1
    refine (walk_some b0 o0 x a1 W g0 bx.1 bx.2 ba.1 ba.2).mono fun e W' ⟨he, n, hn⟩ => ?_
    subst he
    subst hn
    have hg := grown_drewN W n
    exact ⟨_, rfl, post_of_same (pa := [.cell b0 o0]) (pv := []) hW' (fun _ _ _ => trodAll_mk1 (shut_bool Try.underlying4 _)) (fun sp _ => trodAll_mk2 (shut_ptr_int Try.underlying22 Try.underlying2 cells2 (Nat.zero_le _) (show (W.drewN n).cell? ⟨b0, o0, none⟩ = _ from g0) wx) (shut_int Try.underlying2 w1)) (fun _ _ => rfl) rfl
      (hg.frame _) hg.2.1 (ok_one (by kernel_rfl) rfl (okWide_bool_mk Try.underlying4 _))⟩

theorem over : Rows.fnWindowWarningSpecRow.holds Try.pinned (OpenSpec.ofChange Rows.fnWindowWarningSpecSpec) :=
  OpenClaim.holds_of_wide 3 Try.f3 rfl rfl rfl rfl rfl rfl rfl ⟨rfl, rfl, rfl, rfl, rfl⟩ rfl rfl rfl rfl rfl (by kernel_rfl) Try.func3 (by kernel_rfl)
    (of_decide_eq_true (by kernel_rfl)) (by unfold Func.isWrapper; first | (rw [if_pos (by decide +kernel)]; kernel_rfl) | (rw [if_neg (by decide +kernel)]; exact ⟨rfl, rfl⟩))
    (fun os started H enc _ => lifted os started H enc)

theorem proved : Rows.FnWindowWarningSpecSaid := over
end Go.Proofs.Qxb6602420a.fnWindowWarningSpec
