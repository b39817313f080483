import Derived.Test.Qxb6602420aWarn
import Derived.OpenShut
import Derived.ShutString
namespace Go.Proofs.Qxb6602420a.fnWindowWarningMonotone
open Go.ChangeShapes Go.WideShapes Go.ChangeAt Go.RowKit
open Warn

theorem own : ownKnob Try.prog.godebug = none := by kernel_rfl
theorem cells2 : Try.prog.cellsOf 2 = 1 := by kernel_rfl

/-- What a call of ZZwindowWarning at 'a' says, in whatever world that has only drawn since 'w'. -/
def Says (w : World) (p : Value) (a : Int) (s : ByteArray) : Prop :=
  ∀ k, Calls Try.prog 6 #[p, .int .i64 a] (w.drewN k) fun e w' => e = .returned (.string s) ∧ ∃ n, w' = w.drewN n

theorem later {w w' : World} {k : Nat} (h : ∃ n, w' = (w.drewN k).drewN n) : ∃ n, w' = w.drewN n := by
  obtain ⟨n, rfl⟩ := h
  exact ⟨k + n, World.drewN_drewN _ _ _⟩

theorem says_nil (w : World) (a : Int) : Says w (.pointer none) a { data := #[] } :=
  fun _ => (warn_nil a _).mono fun _ _ h => ⟨h.1, later h.2⟩
theorem says_unl (w : World) (b o : Nat) (a : Int) (hc : w.cell? ⟨b, o, none⟩ = some (.int .i64 (-1))) : Says w (.pointer (some ⟨b, o, none⟩)) a { data := #[] } :=
  fun k => (warn_unl b o a (w.drewN k) hc).mono fun _ _ h => ⟨h.1, later h.2⟩
theorem says_over (w : World) (b o : Nat) (l a : Int) (hc : w.cell? ⟨b, o, none⟩ = some (.int .i64 l)) (h1 : (l == -1) = false) (h2 : l < a) :
    Says w (.pointer (some ⟨b, o, none⟩)) a { data := #[111, 118, 101, 114, 95, 108, 105, 109, 105, 116] } :=
  fun k => (warn_over b o l a (w.drewN k) hc h1 h2).mono fun _ _ h => ⟨h.1, later h.2⟩
theorem says_near (w : World) (b o : Nat) (l a : Int) (hc : w.cell? ⟨b, o, none⟩ = some (.int .i64 l)) (h1 : (l == -1) = false) (h2 : ¬ l < a)
    (hl0 : -9223372036854775808 ≤ l) (hl1 : l ≤ 9223372036854775807) (hn : wrap64 (l - l.tdiv 5) ≤ a) :
    Says w (.pointer (some ⟨b, o, none⟩)) a { data := #[110, 101, 97, 114, 95, 108, 105, 109, 105, 116] } :=
  fun k => (warn_near b o l a (w.drewN k) hc h1 h2 hl0 hl1 hn).mono fun _ _ h => ⟨h.1, later h.2⟩
theorem says_low (w : World) (b o : Nat) (l a : Int) (hc : w.cell? ⟨b, o, none⟩ = some (.int .i64 l)) (h1 : (l == -1) = false) (h2 : ¬ l < a)
    (hl0 : -9223372036854775808 ≤ l) (hl1 : l ≤ 9223372036854775807) (hn : a < wrap64 (l - l.tdiv 5)) :
    Says w (.pointer (some ⟨b, o, none⟩)) a { data := #[] } :=
  fun k => (warn_low b o l a (w.drewN k) hc h1 h2 hl0 hl1 hn).mono fun _ _ h => ⟨h.1, later h.2⟩

/-- No limit at all. -/
theorem walk_nil (x y : Int) (w : World) :
    Calls Try.prog 4 #[.pointer none, .int .i64 x, .int .i64 y] w fun e w' => e = .returned (.bool true) ∧ ∃ n, w' = w.drewN n := by
  have sx := says_nil w x
  have sy := says_nil w y
  by_cases c : y < x
  · go_enter Try.func4, Try.ntmps4
    go_wp2_with fail
    refine (sy 0).mono ?_
    rintro e w1 ⟨rfl, n1, rfl⟩
    go_wp2_with fail
    refine (sx n1).mono ?_
    rintro e w1 ⟨rfl, n2, rfl⟩
    go_wp2
    go_ret
    exact ⟨rfl, _, rfl⟩
  · go_enter Try.func4, Try.ntmps4
    go_wp2_with fail
    refine (sx 0).mono ?_
    rintro e w1 ⟨rfl, n1, rfl⟩
    go_wp2_with fail
    refine (sy n1).mono ?_
    rintro e w1 ⟨rfl, n2, rfl⟩
    go_wp2
    go_ret
    exact ⟨rfl, _, rfl⟩

/-- The limit is 'Unlimited'. -/
theorem walk_unl (b o : Nat) (x y : Int) (w : World) (hc : w.cell? ⟨b, o, none⟩ = some (.int .i64 (-1))) :
    Calls Try.prog 4 #[.pointer (some ⟨b, o, none⟩), .int .i64 x, .int .i64 y] w fun e w' => e = .returned (.bool true) ∧ ∃ n, w' = w.drewN n := by
  have sx := says_unl w b o x hc
  have sy := says_unl w b o y hc
  by_cases c : y < x
  · go_enter Try.func4, Try.ntmps4
    go_wp2_with fail
    refine (sy 0).mono ?_
    rintro e w1 ⟨rfl, n1, rfl⟩
    go_wp2_with fail
    refine (sx n1).mono ?_
    rintro e w1 ⟨rfl, n2, rfl⟩
    go_wp2
    go_ret
    exact ⟨rfl, _, rfl⟩
  · go_enter Try.func4, Try.ntmps4
    go_wp2_with fail
    refine (sx 0).mono ?_
    rintro e w1 ⟨rfl, n1, rfl⟩
    go_wp2_with fail
    refine (sy n1).mono ?_
    rintro e w1 ⟨rfl, n2, rfl⟩
    go_wp2
    go_ret
    exact ⟨rfl, _, rfl⟩

/-- A pair of warnings that fits: 'lo' and 'hi' stand on the sides of the limit 'l' that their warnings say, and the warning does not fall. -/
def Fits (l lo hi : Int) (s t : ByteArray) : Prop :=
  (¬ l < lo ∧ ¬ l < hi ∧ s = { data := #[] } ∧ t = { data := #[] }) ∨
  (¬ l < lo ∧ ¬ l < hi ∧ s = { data := #[] } ∧ t = { data := #[110, 101, 97, 114, 95, 108, 105, 109, 105, 116] }) ∨
  (¬ l < lo ∧ l < hi ∧ s = { data := #[] } ∧ t = { data := #[111, 118, 101, 114, 95, 108, 105, 109, 105, 116] }) ∨
  (¬ l < lo ∧ ¬ l < hi ∧ s = { data := #[110, 101, 97, 114, 95, 108, 105, 109, 105, 116] } ∧ t = { data := #[110, 101, 97, 114, 95, 108, 105, 109, 105, 116] }) ∨
  (¬ l < lo ∧ l < hi ∧ s = { data := #[110, 101, 97, 114, 95, 108, 105, 109, 105, 116] } ∧ t = { data := #[111, 118, 101, 114, 95, 108, 105, 109, 105, 116] }) ∨
  (l < lo ∧ l < hi ∧ s = { data := #[111, 118, 101, 114, 95, 108, 105, 109, 105, 116] } ∧ t = { data := #[111, 118, 101, 114, 95, 108, 105, 109, 105, 116] })

/-- THE PLAIN LAW: whatever the limit, the two warnings fit. -/
theorem says_both (w : World) (b o : Nat) (l lo hi : Int) (hc : w.cell? ⟨b, o, none⟩ = some (.int .i64 l)) (h1 : (l == -1) = false)
    (hl0 : -9223372036854775808 ≤ l) (hl1 : l ≤ 9223372036854775807) (hle : lo ≤ hi) :
    ∃ s t, Says w (.pointer (some ⟨b, o, none⟩)) lo s ∧ Says w (.pointer (some ⟨b, o, none⟩)) hi t ∧ Fits l lo hi s t := by
  unfold Fits
  by_cases c1 : l < lo
  · have c2 : l < hi := by omega
    exact ⟨_, _, says_over w b o l lo hc h1 c1, says_over w b o l hi hc h1 c2, by simp [c1, c2]⟩
  by_cases c2 : l < hi
  · by_cases c3 : wrap64 (l - l.tdiv 5) ≤ lo
    · exact ⟨_, _, says_near w b o l lo hc h1 c1 hl0 hl1 c3, says_over w b o l hi hc h1 c2, by simp [c1, c2]⟩
    · exact ⟨_, _, says_low w b o l lo hc h1 c1 hl0 hl1 (by omega), says_over w b o l hi hc h1 c2, by simp [c1, c2]⟩
  by_cases c3 : wrap64 (l - l.tdiv 5) ≤ lo
  · exact ⟨_, _, says_near w b o l lo hc h1 c1 hl0 hl1 c3, says_near w b o l hi hc h1 c2 hl0 hl1 (by omega), by simp [c1, c2]⟩
  by_cases c4 : wrap64 (l - l.tdiv 5) ≤ hi
  · exact ⟨_, _, says_low w b o l lo hc h1 c1 hl0 hl1 (by omega), says_near w b o l hi hc h1 c2 hl0 hl1 c4, by simp [c1, c2]⟩
  · exact ⟨_, _, says_low w b o l lo hc h1 c1 hl0 hl1 (by omega), says_low w b o l hi hc h1 c2 hl0 hl1 (by omega), by simp [c1, c2]⟩

/-- A limit that is set; the two counts come in order. -/
theorem walk_up (b o : Nat) (l x y : Int) (w : World) (hc : w.cell? ⟨b, o, none⟩ = some (.int .i64 l)) (h1 : (l == -1) = false)
    (hl0 : -9223372036854775808 ≤ l) (hl1 : l ≤ 9223372036854775807) (hle : ¬ y < x) :
    Calls Try.prog 4 #[.pointer (some ⟨b, o, none⟩), .int .i64 x, .int .i64 y] w fun e w' => e = .returned (.bool true) ∧ ∃ n, w' = w.drewN n := by
  obtain ⟨s, t, sx, sy, hf⟩ := says_both w b o l x y hc h1 hl0 hl1 (by omega)
  have h1' : (l != -1) = true := by simp [bne, h1]
  clear hl0 hl1
  rcases hf with ⟨f1, f2, rfl, rfl⟩ | ⟨f1, f2, rfl, rfl⟩ | ⟨f1, f2, rfl, rfl⟩ | ⟨f1, f2, rfl, rfl⟩ | ⟨f1, f2, rfl, rfl⟩ | ⟨f1, f2, rfl, rfl⟩
  all_goals
    go_enter Try.func4, Try.ntmps4
    go_wp2_with fail
    refine (sx 0).mono ?_
    rintro e w1 ⟨rfl, n1, rfl⟩
    go_wp2_with fail
    refine (sy n1).mono ?_
    rintro e w1 ⟨rfl, n2, rfl⟩
    go_wp2
    go_ret
    exact ⟨rfl, _, rfl⟩

/-- A limit that is set; the two counts come out of order: the law exchanges them first. -/
theorem walk_down (b o : Nat) (l x y : Int) (w : World) (hc : w.cell? ⟨b, o, none⟩ = some (.int .i64 l)) (h1 : (l == -1) = false)
    (hl0 : -9223372036854775808 ≤ l) (hl1 : l ≤ 9223372036854775807) (hle : y < x) :
    Calls Try.prog 4 #[.pointer (some ⟨b, o, none⟩), .int .i64 x, .int .i64 y] w fun e w' => e = .returned (.bool true) ∧ ∃ n, w' = w.drewN n := by
  obtain ⟨s, t, sx, sy, hf⟩ := says_both w b o l y x hc h1 hl0 hl1 (by omega)
  have h1' : (l != -1) = true := by simp [bne, h1]
  clear hl0 hl1
  rcases hf with ⟨f1, f2, rfl, rfl⟩ | ⟨f1, f2, rfl, rfl⟩ | ⟨f1, f2, rfl, rfl⟩ | ⟨f1, f2, rfl, rfl⟩ | ⟨f1, f2, rfl, rfl⟩ | ⟨f1, f2, rfl, rfl⟩
  all_goals
    go_enter Try.func4, Try.ntmps4
    go_wp2_with fail
    refine (sx 0).mono ?_
    rintro e w1 ⟨rfl, n1, rfl⟩
    go_wp2_with fail
    refine (sy n1).mono ?_
    rintro e w1 ⟨rfl, n2, rfl⟩
    go_wp2
    go_ret
    exact ⟨rfl, _, rfl⟩

theorem walk_some (b o : Nat) (l x y : Int) (w : World) (hc : w.cell? ⟨b, o, none⟩ = some (.int .i64 l))
    (hl0 : -9223372036854775808 ≤ l) (hl1 : l ≤ 9223372036854775807) :
    Calls Try.prog 4 #[.pointer (some ⟨b, o, none⟩), .int .i64 x, .int .i64 y] w fun e w' => e = .returned (.bool true) ∧ ∃ n, w' = w.drewN n := by
  by_cases c2 : l = -1
  · subst c2
    exact walk_unl b o x y w hc
  have h1 : (l == -1) = false := by simpa using c2
  by_cases c : y < x
  · exact walk_down b o l x y w hc h1 hl0 hl1 c
  · exact walk_up b o l x y w hc h1 hl0 hl1 c

set_option maxRecDepth 100000 in
theorem lifted (os : Os) (started : os.Started) (H : Type) (enc : TypeId × Value → H) :
    ReturnsInHanded {} Try.checked os 4 .any (Rows.fnWindowWarningMonotoneSpec.pre6 enc Try.prog Try.f4 Rows.fnWindowWarningMonotoneRow.domain false) (Rows.fnWindowWarningMonotoneSpec.post enc Try.prog Try.f4 false true false false) := by
  refine returnsInHanded_of_change (C := Try.checked) own started (by kernel_rfl) Try.func4
    (ChangeSpec.witness6 (enc := enc) (C := Try.checked) false ⟨#[], #[.pointer none, .int .i64 0, .int .i64 0], []⟩ 8 (by kernel_rfl) (by kernel_rfl) (by kernel_rfl) (by kernel_rfl)) ?_
  intro W base args ds gs before hval0 hW hcnd _
  have hval : ∀ (j : Nat) t v, Try.f4.params[j]? = some t → args[j]? = some v → Value.okWide Try.prog W .any base t v := hval0
  have hW' := hW
  obtain ⟨p, q, hA0, hV, rfl, hfz, hnd⟩ := hW
  have hA : DataW.TrodAll enc Try.prog W 0 (fun _ => true) true Try.f4.params.toList args.toList ds p := hA0
  rw [Try.params4] at hA hval
  obtain ⟨v0, v1, v2, d0, d1, d2, p0, p1, p2, rfl, rfl, rfl, h0, h1, h2⟩ := trodAll_three hA
  obtain ⟨rfl, rfl⟩ := trodVars_none hV
  obtain ⟨a1, rfl, rfl, rfl, w1⟩ := open_int Try.underlying2 (hval 1 2 v1 rfl rfl) h1
  obtain ⟨a2, rfl, rfl, rfl, w2⟩ := open_int Try.underlying2 (hval 2 2 v2 rfl rfl) h2
  rcases open_ptr_int Try.underlying22 Try.underlying2 cells2 (hval 0 22 v0 rfl rfl) h0 with ⟨rfl, rfl, rfl⟩ | ⟨b0, o0, x, rfl, rfl, rfl, g0, wx⟩
  · clear hA0 hval0
    simp only [List.append_nil] at hW'
    refine (walk_nil a1 a2 W).mono fun e W' ⟨he, n, hn⟩ => ?_
    subst he
    subst hn
    have hg := grown_drewN W n
    exact ⟨_, rfl, post_of_same (pa := []) (pv := []) hW' (fun _ _ _ => trodAll_mk1 (shut_bool Try.underlying4 _)) (fun sp _ => trodAll_mk3 (shut_ptr_nil Try.underlying22) (shut_int Try.underlying2 w1) (shut_int Try.underlying2 w2)) (fun _ _ => rfl) rfl
      (hg.frame _) hg.2.1 (ok_one (by kernel_rfl) rfl (okWide_bool_mk Try.underlying4 _))⟩
  · clear hA0 hval0
    simp only [List.append_nil] at hW'
    have bx := bounds_i64 wx
    refine (walk_some b0 o0 x a1 a2 W g0 bx.1 bx.2).mono fun e W' ⟨he, n, hn⟩ => ?_
    subst he
    subst hn
    have hg := grown_drewN W n
    exact ⟨_, rfl, post_of_same (pa := [.cell b0 o0]) (pv := []) hW' (fun _ _ _ => trodAll_mk1 (shut_bool Try.underlying4 _)) (fun sp _ => trodAll_mk3 (shut_ptr_int Try.underlying22 Try.underlying2 cells2 (Nat.zero_le _) (show (W.drewN n).cell? ⟨b0, o0, none⟩ = _ from g0) wx) (shut_int Try.underlying2 w1) (shut_int Try.underlying2 w2)) (fun _ _ => rfl) rfl
      (hg.frame _) hg.2.1 (ok_one (by kernel_rfl) rfl (okWide_bool_mk Try.underlying4 _))⟩

theorem over : Rows.fnWindowWarningMonotoneRow.holds Try.pinned (OpenSpec.ofChange Rows.fnWindowWarningMonotoneSpec) :=
  OpenClaim.holds_of_wide 4 Try.f4 rfl rfl rfl rfl rfl rfl rfl ⟨rfl, rfl, rfl, rfl, rfl⟩ rfl rfl rfl rfl rfl (by kernel_rfl) Try.func4 (by kernel_rfl)
    (of_decide_eq_true (by kernel_rfl)) (by unfold Func.isWrapper; first | (rw [if_pos (by decide +kernel)]; kernel_rfl) | (rw [if_neg (by decide +kernel)]; exact ⟨rfl, rfl⟩))
    (fun os started H enc _ => lifted os started H enc)

theorem proved : Rows.FnWindowWarningMonotoneSaid := over
end Go.Proofs.Qxb6602420a.fnWindowWarningMonotone
