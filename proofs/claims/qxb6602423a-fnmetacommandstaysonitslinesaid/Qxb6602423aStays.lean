import Derived.Test.Qxb6602423aMeta
import Derived.OpenShut
import Derived.ShutString
namespace Go.Proofs.Qxb6602423a.Scan
open Go.ChangeShapes Go.WideShapes Go.ChangeAt Go.RowKit
open Go.ChangeMaps (open_string shut_string)

theorem own : ownKnob Try.prog.godebug = none := by kernel_rfl

/-- ZZMetaCommand lays a scanner in a new block, runs metaCommand on it, and hands back all fields. -/
theorem zz_any (src : ByteArray) (p : Nat) (w : World) (hm : src.size ≤ 1048576) (hp : p < src.size) :
    Calls Try.prog 13 #[.string src, .int .i64 p, .bool false, .int .i64 0, .bool false] w fun e w' =>
      ∃ k : Nat, e = .returned (.tuple #[.int .i64 k, .string src, .int .i64 (left src k), .bool false, .int .i64 0, .bool false, .int .i64 0, .int .i64 0]) ∧ Ends src p k ∧ Below w.heap.size w w' := by
  have hsc : Sc w w.heap.size src p (w.alloc (.cells (blockOf src p) 36)) := ⟨(MapKept.heap_alloc w _).1, (Below.refl _ _).alloc (Nat.le_refl _) _⟩
  have Hsc : Hid (Sc w w.heap.size src p (w.alloc (.cells (blockOf src p) 36))) := hsc
  clear hsc
  go_enter Try.func13, Try.ntmps13
  go_wp2_with fail
  refine (meta_any w w.heap.size src p _ Hsc.out hm hp).mono ?_
  rintro e w1 ⟨k, rfl, hE, hS⟩
  have c0 := hS.c0
  have c1 := hS.c1
  have c2 := hS.c2
  have c3 := hS.c3
  have c4 := hS.c4
  have c5 := hS.c5
  have c6 := hS.c6
  have HS : Hid (Sc w w.heap.size src (left src k) w1) := hS
  have HE : Hid (Ends src p k) := hE
  clear hS hE
  go_wp2_with fail
  go_quiet (fail)
  go_wp2
  refine bodyPost_ret (v := .tuple #[.int .i64 k, .string src, .int .i64 (left src k), .bool false, .int .i64 0, .bool false, .int .i64 0, .int .i64 0]) (by simp [results, Try.results13, go_sem]) rfl ?_
  exact ⟨k, rfl, HE.out, (HS.out.drewN _).below⟩

theorem bytes_yes (src : ByteArray) (a : Int) (w : World) (hm : src.size ≤ 1048576) :
    Calls Try.prog 12 #[.string src, .int .i64 a] w fun e w' => e = .returned (.bool true) ∧ w = w' := by
  go_enter Try.func12, Try.ntmps12
  go_wp2
  go_ret
  exact ⟨rfl, rfl⟩

theorem bytes_no (src : ByteArray) (a : Int) (w : World) (hm : 1048576 < src.size) :
    Calls Try.prog 12 #[.string src, .int .i64 a] w fun e w' => e = .returned (.bool false) ∧ w = w' := by
  go_enter Try.func12, Try.ntmps12
  go_wp2
  go_ret
  exact ⟨rfl, rfl⟩

/-- Too long a text: the law says true at once. -/
theorem law_long (src : ByteArray) (a : Int) (w : World) (hm : 1048576 < src.size) :
    Calls Try.prog 5 #[.string src, .int .i64 a] w fun e w' => e = .returned (.bool true) ∧ Below w.heap.size w w' := by
  go_enter Try.func5, Try.ntmps5
  go_wp2_with (go_at_call 12; refine (bytes_no _ _ _ hm).mono ?_; rintro e w' ⟨rfl, rfl⟩)
  go_ret
  exact ⟨rfl, Below.refl _ _⟩

/-- A place outside the text: the law says true at once. -/
theorem law_neg (src : ByteArray) (a : Int) (w : World) (hm : src.size ≤ 1048576) (h : a < 0) :
    Calls Try.prog 5 #[.string src, .int .i64 a] w fun e w' => e = .returned (.bool true) ∧ Below w.heap.size w w' := by
  go_enter Try.func5, Try.ntmps5
  go_wp2_with (go_at_call 12; refine (bytes_yes _ _ _ hm).mono ?_; rintro e w' ⟨rfl, rfl⟩)
  go_ret
  exact ⟨rfl, Below.refl _ _⟩
theorem law_past (src : ByteArray) (a : Int) (w : World) (hm : src.size ≤ 1048576) (h0 : 0 ≤ a) (h : (src.size : Int) ≤ a) :
    Calls Try.prog 5 #[.string src, .int .i64 a] w fun e w' => e = .returned (.bool true) ∧ Below w.heap.size w w' := by
  go_enter Try.func5, Try.ntmps5
  go_wp2_with (go_at_call 12; refine (bytes_yes _ _ _ hm).mono ?_; rintro e w' ⟨rfl, rfl⟩)
  go_ret
  exact ⟨rfl, Below.refl _ _⟩

set_option maxRecDepth 100000 in
set_option maxHeartbeats 2000000 in
theorem law_in (src : ByteArray) (p : Nat) (w : World) (hm : src.size ≤ 1048576) (hp : p < src.size) :
    Calls Try.prog 5 #[.string src, .int .i64 p] w fun e w' => e = .returned (.bool true) ∧ Below w.heap.size w w' := by
  have hp' : (p : Int) < (src.size : Int) := by omega
  go_enter Try.func5, Try.ntmps5
  go_wp2_with (go_at_call 12; refine (bytes_yes _ _ _ hm).mono ?_; rintro e w' ⟨rfl, rfl⟩)
  refine (zz_any src p _ hm hp).mono ?_
  rintro e w1 ⟨k, rfl, ⟨hk1, hk2, hcl, hend⟩, hbel⟩
  have Hcl : Hid (Clean src (p + 1) k) := hcl
  have Hbel : Hid (Below w.heap.size w w1) := hbel
  clear hcl hbel
  by_cases hlt : k < src.size
  · have hlt' : (k : Int) < (src.size : Int) := by omega
    rcases hend hlt with h10 | h92
    · have h10' : ((src[k].toNat : Int) != 10) = false := by simpa using h10
      have h92' : ((src[k].toNat : Int) == 92) = false := by rw [h10]; rfl
      have hl : left src k = k := by unfold left; rw [if_neg]; rw [dblB_not (fun _ => by omega)]; simp
      rw [hl]
      clear hl hend h10
      go_wp2_with fail
      go_loop [13] (fun i => ∃ j : Nat, p < j ∧ j ≤ k ∧ i = .int .i64 j) (fun i => k - (intOf i).toNat)
      case atStart => exact ⟨p + 1, by omega, by omega, by go_num⟩
      case round =>
        obtain ⟨j, hj1, hj2, rfl⟩ := hrel
        by_cases hj : j < k
        · have hjs : j < src.size := by omega
          have hn : ((src[j].toNat : Int) == 10) = false := by simpa using Hcl.out j hjs (by omega) hj
          go_wp2
          go_round
          case rel => exact ⟨j + 1, by omega, by omega, by go_num⟩
          case measure => simp [intOf]; omega
        · go_wp2
          all_goals (go_ret; exact ⟨rfl, Hbel.out⟩)
    · have h92' : ((src[k].toNat : Int) == 92) = true := by simpa using h92
      have h92n : ((src[k].toNat : Int) != 92) = false := by simpa using h92
      have h10' : ((src[k].toNat : Int) != 10) = true := by rw [h92]; rfl
      by_cases h1 : k + 1 < src.size
      · have hix := run_next src k h1
        by_cases h2 : (src[k + 1].toNat : Int) = 92
        · have h2' : ((src[k + 1].toNat : Int) == 92) = true := by simpa using h2
          have hl : left src k = k + 2 := by unfold left; rw [if_pos]; unfold dblB; rw [dif_pos h1, h92', h2']; rfl
          rw [hl]
          clear hl hend h92 h2
          go_wp2_with fail
          go_loop [13] (fun i => ∃ j : Nat, p < j ∧ j ≤ k ∧ i = .int .i64 j) (fun i => k - (intOf i).toNat)
          case atStart => exact ⟨p + 1, by omega, by omega, by go_num⟩
          case round =>
            obtain ⟨j, hj1, hj2, rfl⟩ := hrel
            by_cases hj : j < k
            · have hjs : j < src.size := by omega
              have hn : ((src[j].toNat : Int) == 10) = false := by simpa using Hcl.out j hjs (by omega) hj
              go_wp2
              go_round
              case rel => exact ⟨j + 1, by omega, by omega, by go_num⟩
              case measure => simp [intOf]; omega
            · go_wp2
              all_goals (go_ret; exact ⟨rfl, Hbel.out⟩)
        · have h2' : ((src[k + 1].toNat : Int) == 92) = false := by simpa using h2
          have hl : left src k = k := by unfold left; rw [if_neg]; unfold dblB; rw [dif_pos h1, h2']; simp
          rw [hl]
          clear hl hend h92 h2
          go_wp2_with fail
          go_loop [13] (fun i => ∃ j : Nat, p < j ∧ j ≤ k ∧ i = .int .i64 j) (fun i => k - (intOf i).toNat)
          case atStart => exact ⟨p + 1, by omega, by omega, by go_num⟩
          case round =>
            obtain ⟨j, hj1, hj2, rfl⟩ := hrel
            by_cases hj : j < k
            · have hjs : j < src.size := by omega
              have hn : ((src[j].toNat : Int) == 10) = false := by simpa using Hcl.out j hjs (by omega) hj
              go_wp2
              go_round
              case rel => exact ⟨j + 1, by omega, by omega, by go_num⟩
              case measure => simp [intOf]; omega
            · go_wp2
              all_goals (go_ret; exact ⟨rfl, Hbel.out⟩)
      · have hl : left src k = k := by unfold left; rw [if_neg]; unfold dblB; rw [dif_neg h1]; simp
        rw [hl]
        clear hl hend h92
        go_wp2_with fail
        go_loop [13] (fun i => ∃ j : Nat, p < j ∧ j ≤ k ∧ i = .int .i64 j) (fun i => k - (intOf i).toNat)
        case atStart => exact ⟨p + 1, by omega, by omega, by go_num⟩
        case round =>
          obtain ⟨j, hj1, hj2, rfl⟩ := hrel
          by_cases hj : j < k
          · have hjs : j < src.size := by omega
            have hn : ((src[j].toNat : Int) == 10) = false := by simpa using Hcl.out j hjs (by omega) hj
            go_wp2
            go_round
            case rel => exact ⟨j + 1, by omega, by omega, by go_num⟩
            case measure => simp [intOf]; omega
          · go_wp2
            all_goals (go_ret; exact ⟨rfl, Hbel.out⟩)
  · have hlt' : decide ((k : Int) < (src.size : Int)) = false := by simp; omega
    have hks : k = src.size := by omega
    have hl : left src k = k := by unfold left; rw [if_neg]; rw [dblB_not (fun h => absurd h hlt)]; simp
    rw [hl]
    clear hl hend hks
    go_wp2_with fail
    go_loop [13] (fun i => ∃ j : Nat, p < j ∧ j ≤ k ∧ i = .int .i64 j) (fun i => k - (intOf i).toNat)
    case atStart => exact ⟨p + 1, by omega, by omega, by go_num⟩
    case round =>
      obtain ⟨j, hj1, hj2, rfl⟩ := hrel
      by_cases hj : j < k
      · have hjs : j < src.size := by omega
        have hn : ((src[j].toNat : Int) == 10) = false := by simpa using Hcl.out j hjs (by omega) hj
        go_wp2
        go_round
        case rel => exact ⟨j + 1, by omega, by omega, by go_num⟩
        case measure => simp [intOf]; omega
      · go_wp2
        all_goals (go_ret; exact ⟨rfl, Hbel.out⟩)

theorem walk (src : ByteArray) (a : Int) (w : World) :
    Calls Try.prog 5 #[.string src, .int .i64 a] w fun e w' => e = .returned (.bool true) ∧ Below w.heap.size w w' := by
  by_cases hm : src.size ≤ 1048576
  · by_cases h0 : a < 0
    · exact law_neg src a w hm h0
    · by_cases h : (src.size : Int) ≤ a
      · exact law_past src a w hm (by omega) h
      · obtain ⟨p, rfl⟩ := Int.eq_ofNat_of_zero_le (show 0 ≤ a by omega)
        exact law_in src p w hm (by omega)
  · exact law_long src a w (by omega)

set_option maxRecDepth 100000 in
theorem lifted (os : Os) (started : os.Started) (H : Type) (enc : TypeId × Value → H) :
    ReturnsInHanded {} Try.checked os 5 .any (Rows.fnMetaCommandStaysOnItsLineSpec.pre6 enc Try.prog Try.f5 Rows.fnMetaCommandStaysOnItsLineRow.domain false) (Rows.fnMetaCommandStaysOnItsLineSpec.post enc Try.prog Try.f5 false true false false) := by
  refine returnsInHanded_of_change (C := Try.checked) own started (by kernel_rfl) Try.func5
    (ChangeSpec.witness6 (enc := enc) (C := Try.checked) false ⟨#[], #[.string ByteArray.empty, .int .i64 0], []⟩ 8 (by kernel_rfl) (by kernel_rfl) (by kernel_rfl) (by kernel_rfl)) ?_
  intro W base args ds gs before hval0 hW hcnd _
  have hval : ∀ (j : Nat) t v, Try.f5.params[j]? = some t → args[j]? = some v → Value.okWide Try.prog W .any base t v := hval0
  have hW' := hW
  obtain ⟨p, q, hA0, hV, rfl, hfz, hnd⟩ := hW
  have hA : DataW.TrodAll enc Try.prog W 0 (fun _ => true) true Try.f5.params.toList args.toList ds p := hA0
  rw [Try.params5] at hA hval
  obtain ⟨v0, v1, d0, d1, p0, p1, rfl, rfl, rfl, h0, h1⟩ := trodAll_two hA
  obtain ⟨rfl, rfl⟩ := trodVars_none hV
  obtain ⟨a0, rfl, rfl, rfl, w0⟩ := open_string Try.underlying9 (hval 0 9 v0 rfl rfl) h0
  obtain ⟨a1, rfl, rfl, rfl, w1⟩ := open_int Try.underlying3 (hval 1 3 v1 rfl rfl) h1
  clear hA0 hval0
  simp only [List.append_nil] at hW'
  refine (walk a0 a1 W).mono fun e W' ⟨he, bel⟩ => ?_
  subst he
  exact ⟨_, rfl, _, _, _, [], [], [], hW', trodAll_mk1 (shut_bool Try.underlying4 _), trodAll_mk2 (shut_string Try.underlying9 w0) (shut_int Try.underlying3 w1), rfl, bel.frame _, fun h => by cases h⟩

theorem over : Rows.fnMetaCommandStaysOnItsLineRow.holds Try.pinned (OpenSpec.ofChange Rows.fnMetaCommandStaysOnItsLineSpec) :=
  OpenClaim.holds_of_wide 5 Try.f5 rfl rfl rfl rfl rfl rfl rfl ⟨rfl, rfl, rfl, rfl, rfl⟩ rfl rfl rfl rfl rfl (by kernel_rfl) Try.func5 (by kernel_rfl)
    (of_decide_eq_true (by kernel_rfl)) (by unfold Func.isWrapper; first | (rw [if_pos (by decide +kernel)]; kernel_rfl) | (rw [if_neg (by decide +kernel)]; exact ⟨rfl, rfl⟩))
    (fun os started H enc _ => lifted os started H enc)

theorem proved : Rows.FnMetaCommandStaysOnItsLineSaid := over
end Go.Proofs.Qxb6602423a.Scan
