import Derived.Test.Qxb6602489aRows
import Derived.WalkKit
import Derived.ProofKit
import Derived.OpenShut
import Derived.ShutString
namespace Go.Proofs.Qxb6602489a.Fqdn
open Go.ChangeShapes Go.WideShapes Go.ChangeAt Go.RowKit
open Go.ChangeMaps (open_string shut_string)

/-- The first j bytes lie between '!' and '~'. -/
def AllIn (s : ByteArray) (j : Nat) : Prop := ∀ t (h : t < s.size), t < j → 33 ≤ (s[t].toNat : Int) ∧ (s[t].toNat : Int) ≤ 126

theorem AllIn.zero (s : ByteArray) : AllIn s 0 := fun _ _ h => absurd h (Nat.not_lt_zero _)

theorem AllIn.succ {s : ByteArray} {j : Nat} (hj : j < s.size) : AllIn s (j + 1) ↔ AllIn s j ∧ 33 ≤ (s[j].toNat : Int) ∧ (s[j].toNat : Int) ≤ 126 := by
  constructor
  · intro h
    exact ⟨fun t ht hlt => h t ht (by omega), h j hj (by omega)⟩
  · rintro ⟨h, hc⟩ t ht hlt
    by_cases e : t = j
    · subst e; exact hc
    · exact h t ht (by omega)

theorem AllIn.of_le {s : ByteArray} {j k : Nat} (h : AllIn s k) (hk : j ≤ k) : AllIn s j := fun t ht hlt => h t ht (by omega)

/-- What both functions decide. -/
def Good (s : ByteArray) : Prop := 1 ≤ s.size ∧ s.size ≤ 255 ∧ AllIn s s.size

/-- The function answers whether s is good. -/
def Tells (s : ByteArray) (e : Ending) : Prop := ∃ b : Bool, e = .returned (.bool b) ∧ (b = true ↔ Good s)
theorem tells_no {s : ByteArray} (h : ¬ Good s) : Tells s (.returned (.bool false)) := ⟨false, rfl, by simpa using h⟩
theorem tells_yes {s : ByteArray} (h : Good s) : Tells s (.returned (.bool true)) := ⟨true, rfl, by simpa using h⟩

theorem is_empty {s : ByteArray} (h : s.size = 0) : s.toList.isEmpty = true := by
  rw [ByteArray.toList_eq]
  cases s with
  | mk d =>
    have : d.size = 0 := h
    simp [Array.size_eq_zero_iff.1 this]

theorem not_empty {s : ByteArray} (h : 1 ≤ s.size) : s.toList.isEmpty = false := by
  rw [ByteArray.toList_eq]
  cases s with
  | mk d =>
    have : 1 ≤ d.size := h
    simp
    intro e
    subst e
    simp at this

set_option maxHeartbeats 1000000 in
theorem isFqdn_any (s : ByteArray) (w : World) (hm : s.size ≤ 1048576) :
    Calls Try.prog 8 #[.string s] w fun e w' => Tells s e ∧ w = w' := by
  by_cases h0 : s.size = 0
  · have he := is_empty h0
    have HG : Hid (¬ Good s) := fun h => by have := h.1; omega
    clear h0
    go_enter Try.func8, Try.ntmps8
    go_wp2
    go_ret
    exact ⟨tells_no HG.out, rfl⟩
  have he := not_empty (s := s) (by omega)
  by_cases h1 : 255 < s.size
  · have HG : Hid (¬ Good s) := fun h => by have := h.2.1; omega
    go_enter Try.func8, Try.ntmps8
    go_wp2
    go_ret
    exact ⟨tells_no HG.out, rfl⟩
  go_enter Try.func8, Try.ntmps8
  go_wp2
  go_loop [3] (fun i => ∃ j : Nat, j ≤ s.size ∧ i = .int .i64 j ∧ Hid (AllIn s j)) (fun i => s.size - (intOf i).toNat)
  case atStart => exact ⟨0, Nat.zero_le _, rfl, AllIn.zero s⟩
  case round =>
    obtain ⟨j, hj, rfl, Hall⟩ := hrel
    by_cases hlt : j < s.size
    · by_cases c1 : (s[j].toNat : Int) ≤ 32
      · have HG : Hid (¬ Good s) := fun h => by have := h.2.2 j hlt hlt; omega
        go_wp2
        go_ret
        exact ⟨tells_no HG.out, rfl⟩
      · by_cases c2 : 126 < (s[j].toNat : Int)
        · have HG : Hid (¬ Good s) := fun h => by have := h.2.2 j hlt hlt; omega
          go_wp2
          go_ret
          exact ⟨tells_no HG.out, rfl⟩
        · have Hall' : Hid (AllIn s (j + 1)) := (AllIn.succ hlt).2 ⟨Hall.out, by omega, by omega⟩
          go_wp2
          go_round
          case rel => exact ⟨j + 1, by omega, by go_num, Hall'⟩
          case measure => simp [intOf]; omega
    · have HG : Hid (Good s) := ⟨by omega, by omega, Hall.out.of_le (by omega)⟩
      go_wp2
      go_ret
      exact ⟨tells_yes HG.out, rfl⟩

set_option maxHeartbeats 1000000 in
theorem minMax_any (s : ByteArray) (w : World) (hm : s.size ≤ 1048576) :
    Calls Try.prog 9 #[.string s] w fun e w' => Tells s e ∧ w = w' := by
  by_cases h0 : s.size < 1
  · have HG : Hid (¬ Good s) := fun h => by have := h.1; omega
    go_enter Try.func9, Try.ntmps9
    go_wp2
    go_ret
    exact ⟨tells_no HG.out, rfl⟩
  by_cases h1 : 255 < s.size
  · have HG : Hid (¬ Good s) := fun h => by have := h.2.1; omega
    go_enter Try.func9, Try.ntmps9
    go_wp2
    go_ret
    exact ⟨tells_no HG.out, rfl⟩
  have hp : 0 < s.size := by omega
  go_enter Try.func9, Try.ntmps9
  go_wp2
  go_loop [3, 4, 5] (fun l h i => ∃ (j : Nat) (lo hi : Int), 1 ≤ j ∧ j ≤ s.size ∧ l = .int .u8 lo ∧ h = .int .u8 hi ∧ i = .int .i64 j ∧ Hid ((33 ≤ lo ∧ hi ≤ 126) ↔ AllIn s j)) (fun _ _ i => s.size - (intOf i).toNat)
  case atStart =>
    refine ⟨1, _, _, Nat.le_refl _, by omega, rfl, rfl, rfl, ?_⟩
    show _ ↔ _
    rw [show (1 : Nat) = 0 + 1 from rfl, AllIn.succ hp]
    simp [AllIn.zero]
  case round =>
    obtain ⟨j, lo, hi, hj1, hj, rfl, rfl, rfl, HI⟩ := hrel
    by_cases hlt : j < s.size
    · have HS : Hid (AllIn s (j + 1) ↔ AllIn s j ∧ 33 ≤ (s[j].toNat : Int) ∧ (s[j].toNat : Int) ≤ 126) := AllIn.succ hlt
      by_cases c1 : (s[j].toNat : Int) < lo
      · by_cases c2 : hi < (s[j].toNat : Int)
        · have HN : Hid ((33 ≤ (s[j].toNat : Int) ∧ (s[j].toNat : Int) ≤ 126) ↔ AllIn s (j + 1)) := by unfold Hid; rw [HS.out, ← HI.out]; omega
          go_wp2
          go_round
          case rel => exact ⟨j + 1, _, _, by omega, by omega, rfl, rfl, by go_num, HN⟩
          case measure => simp [intOf]; omega
        · have HN : Hid ((33 ≤ (s[j].toNat : Int) ∧ hi ≤ 126) ↔ AllIn s (j + 1)) := by unfold Hid; rw [HS.out, ← HI.out]; omega
          go_wp2
          go_round
          case rel => exact ⟨j + 1, _, _, by omega, by omega, rfl, rfl, by go_num, HN⟩
          case measure => simp [intOf]; omega
      · by_cases c2 : hi < (s[j].toNat : Int)
        · have HN : Hid ((33 ≤ lo ∧ (s[j].toNat : Int) ≤ 126) ↔ AllIn s (j + 1)) := by unfold Hid; rw [HS.out, ← HI.out]; omega
          go_wp2
          go_round
          case rel => exact ⟨j + 1, _, _, by omega, by omega, rfl, rfl, by go_num, HN⟩
          case measure => simp [intOf]; omega
        · have HN : Hid ((33 ≤ lo ∧ hi ≤ 126) ↔ AllIn s (j + 1)) := by unfold Hid; rw [HS.out, ← HI.out]; omega
          go_wp2
          go_round
          case rel => exact ⟨j + 1, _, _, by omega, by omega, rfl, rfl, by go_num, HN⟩
          case measure => simp [intOf]; omega
    · obtain rfl : j = s.size := by omega
      by_cases c1 : 33 ≤ lo
      · by_cases c2 : hi ≤ 126
        · have HG : Hid (Good s) := ⟨by omega, by omega, HI.out.1 ⟨c1, c2⟩⟩
          go_wp2
          go_ret
          exact ⟨tells_yes HG.out, rfl⟩
        · have HG : Hid (¬ Good s) := fun h => c2 (HI.out.2 h.2.2).2
          go_wp2
          go_ret
          exact ⟨tells_no HG.out, rfl⟩
      · have HG : Hid (¬ Good s) := fun h => c1 (HI.out.2 h.2.2).1
        go_wp2
        go_ret
        exact ⟨tells_no HG.out, rfl⟩

theorem bytes_yes (s : ByteArray) (w : World) (hm : s.size ≤ 1048576) :
    Calls Try.prog 7 #[.string s] w fun e w' => e = .returned (.bool true) ∧ w = w' := by
  go_enter Try.func7, Try.ntmps7
  go_wp2
  go_ret
  exact ⟨rfl, rfl⟩
theorem bytes_no (s : ByteArray) (w : World) (hm : 1048576 < s.size) :
    Calls Try.prog 7 #[.string s] w fun e w' => e = .returned (.bool false) ∧ w = w' := by
  go_enter Try.func7, Try.ntmps7
  go_wp2
  go_ret
  exact ⟨rfl, rfl⟩

theorem walk (a0 : ByteArray) (w : World) :
    Calls Try.prog 3 #[.string a0] w fun e w' => e = .returned (.bool true) ∧ Grown w w' := by
  by_cases hm : a0.size ≤ 1048576
  · go_enter Try.func3, Try.ntmps3
    go_wp2_with (go_at_call 7; refine (bytes_yes _ _ hm).mono ?_; rintro e w' ⟨rfl, rfl⟩)
    refine (isFqdn_any a0 w hm).mono ?_
    rintro e w1 ⟨⟨b1, rfl, hb1⟩, rfl⟩
    go_wp2_with fail
    refine (minMax_any a0 w hm).mono ?_
    rintro e w1 ⟨⟨b2, rfl, hb2⟩, rfl⟩
    obtain rfl : b1 = b2 := by rw [Bool.eq_iff_iff, hb1, hb2]
    clear hb1 hb2
    go_wp2
    go_ret
    exact ⟨by simp, Grown.refl _⟩
  · go_enter Try.func3, Try.ntmps3
    go_wp2_with (go_at_call 7; refine (bytes_no _ _ (by omega)).mono ?_; rintro e w' ⟨rfl, rfl⟩)
    go_ret
    exact ⟨rfl, Grown.refl _⟩

theorem own : ownKnob Try.prog.godebug = none := by kernel_rfl

set_option maxRecDepth 100000 in
theorem lifted (os : Os) (started : os.Started) (H : Type) (enc : TypeId × Value → H) :
    ReturnsInHanded {} Try.checked os 3 .any (Rows.fnIsFqdnMinMaxModelSpec.pre6 enc Try.prog Try.f3 Rows.fnIsFqdnMinMaxModelRow.domain false) (Rows.fnIsFqdnMinMaxModelSpec.post enc Try.prog Try.f3 false true false false) := by
  refine returnsInHanded_of_change (C := Try.checked) own started (by kernel_rfl) Try.func3
    (ChangeSpec.witness6 (enc := enc) (C := Try.checked) false ⟨#[], #[.string ByteArray.empty], []⟩ 8 (by kernel_rfl) (by kernel_rfl) (by kernel_rfl) (by kernel_rfl)) ?_
  intro W base args ds gs before hval0 hW hcnd _
  have hval : ∀ (j : Nat) t v, Try.f3.params[j]? = some t → args[j]? = some v → Value.okWide Try.prog W .any base t v := hval0
  have hW' := hW
  obtain ⟨p, q, hA0, hV, rfl, hfz, hnd⟩ := hW
  have hA : DataW.TrodAll enc Try.prog W 0 (fun _ => true) true Try.f3.params.toList args.toList ds p := hA0
  rw [Try.params3] at hA hval
  obtain ⟨v0, vs0, d0, ds0, p0, q0, hargs, rfl, rfl, h0, r0⟩ := trodAll_cons hA
  obtain ⟨rfl, rfl, rfl⟩ := trodAll_nil r0
  obtain rfl : args = #[v0] := by cases args; simp_all
  obtain ⟨rfl, rfl⟩ := trodVars_none hV
  obtain ⟨a0, rfl, rfl, rfl, w0⟩ := open_string Try.underlying9 (hval 0 9 v0 rfl rfl) h0
  clear hA0 hval0
  simp only [List.append_nil] at hW'
  refine (walk a0 W).mono fun e W' ⟨he, hg⟩ => ?_
  subst he
  exact ⟨_, rfl, post_of_same (pa := []) (pv := []) hW' (fun _ _ _ => (trodAll_cons_mk (shut_bool Try.underlying4 _) trodAll_mk0)) (fun sp _ => (trodAll_cons_mk (shut_string Try.underlying9 w0) trodAll_mk0)) (fun _ _ => rfl) rfl
    (hg.frame _) hg.2.1 (ok_one (by kernel_rfl) rfl (okWide_bool_mk Try.underlying4 _))⟩

theorem over : Rows.fnIsFqdnMinMaxModelRow.holds Try.pinned (OpenSpec.ofChange Rows.fnIsFqdnMinMaxModelSpec) :=
  OpenClaim.holds_of_wide 3 Try.f3 rfl rfl rfl rfl rfl rfl rfl ⟨rfl, rfl, rfl, rfl, rfl⟩ rfl rfl rfl rfl rfl (by kernel_rfl) Try.func3 (by kernel_rfl)
    (of_decide_eq_true (by kernel_rfl)) (by unfold Func.isWrapper; first | (rw [if_pos (by decide +kernel)]; kernel_rfl) | (rw [if_neg (by decide +kernel)]; exact ⟨rfl, rfl⟩))
    (fun os started H enc _ => lifted os started H enc)

/-- ████ THE STATEMENT ████ -/
theorem proved : Rows.FnIsFqdnMinMaxModelSaid :=
  over
end Go.Proofs.Qxb6602489a.Fqdn
