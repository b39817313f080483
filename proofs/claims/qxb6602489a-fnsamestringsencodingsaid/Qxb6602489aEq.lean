import Derived.Test.Qxb6602489aSizes
import Derived.Deep.QuietTactic
import Derived.BigQuiet
namespace Go.Proofs.Qxb6602489a.Same
open Go.ChangeShapes Go.WideShapes Go.ChangeAt Go.RowKit

/-- The function answers whether p. -/
def Decides (p : Prop) (e : Ending) : Prop := ∃ b : Bool, e = .returned (.bool b) ∧ (b = true ↔ p)
theorem decides_no {p : Prop} (h : ¬ p) : Decides p (.returned (.bool false)) := ⟨false, rfl, by simpa using h⟩
theorem decides_yes {p : Prop} (h : p) : Decides p (.returned (.bool true)) := ⟨true, rfl, by simpa using h⟩

/-- The first j elements are the same. -/
def SameTo {α : Type} (d : α) (ss ts : List α) (j : Nat) : Prop := ∀ t, t < j → ss.getD t d = ts.getD t d
theorem SameTo.zero {α : Type} (d : α) (ss ts : List α) : SameTo d ss ts 0 := fun _ h => absurd h (Nat.not_lt_zero _)
theorem SameTo.succ {α : Type} {d : α} {ss ts : List α} {j : Nat} (h : SameTo d ss ts j) (e : ss.getD j d = ts.getD j d) : SameTo d ss ts (j + 1) := by
  intro t ht
  by_cases q : t = j
  · subst q; exact e
  · exact h t (by omega)
theorem SameTo.all {α : Type} {d : α} {ss ts : List α} (hl : ss.length = ts.length) (h : SameTo d ss ts ss.length) : ss = ts := by
  apply List.ext_getElem hl
  intro i h1 h2
  have := h i h1
  simpa [List.getElem?_eq_getElem h1, List.getElem?_eq_getElem h2] using this
theorem bytes_ext {s t : ByteArray} (h : s.toList = t.toList) : s = t := by
  rw [ByteArray.toList_eq, ByteArray.toList_eq] at h
  cases s; cases t
  simpa using h

set_option maxRecDepth 100000 in
set_option maxHeartbeats 1000000 in
theorem same_any (a b : Option Addr) (ca cb : Nat) (ss ts : List ByteArray) (w : World) (ha : HasStrs w a ss) (hb : HasStrs w b ts) (hl : ss.length ≤ 131072) :
    Calls Try.prog 14 #[.slice a ss.length ca, .slice b ts.length cb] w fun e w' => Decides (ss = ts) e ∧ ∃ n, w' = w.drewN n := by
  by_cases hne : ss.length = ts.length
  case neg =>
    have h1 : ((ss.length : Int) != (ts.length : Int)) = true := by rw [bne_iff_ne]; omega
    have HN : Hid (¬ ss = ts) := fun e => hne (by rw [e])
    clear hne ha hb
    go_enter Try.func14, Try.ntmps14
    go_wp2
    go_ret
    exact ⟨decides_no HN.out, 0, rfl⟩
  have h1 : ((ss.length : Int) != (ts.length : Int)) = false := by rw [hne]; simp
  have HA : Hid (HasStrs w a ss) := ha
  have HB : Hid (HasStrs w b ts) := hb
  have HNE : Hid (ss.length = ts.length) := hne
  have hle : ss.length ≤ ts.length := by omega
  clear hne ha hb
  go_enter Try.func14, Try.ntmps14
  go_wp2
  go_loopw [13] (fun c wr => ∃ j n : Nat, j ≤ ss.length ∧ c = .int .i64 j ∧ wr = w.drewN n ∧ Hid (SameTo ByteArray.empty ss ts j)) (fun c _ => ss.length - (intOf c).toNat)
  case atStart => exact ⟨0, 0, Nat.zero_le _, rfl, rfl, SameTo.zero _ _ _⟩
  case round =>
    obtain ⟨j, n, hj, rfl, rfl, HS⟩ := hrel
    by_cases hlt : j < ss.length
    · obtain ⟨x, rfl, hc⟩ := HA.out j hlt
      obtain ⟨y, rfl, hd⟩ := HB.out j (by omega)
      have hlt2 : (j : Int) < (ts.length : Int) := by omega
      have hlt1 : (j : Int) < (ss.length : Int) := by omega
      obtain ⟨s, hs⟩ : ∃ s, ss.getD j ByteArray.empty = s := ⟨_, rfl⟩
      obtain ⟨t, ht⟩ : ∃ t, ts.getD j ByteArray.empty = t := ⟨_, rfl⟩
      rw [hs] at hc
      rw [ht] at hd
      by_cases heq : s.toList = t.toList
      · have e := bytes_ext heq
        subst e
        have HS' : Hid (SameTo ByteArray.empty ss ts (j + 1)) := HS.out.succ (by rw [hs, ht])
        clear heq hs ht
        go_wp2
        go_quiet (fail)
        go_wp2
        go_roundw
        case rel => exact ⟨j + 1, _, by omega, by go_num, rfl, HS'⟩
        case measure => simp [intOf]; omega
      · have hb1 : (s.toList == t.toList) = false := by simpa using heq
        have hb2 : (s.toList != t.toList) = true := by simpa using heq
        have HN : Hid (¬ ss = ts) := fun e => by rw [e, ht] at hs; exact heq (by rw [hs])
        clear heq hs ht
        go_wp2
        go_quiet (fail)
        go_wp2
        go_ret
        exact ⟨decides_no HN.out, _, World.drewN_drewN _ _ _⟩
    · obtain rfl : j = ss.length := by omega
      have HN : Hid (ss = ts) := HS.out.all HNE.out
      go_wp2
      go_ret
      exact ⟨decides_yes HN.out, _, rfl⟩

/-- A slice of bytes with address 'a' holds the bytes 'ps'. -/
def HasBytes (w : World) (a : Option Addr) (ps : List Int) : Prop :=
  ∀ i, i < ps.length → ∃ x, a = some x ∧ w.cell? (x.add i) = some (.int .u8 (ps.getD i 0))

set_option maxRecDepth 100000 in
set_option maxHeartbeats 1000000 in
theorem bytesEq_any (a b : Option Addr) (ca cb : Nat) (ss ts : List Int) (w : World) (ha : HasBytes w a ss) (hb : HasBytes w b ts) (hl : ss.length ≤ 1073741824) :
    Calls Try.prog 15 #[.slice a ss.length ca, .slice b ts.length cb] w fun e w' => Decides (ss = ts) e ∧ ∃ n, w' = w.drewN n := by
  by_cases hne : ss.length = ts.length
  case neg =>
    have h1 : ((ss.length : Int) != (ts.length : Int)) = true := by rw [bne_iff_ne]; omega
    have HN : Hid (¬ ss = ts) := fun e => hne (by rw [e])
    clear hne ha hb
    go_enter Try.func15, Try.ntmps15
    go_wp2
    go_ret
    exact ⟨decides_no HN.out, 0, rfl⟩
  have h1 : ((ss.length : Int) != (ts.length : Int)) = false := by rw [hne]; simp
  have HA : Hid (HasBytes w a ss) := ha
  have HB : Hid (HasBytes w b ts) := hb
  have HNE : Hid (ss.length = ts.length) := hne
  have hle : ss.length ≤ ts.length := by omega
  clear hne ha hb
  go_enter Try.func15, Try.ntmps15
  go_wp2
  go_loopw [5] (fun c wr => ∃ j n : Nat, j ≤ ss.length ∧ c = .int .i64 j ∧ wr = w.drewN n ∧ Hid (SameTo 0 ss ts j)) (fun c _ => ss.length - (intOf c).toNat)
  case atStart => exact ⟨0, 0, Nat.zero_le _, rfl, rfl, SameTo.zero _ _ _⟩
  case round =>
    obtain ⟨j, n, hj, rfl, rfl, HS⟩ := hrel
    by_cases hlt : j < ss.length
    · obtain ⟨x, rfl, hc⟩ := HA.out j hlt
      obtain ⟨y, rfl, hd⟩ := HB.out j (by omega)
      have hlt2 : (j : Int) < (ts.length : Int) := by omega
      have hlt1 : (j : Int) < (ss.length : Int) := by omega
      obtain ⟨s, hs⟩ : ∃ s, ss.getD j 0 = s := ⟨_, rfl⟩
      obtain ⟨t, ht⟩ : ∃ t, ts.getD j 0 = t := ⟨_, rfl⟩
      rw [hs] at hc
      rw [ht] at hd
      by_cases heq : s = t
      · subst heq
        have HS' : Hid (SameTo 0 ss ts (j + 1)) := HS.out.succ (by rw [hs, ht])
        clear hs ht
        go_wp2
        go_quiet (fail)
        go_wp2
        go_roundw
        case rel => exact ⟨j + 1, _, by omega, by go_num, rfl, HS'⟩
        case measure => simp [intOf]; omega
      · have hb2 : (s != t) = true := by simpa using heq
        have HN : Hid (¬ ss = ts) := fun e => by rw [e, ht] at hs; exact heq hs.symm
        clear heq hs ht
        go_wp2
        go_quiet (fail)
        go_wp2
        go_ret
        exact ⟨decides_no HN.out, _, World.drewN_drewN _ _ _⟩
    · obtain rfl : j = ss.length := by omega
      have HN : Hid (ss = ts) := HS.out.all HNE.out
      go_wp2
      go_ret
      exact ⟨decides_yes HN.out, _, rfl⟩
end Go.Proofs.Qxb6602489a.Same
