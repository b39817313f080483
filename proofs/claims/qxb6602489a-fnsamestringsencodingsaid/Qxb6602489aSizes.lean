import Derived.Test.Qxb6602489aRows
import Derived.WalkKit
import Derived.ProofKit
import Derived.WalkSpells
namespace Go.Proofs.Qxb6602489a.Same
open Go.ChangeShapes Go.WideShapes Go.ChangeAt Go.RowKit

/-- A slice of strings with address 'a' holds the strings 'ss'. (A nil slice holds none.) -/
def HasStrs (w : World) (a : Option Addr) (ss : List ByteArray) : Prop :=
  ∀ i, i < ss.length → ∃ x, a = some x ∧ w.cell? (x.add i) = some (.string (ss.getD i ByteArray.empty))

/-- The bytes of all the strings together. -/
def total (ss : List ByteArray) : Nat := (ss.map (·.size)).sum

theorem total_take_succ (ss : List ByteArray) (j : Nat) (h : j < ss.length) : total (ss.take (j + 1)) = total (ss.take j) + (ss.getD j ByteArray.empty).size := by
  unfold total
  rw [List.take_succ_eq_append_getElem h, List.map_append, List.sum_append]
  simp [List.getElem?_eq_getElem h]

/-- None of the first j strings is longer than 2^20 bytes. -/
def Short (ss : List ByteArray) (j : Nat) : Prop := ∀ t, t < j → (ss.getD t ByteArray.empty).size ≤ 1048576
theorem Short.zero (ss : List ByteArray) : Short ss 0 := fun _ h => absurd h (Nat.not_lt_zero _)
theorem Short.succ {ss : List ByteArray} {j : Nat} (h : Short ss j) {s : ByteArray} (e : ss.getD j ByteArray.empty = s) (hs : s.size ≤ 1048576) : Short ss (j + 1) := by
  intro t ht
  by_cases q : t = j
  · subst q; rw [e]; exact hs
  · exact h t (by omega)

/-- The function answers with some bool, which is true only if p holds. -/
def Answers (p : Prop) (e : Ending) : Prop := ∃ b : Bool, e = .returned (.bool b) ∧ (b = true → p)
theorem answers_no (p : Prop) : Answers p (.returned (.bool false)) := ⟨false, rfl, by simp⟩
theorem answers_yes {p : Prop} (h : p) : Answers p (.returned (.bool true)) := ⟨true, rfl, fun _ => h⟩

set_option maxRecDepth 100000 in
set_option maxHeartbeats 2000000 in
theorem bytes_any (a b : Option Addr) (ca cb : Nat) (ss ts : List ByteArray) (w : World) (ha : HasStrs w a ss) (hb : HasStrs w b ts) :
    Calls Try.prog 11 #[.slice a ss.length ca, .slice b ts.length cb] w fun e w' => Answers (Short ss ss.length ∧ Short ts ts.length) e ∧ w = w' := by
  by_cases h1 : 1048576 < ss.length
  · go_enter Try.func11, Try.ntmps11
    go_wp2
    go_ret
    exact ⟨answers_no _, rfl⟩
  have HA : Hid (HasStrs w a ss) := ha
  have HB : Hid (HasStrs w b ts) := hb
  clear ha hb
  go_enter Try.func11, Try.ntmps11
  go_wp2
  go_loop [5, 6] (fun n i => ∃ (j : Nat) (t : Int), j ≤ ss.length ∧ 0 ≤ t ∧ t ≤ 1048576 ∧ n = .int .i64 t ∧ i = .int .i64 j ∧ Hid (Short ss j)) (fun _ i => ss.length - (intOf i).toNat)
  case atStart => exact ⟨0, _, Nat.zero_le _, by omega, by omega, rfl, rfl, Short.zero _⟩
  case round =>
    obtain ⟨j, t, hj, ht0, ht1, rfl, rfl, HS⟩ := hrel
    by_cases hlt : j < ss.length
    · obtain ⟨x, rfl, hc⟩ := HA.out j hlt
      obtain ⟨s, hs⟩ : ∃ s, ss.getD j ByteArray.empty = s := ⟨_, rfl⟩
      rw [hs] at hc
      have HE : Hid (ss.getD j ByteArray.empty = s) := hs
      clear hs
      by_cases c1 : 1048576 < s.size
      · go_wp2
        go_ret
        exact ⟨answers_no _, rfl⟩
      · by_cases c2 : 1048576 < t + s.size
        · go_wp2
          go_ret
          exact ⟨answers_no _, rfl⟩
        · go_wp2
          go_round
          case rel => exact ⟨j + 1, t + s.size, by omega, by omega, by omega, rfl, by go_num, HS.out.succ HE.out (by omega)⟩
          case measure => simp [intOf]; omega
    · obtain rfl : j = ss.length := by omega
      clear HA
      by_cases d1 : 1048576 < ts.length
      · go_wp2
        go_ret
        exact ⟨answers_no _, rfl⟩
      by_cases d2 : 1048576 < t + ts.length
      · go_wp2
        go_ret
        exact ⟨answers_no _, rfl⟩
      go_wp2
      go_loop [5, 7] (fun n i => ∃ (j : Nat) (t : Int), j ≤ ts.length ∧ 0 ≤ t ∧ t ≤ 1048576 ∧ n = .int .i64 t ∧ i = .int .i64 j ∧ Hid (Short ts j)) (fun _ i => ts.length - (intOf i).toNat)
      case atStart => exact ⟨0, _, Nat.zero_le _, by omega, by omega, rfl, rfl, Short.zero _⟩
      case round =>
        clear ht0 ht1 d2
        obtain ⟨k, t, hk, ht0, ht1, rfl, rfl, HT⟩ := hrel
        by_cases hkl : k < ts.length
        · obtain ⟨x, rfl, hc⟩ := HB.out k hkl
          obtain ⟨s, hs⟩ : ∃ s, ts.getD k ByteArray.empty = s := ⟨_, rfl⟩
          rw [hs] at hc
          have HE : Hid (ts.getD k ByteArray.empty = s) := hs
          clear hs
          by_cases c1 : 1048576 < s.size
          · go_wp2
            go_ret
            exact ⟨answers_no _, rfl⟩
          · by_cases c2 : 1048576 < t + s.size
            · go_wp2
              go_ret
              exact ⟨answers_no _, rfl⟩
            · go_wp2
              go_round
              case rel => exact ⟨k + 1, t + s.size, by omega, by omega, by omega, rfl, by go_num, HT.out.succ HE.out (by omega)⟩
              case measure => simp [intOf]; omega
        · obtain rfl : k = ts.length := by omega
          go_wp2
          go_ret
          exact ⟨answers_yes ⟨HS.out, HT.out⟩, rfl⟩

/-- Both lists together, eight bytes an element counted in, take at most 2^20 bytes. -/
def Fits (ss ts : List ByteArray) : Prop := 8 * ss.length + 8 * ts.length + total ss + total ts ≤ 1048576

theorem total_zero (ss : List ByteArray) : total (ss.take 0) = 0 := rfl
theorem total_all (ss : List ByteArray) : total (ss.take ss.length) = total ss := by rw [List.take_length]

set_option maxRecDepth 100000 in
set_option maxHeartbeats 2000000 in
theorem fits_any (a b : Option Addr) (ca cb : Nat) (ss ts : List ByteArray) (w : World) (ha : HasStrs w a ss) (hb : HasStrs w b ts) (hs : Short ss ss.length) (ht : Short ts ts.length) :
    Calls Try.prog 12 #[.slice a ss.length ca, .slice b ts.length cb, .string { data := #[] }, .string { data := #[] }] w fun e w' => Answers (Fits ss ts) e ∧ w = w' := by
  by_cases h1 : 131072 < ss.length
  · go_enter Try.func12, Try.ntmps12
    go_wp2
    go_ret
    exact ⟨answers_no _, rfl⟩
  by_cases h2 : 131072 < ts.length
  · go_enter Try.func12, Try.ntmps12
    go_wp2
    go_ret
    exact ⟨answers_no _, rfl⟩
  have HA : Hid (HasStrs w a ss) := ha
  have HB : Hid (HasStrs w b ts) := hb
  have HS : Hid (Short ss ss.length) := hs
  have HT : Hid (Short ts ts.length) := ht
  clear ha hb hs ht
  by_cases h3 : 1048576 < 8 * (ss.length : Int) + 8 * (ts.length : Int)
  · go_enter Try.func12, Try.ntmps12
    go_wp2
    go_ret
    exact ⟨answers_no _, rfl⟩
  have hz := total_zero ss
  have hz' := total_zero ts
  have hall := total_all ss
  have hall' := total_all ts
  have HZ : Hid (total (ss.take 0) = 0) := hz
  have HZ' : Hid (total (ts.take 0) = 0) := hz'
  have HL : Hid (total (ss.take ss.length) = total ss) := hall
  have HL' : Hid (total (ts.take ts.length) = total ts) := hall'
  clear hz hz' hall hall'
  go_enter Try.func12, Try.ntmps12
  go_wp2
  go_loop [9, 10] (fun n i => ∃ (j : Nat) (t : Int), j ≤ ss.length ∧ 0 ≤ t ∧ t ≤ 1048576 ∧ n = .int .i64 t ∧ i = .int .i64 j ∧ Hid (t = 8 * ss.length + 8 * ts.length + total (ss.take j))) (fun _ i => ss.length - (intOf i).toNat)
  case atStart => exact ⟨0, _, Nat.zero_le _, by omega, by omega, rfl, rfl, by rw [HZ.out]; unfold Hid; omega⟩
  case round =>
    obtain ⟨j, t, hj, ht0, ht1, rfl, rfl, HI⟩ := hrel
    by_cases hlt : j < ss.length
    · obtain ⟨x, rfl, hc⟩ := HA.out j hlt
      have hsj := HS.out j hlt
      have htt := total_take_succ ss j hlt
      obtain ⟨s, hs⟩ : ∃ s, ss.getD j ByteArray.empty = s := ⟨_, rfl⟩
      rw [hs] at hc hsj htt
      have HE : Hid (total (ss.take (j + 1)) = total (ss.take j) + s.size) := htt
      clear hs htt
      by_cases c2 : 1048576 < t + s.size
      · go_wp2
        go_ret
        exact ⟨answers_no _, rfl⟩
      · go_wp2
        go_round
        case rel => exact ⟨j + 1, t + s.size, by omega, by omega, by omega, rfl, by go_num, by have e1 := HI.out; have e2 := HE.out; unfold Hid; omega⟩
        case measure => simp [intOf]; omega
    · obtain rfl : j = ss.length := by omega
      clear HA HS HZ
      go_wp2
      go_loop [9, 11] (fun n i => ∃ (j : Nat) (t : Int), j ≤ ts.length ∧ 0 ≤ t ∧ t ≤ 1048576 ∧ n = .int .i64 t ∧ i = .int .i64 j ∧ Hid (t = 8 * ss.length + 8 * ts.length + total ss + total (ts.take j))) (fun _ i => ts.length - (intOf i).toNat)
      case atStart => exact ⟨0, _, Nat.zero_le _, by omega, by omega, rfl, rfl, by rw [HZ'.out]; have e1 := HI.out; rw [HL.out] at e1; unfold Hid; omega⟩
      case round =>
        clear ht0 ht1 HI
        obtain ⟨k, t, hk, ht0, ht1, rfl, rfl, HI⟩ := hrel
        by_cases hkl : k < ts.length
        · obtain ⟨x, rfl, hc⟩ := HB.out k hkl
          have hsj := HT.out k hkl
          have htt := total_take_succ ts k hkl
          obtain ⟨s, hs⟩ : ∃ s, ts.getD k ByteArray.empty = s := ⟨_, rfl⟩
          rw [hs] at hc hsj htt
          have HE : Hid (total (ts.take (k + 1)) = total (ts.take k) + s.size) := htt
          clear hs htt
          by_cases c2 : 1048576 < t + s.size
          · go_wp2
            go_ret
            exact ⟨answers_no _, rfl⟩
          · go_wp2
            go_round
            case rel => exact ⟨k + 1, t + s.size, by omega, by omega, by omega, rfl, by go_num, by have e1 := HI.out; have e2 := HE.out; unfold Hid; omega⟩
            case measure => simp [intOf]; omega
        · obtain rfl : k = ts.length := by omega
          have HF : Hid (Fits ss ts) := by have e1 := HI.out; rw [HL'.out] at e1; unfold Hid Fits; omega
          go_wp2
          go_ret
          exact ⟨answers_yes HF.out, rfl⟩
end Go.Proofs.Qxb6602489a.Same
