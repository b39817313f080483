import Derived.Test.Qxb6602423aScan
import Derived.Lib.Strings
namespace Go.Proofs.Qxb6602423a.Scan
open Go.ChangeShapes Go.WideShapes Go.ChangeAt Go.RowKit

/-- A doubled backslash stands at k. -/
def dblB (src : ByteArray) (k : Nat) : Bool := if h : k + 1 < src.size then ((src[k].toNat : Int) == 92) && ((src[k + 1].toNat : Int) == 92) else false

theorem dblB_not {src : ByteArray} {k : Nat} (h : ∀ h : k < src.size, (src[k].toNat : Int) ≠ 92) : dblB src k = false := by
  unfold dblB
  split
  · rename_i h1
    have := h (by omega)
    simp [this]
  · rfl

theorem size_extract (src : ByteArray) (k : Nat) : (src.extract k src.size).size = src.size - k := by
  rw [ByteArray.size_extract]; omega

theorem pre_bytes (src : ByteArray) (k : Nat) (h : k + 1 < src.size) : ((src.extract k src.size).extract 0 2).toList = [src[k], src[k + 1]] := by
  rw [ByteArray.toList_eq]
  have e : ((src.extract k src.size).extract 0 2).data.toList = (src.data.toList.drop k).take 2 := by
    simp [ByteArray.data_extract]
    omega
  rw [e]
  apply List.ext_getElem
  · simp; omega
  · intro i h1 h2
    simp at h2
    match i, h2 with
    | 0, _ => simp; rfl
    | 1, _ => simp; rfl

theorem eq92 (c : UInt8) : c = 92 ↔ (c.toNat : Int) = 92 := by
  constructor
  · rintro rfl; rfl
  · intro h
    apply UInt8.toNat_inj.1
    show c.toNat = 92
    omega

theorem pre_any (src : ByteArray) (k : Nat) (w : World) (hm : src.size ≤ 1048576) :
    Calls Try.prog 19 #[.string (src.extract k src.size), .string { data := #[92, 92] }] w fun e w' => e = .returned (.bool (dblB src k)) ∧ w' = w := by
  have hz := size_extract src k
  by_cases h : k + 1 < src.size
  · refine (prefix_long (src.extract k src.size) w (by omega) (by rw [hz]; unfold maxLen; omega)).mono fun e w' ⟨he, hw⟩ => ⟨?_, hw⟩
    rw [he, pre_bytes src k h]
    unfold dblB
    rw [dif_pos h]
    congr 2
    rw [Bool.eq_iff_iff]
    simp [eq92]
  · refine (prefix_short (src.extract k src.size) w (by omega)).mono fun e w' ⟨he, hw⟩ => ⟨?_, hw⟩
    rw [he]
    unfold dblB
    rw [dif_neg h]
end Go.Proofs.Qxb6602423a.Scan
