import Derived.Test.Qxb6602489aEnc
namespace Go.Proofs.Qxb6602489a.Same

/-! ### THE PLAIN LAW: the encoding is injective -/
theorem leTo_inj (x y : Nat) (hx : x < 16777216) (hy : y < 16777216) (h : leTo x 8 = leTo y 8) : x = y := by
  have e0 := congrArg (fun l : List Int => l.getD 0 0) h
  have e1 := congrArg (fun l : List Int => l.getD 1 0) h
  have e2 := congrArg (fun l : List Int => l.getD 2 0) h
  simp [leTo] at e0 e1 e2
  omega

theorem bytesOf_inj {s t : ByteArray} (h : bytesOf s = bytesOf t) : s = t := by
  have e : s.data.toList = t.data.toList := by
    refine (List.map_inj_right ?_).1 h
    intro x y hxy
    exact UInt8.toNat_inj.1 (by omega)
  cases s; cases t
  simpa using e

theorem body_inj : ∀ (ss ts : List ByteArray), ss.length = ts.length → (∀ s ∈ ss, s.size < 16777216) → (∀ s ∈ ts, s.size < 16777216) → body ss = body ts → ss = ts
  | [], [], _, _, _, _ => rfl
  | [], _ :: _, h, _, _, _ => by simp at h
  | _ :: _, [], h, _, _, _ => by simp at h
  | s :: r, t :: q, hl, hs, ht, h => by
    have e1 : body (s :: r) = leTo s.size 8 ++ (bytesOf s ++ body r) := by simp [body]
    have e2 : body (t :: q) = leTo t.size 8 ++ (bytesOf t ++ body q) := by simp [body]
    rw [e1, e2] at h
    obtain ⟨h1, h2⟩ := List.append_inj h (by rw [leTo_length, leTo_length])
    have hst := leTo_inj _ _ (hs s (by simp)) (ht t (by simp)) h1
    obtain ⟨h3, h4⟩ := List.append_inj h2 (by rw [bytesOf_length, bytesOf_length, hst])
    have hr := body_inj r q (by simpa using hl) (fun x hx => hs x (by simp [hx])) (fun x hx => ht x (by simp [hx])) h4
    rw [bytesOf_inj h3, hr]

theorem size_le_total {ss : List ByteArray} {s : ByteArray} (h : s ∈ ss) : s.size ≤ total ss := by
  induction ss with
  | nil => simp at h
  | cons x r ih =>
    have e : total (x :: r) = x.size + total r := rfl
    rw [e]
    rcases List.mem_cons.1 h with rfl | h'
    · omega
    · have := ih h'
      omega

theorem enc_inj (ss ts : List ByteArray) (hf : Fits ss ts) : enc ss = enc ts ↔ ss = ts := by
  unfold Fits at hf
  constructor
  · intro h
    obtain ⟨h1, h2⟩ := List.append_inj h (by rw [leTo_length, leTo_length])
    exact body_inj ss ts (leTo_inj _ _ (by omega) (by omega) h1) (fun s hs => by have := size_le_total hs; omega) (fun s hs => by have := size_le_total hs; omega) h2
  · rintro rfl; rfl
end Go.Proofs.Qxb6602489a.Same
