import Derived.Test.Qxb6602423aPre
import Derived.Deep.DeepCutAuto
import Derived.Deep.CutBlock
namespace Go.Proofs.Qxb6602423a.Scan
open Go.ChangeShapes Go.WideShapes Go.ChangeAt Go.RowKit

theorem quiet_of {P : Program} {f : FuncId} {args : Array Value} {w : World} {a x : Nat} {v : Value}
    (h : Calls P f args (w.drewN (a + x)) fun e w' => e = .returned v ∧ w' = w.drewN (a + x)) : Calls P f args (w.drewN (a + x)) fun e w'' => e = .returned v ∧ ∃ n, w'' = w.drewN (a + n) :=
  h.mono fun _ _ ⟨he, hm⟩ => ⟨he, x, hm⟩

theorem Clean.join {src : ByteArray} {a b c : Nat} (h : Clean src a b) (h' : Clean src b c) : Clean src a c := by
  intro i hi ha hc
  by_cases e : i < b
  · exact h i hi ha e
  · exact h' i hi (by omega) hc

theorem pre_val {b : Bool} (src : ByteArray) (k : Nat) (w : World) (hm : src.size ≤ 1048576) (hb : dblB src k = b) :
    Calls Try.prog 19 #[.string (src.extract k src.size), .string { data := #[92, 92] }] w fun e w' => e = .returned (.bool b) ∧ w' = w := by
  subst hb
  exact pre_any src k w hm

/-- What metaCommand's answer 'k' is: after p, within src, no line break ahead of it, and itself the end, a line break or a backslash. -/
def Ends (src : ByteArray) (p k : Nat) : Prop := p < k ∧ k ≤ src.size ∧ Clean src (p + 1) k ∧ ∀ h : k < src.size, (src[k].toNat : Int) = 10 ∨ (src[k].toNat : Int) = 92

/-- Where the scanner is left. -/
def left (src : ByteArray) (k : Nat) : Nat := if dblB src k = true then k + 2 else k

set_option maxRecDepth 100000 in
set_option maxHeartbeats 2000000 in
theorem meta_any (w0 : World) (B : Nat) (src : ByteArray) (p : Nat) (w : World) (hs : Sc w0 B src p w) (hm : src.size ≤ 1048576) (hp : p < src.size) :
    Calls Try.prog 17 #[.pointer (some ⟨B, 0, none⟩)] w fun e w' => ∃ k : Nat, e = .returned (.int .i64 k) ∧ Ends src p k ∧ Sc w0 B src (left src k) w' := by
  have c1 := hs.c1
  have f1 := hs.f1
  go_enter Try.func17, Try.ntmps17
  go_upto_block 0 with fail
  clear c1 f1
  go_cut [] (fun wx => ∃ k : Nat, p < k ∧ k ≤ src.size ∧ Hid (Clean src (p + 1) k) ∧ Hid (Sc w0 B src k wx))
  case first =>
    go_wp2_with fail
    go_loopg [] (src.size - (p + 1)) (fun g wr => ∃ k : Nat, g = src.size - k ∧ p < k ∧ k ≤ src.size ∧ Hid (Clean src (p + 1) k) ∧ Hid (Sc w0 B src k wr))
    case atStart => exact ⟨p + 1, rfl, by omega, by omega, fun i _ _ _ => by omega, (hs.set _).to (by omega)⟩
    case round =>
      obtain ⟨k, rfl, hk1, hk2, Hcl, Hsc⟩ := hrel
      have c0 := Hsc.out.c0
      have c1 := Hsc.out.c1
      have f1 := Hsc.out.f1
      by_cases hlt : k < src.size
      · have hlt' : (k : Int) < (src.size : Int) := by omega
        cases hsp : spaceB (src[k].toNat : Int) with
        | true =>
          go_wp2_with fail
          go_quiet ((go_at_call 18; exact Calls.quiet_of_same (isSpace_any _ _)))
          go_wp2
          go_meet
          case rel => exact ⟨k, hk1, hk2, Hcl, Hsc.out.drewN _⟩
        | false =>
          by_cases hb : (src[k].toNat : Int) = 92
          · have hb' : ((src[k].toNat : Int) != 92) = false := by simpa using hb
            clear hb
            go_wp2_with fail
            go_quiet ((go_at_call 18; exact Calls.quiet_of_same (isSpace_any _ _)))
            go_wp2
            go_meet
            case rel => exact ⟨k, hk1, hk2, Hcl, Hsc.out.drewN _⟩
          · have hb' : ((src[k].toNat : Int) != 92) = true := by simpa using hb
            have Hcl' : Hid (Clean src (p + 1) (k + 1)) := Hcl.out.step hlt (by intro e; rw [e] at hsp; simp [spaceB] at hsp)
            clear hb
            go_wp2_with fail
            go_quiet ((go_at_call 18; exact Calls.quiet_of_same (isSpace_any _ _)))
            go_wp2
            go_roundg (src.size - (k + 1))
            case measure => omega
            case rel => exact ⟨k + 1, rfl, by omega, by omega, Hcl', ((Hsc.out.drewN _).set _).to (by omega)⟩
      · have hlt' : decide ((k : Int) < (src.size : Int)) = false := by simp; omega
        go_wp2_with fail
        go_quiet ((go_at_call 18; exact Calls.quiet_of_same (isSpace_any _ _)))
        go_wp2
        go_meet
        case rel => exact ⟨k, hk1, hk2, Hcl, Hsc.out.drewN _⟩
  case rest =>
    obtain ⟨k0, hk1, hk2, Hcl, Hsc⟩ := hcut
    clear hs
    go_wp2_with fail
    go_loopg [] (src.size - k0) (fun g wr => ∃ k : Nat, g = src.size - k ∧ p < k ∧ k ≤ src.size ∧ Hid (Clean src (p + 1) k) ∧ Hid (Sc w0 B src k wr))
    case atStart => exact ⟨k0, rfl, hk1, hk2, Hcl, Hsc⟩
    case round =>
      clear hk1 hk2 Hcl Hsc
      obtain ⟨k, rfl, hk1, hk2, Hcl, Hsc⟩ := hrel
      have c0 := Hsc.out.c0
      have c1 := Hsc.out.c1
      have f1 := Hsc.out.f1
      by_cases hlt : k < src.size
      · have hlt' : (k : Int) < (src.size : Int) := by omega
        by_cases h10 : (src[k].toNat : Int) = 10
        · have h10' : ((src[k].toNat : Int) == 10) = true := by simpa using h10
          have hd : left src k = k := by unfold left; rw [if_neg]; rw [dblB_not (fun _ => by omega)]; simp
          have HE : Hid (Ends src p k) := ⟨hk1, hk2, Hcl.out, fun _ => .inl h10⟩
          have HD : Hid (left src k = k) := hd
          clear h10 hd
          go_wp2_with fail
          go_quiet (fail)
          go_wp2_with fail
          go_quiet (fail)
          go_wp2
          go_ret
          exact ⟨k, rfl, HE.out, by rw [HD.out]; exact Hsc.out.drewN _⟩
        have h10' : ((src[k].toNat : Int) == 10) = false := by simpa using h10
        by_cases h92 : (src[k].toNat : Int) = 92
        · have h92' : ((src[k].toNat : Int) == 92) = true := by simpa using h92
          have HE : Hid (Ends src p k) := ⟨hk1, hk2, Hcl.out, fun _ => .inr h92⟩
          clear h10 h92
          cases hdb : dblB src k with
          | true =>
            have HD : Hid (left src k = k + 2) := by unfold Hid left; rw [if_pos hdb]
            go_wp2_with fail
            go_quiet (fail)
            go_wp2_with fail
            go_quiet (fail)
            go_wp2_with fail
            go_quiet ((go_at_call 19; exact quiet_of (pre_val _ _ _ hm hdb)))
            go_wp2
            go_ret
            exact ⟨k, rfl, HE.out, by rw [HD.out]; exact ((Hsc.out.drewN _).set _).to (by omega)⟩
          | false =>
            have HD : Hid (left src k = k) := by unfold Hid left; rw [if_neg (by rw [hdb]; simp)]
            go_wp2_with fail
            go_quiet (fail)
            go_wp2_with fail
            go_quiet (fail)
            go_wp2_with fail
            go_quiet ((go_at_call 19; exact quiet_of (pre_val _ _ _ hm hdb)))
            go_wp2
            go_ret
            exact ⟨k, rfl, HE.out, by rw [HD.out]; exact (Hsc.out.drewN _).drewN _⟩
        have h92' : ((src[k].toNat : Int) == 92) = false := by simpa using h92
        have Hcl' : Hid (Clean src (p + 1) (k + 1)) := Hcl.out.step hlt h10
        clear h10 h92
        by_cases h39 : (src[k].toNat : Int) = 39
        · have h39' : ((src[k].toNat : Int) == 39) = true := by simpa using h39
          clear h39
          go_wp2_with fail
          go_quiet (fail)
          go_wp2_with fail
          go_quiet (fail)
          go_wp2_with fail
          refine (quote_any w0 B src k _ _ (Hsc.out.drewN _) hm hlt).mono ?_
          rintro e w1 ⟨rfl, k2, hq1, hq2, hq3, hq4⟩
          have Hq3 : Hid (Clean src (p + 1) k2) := Hcl'.out.join hq3
          have Hq4 : Hid (Sc w0 B src k2 w1) := hq4
          clear hq3 hq4 c0 c1 f1
          go_wp2
          go_roundg (src.size - k2)
          case measure => omega
          case rel => exact ⟨k2, rfl, by omega, hq2, Hq3, Hq4⟩
        have h39' : ((src[k].toNat : Int) == 39) = false := by simpa using h39
        clear h39
        by_cases h34 : (src[k].toNat : Int) = 34
        · have h34' : ((src[k].toNat : Int) == 34) = true := by simpa using h34
          clear h34
          go_wp2_with fail
          go_quiet (fail)
          go_wp2_with fail
          go_quiet (fail)
          go_wp2_with fail
          refine (quote_any w0 B src k _ _ (Hsc.out.drewN _) hm hlt).mono ?_
          rintro e w1 ⟨rfl, k2, hq1, hq2, hq3, hq4⟩
          have Hq3 : Hid (Clean src (p + 1) k2) := Hcl'.out.join hq3
          have Hq4 : Hid (Sc w0 B src k2 w1) := hq4
          clear hq3 hq4 c0 c1 f1
          go_wp2
          go_roundg (src.size - k2)
          case measure => omega
          case rel => exact ⟨k2, rfl, by omega, hq2, Hq3, Hq4⟩
        have h34' : ((src[k].toNat : Int) == 34) = false := by simpa using h34
        clear h34
        by_cases h96 : (src[k].toNat : Int) = 96
        · have h96' : ((src[k].toNat : Int) == 96) = true := by simpa using h96
          clear h96
          go_wp2_with fail
          go_quiet (fail)
          go_wp2_with fail
          go_quiet (fail)
          go_wp2_with fail
          refine (quote_any w0 B src k _ _ (Hsc.out.drewN _) hm hlt).mono ?_
          rintro e w1 ⟨rfl, k2, hq1, hq2, hq3, hq4⟩
          have Hq3 : Hid (Clean src (p + 1) k2) := Hcl'.out.join hq3
          have Hq4 : Hid (Sc w0 B src k2 w1) := hq4
          clear hq3 hq4 c0 c1 f1
          go_wp2
          go_roundg (src.size - k2)
          case measure => omega
          case rel => exact ⟨k2, rfl, by omega, hq2, Hq3, Hq4⟩
        have h96' : ((src[k].toNat : Int) == 96) = false := by simpa using h96
        clear h96
        go_wp2_with fail
        go_quiet (fail)
        go_wp2_with fail
        go_quiet (fail)
        go_wp2
        go_roundg (src.size - (k + 1))
        case measure => omega
        case rel => exact ⟨k + 1, rfl, by omega, by omega, Hcl', ((Hsc.out.drewN _).set _).to (by omega)⟩
      · have hlt' : decide ((k : Int) < (src.size : Int)) = false := by simp; omega
        have HE : Hid (Ends src p k) := ⟨hk1, hk2, Hcl.out, fun h => absurd h hlt⟩
        have HD : Hid (left src k = k) := by unfold Hid left; rw [if_neg]; rw [dblB_not (fun h => absurd h hlt)]; simp
        go_wp2_with fail
        go_quiet (fail)
        go_wp2
        go_ret
        exact ⟨k, rfl, HE.out, by rw [HD.out]; exact Hsc.out.drewN _⟩
end Go.Proofs.Qxb6602423a.Scan
