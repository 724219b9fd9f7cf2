/-
  THE WALK of skipToBreak.
-/
import Derived.Test.Qxb6601242aSkip
import Derived.Test.Qxb6601242aRuns
import Derived.Deep.LoopGhost
namespace Go.Proofs.Qxb6601242a
open Go.RowKit
set_option linter.unusedVariables false

/-- Block b holds a scanner in the state t. -/
def ScT (w : World) (b : Nat) (s : ByteArray) (t : Pl.St) (fl : Int) (ka : Bool) : Prop := Sc w b s t.p t.l t.c t.k fl ka

set_option maxHeartbeats 1000000 in
set_option maxRecDepth 100000 in
theorem skipToBreak_any (w : World) (b : Nat) (s : ByteArray) (t : Pl.St) (fl : Int) (ka : Bool) (hsc : ScT w b s t fl ka) (hs : s.size ≤ 1048576) (hbd : Pl.Bd s t) :
    Calls Try.prog 35 #[.pointer (some ⟨b, 0, none⟩)] w fun e w' => e = .returned (.tuple #[]) ∧ ∃ u, ScT w' b s u fl ka ∧ u.p = Pl.le s t.p ∧ Pl.R s t u ∧ Own b w w' := by
  go_enter Try.func35, Try.ntmps35
  go_wp2
  go_loopg [] (s.size + 8 - t.p) (fun n wr => ∃ u, ScT wr b s u fl ka ∧ Pl.le s u.p = Pl.le s t.p ∧ Pl.R s t u ∧ Own b w wr ∧ n = s.size + 8 - u.p)
  case atStart => exact ⟨t, hsc, rfl, Pl.R.refl hbd, Own.refl b w, rfl⟩
  case round =>
    obtain ⟨⟨p, l, c, k⟩, hu, hle, hr, ho, hk⟩ := hrel
    have H : Sc wr b s p l c k fl ka := hu
    obtain ⟨p1, l0, l1, q0, q1⟩ := hr.bd
    dsimp only at p1 l0 l1 q0 q1
    have HLE : Hid (Pl.le s p = Pl.le s t.p) := hle
    have HK : Hid (gk = s.size + 8 - p) := hk
    clear hle hk hsc hu
    obtain ⟨c0, c1, c2, c3, c4, c5, c8, f1, f2, f3, f4, f8⟩ := H
    have H : Sc wr b s p l c k fl ka := ⟨c0, c1, c2, c3, c4, c5, c8, f1, f2, f3, f4, f8⟩
    by_cases hlt : (p : Int) < s.size
    · by_cases hb : Pl.brk s p = 0
      · have hbe : (((Pl.brk s p : Nat) : Int) == 0) = true := bt (by omega)
        have HB : Hid (Pl.brk s p = 0) := hb
        clear hb
        go_wp2
        go_quiet ((go_at_call 38; exact Calls.quiet_of_same (breakAt_any s b _ _ (by unfold maxLen; omega) (by omega) (by omega) (by assumption))))
        go_wp2_with (go_at_call 40; refine (skip_any _ b s p l c k fl ka (H.drewN nq) (by omega) (by omega) (by omega) (by omega)).mono ?_; rintro e w' ⟨rfl, hS, hO⟩)
        have hcw := Pl.cw_pos (Pl.bat s p)
        go_roundg (s.size + 8 - (p + Pl.cw (Pl.bat s p)))
        case measure => have := HK.out; omega
        case rel =>
          have e := Pl.step_char (s := s) (t := ⟨p, l, c, k⟩) HB.out
          exact ⟨⟨p + Pl.cw (Pl.bat s p), l, c + 1, Pl.kp (Pl.bat s p) k⟩, hS, by rw [← HLE.out]; exact (Pl.le_step (by omega) HB.out).symm, by have := hr.step (by show p < s.size; omega); rw [e] at this; exact this, (ho.drewN nq).trans hO, rfl⟩
      · have hbe : (((Pl.brk s p : Nat) : Int) == 0) = false := bf (by omega)
        go_wp2
        go_quiet ((go_at_call 38; exact Calls.quiet_of_same (breakAt_any s b _ _ (by unfold maxLen; omega) (by omega) (by omega) (by assumption))))
        go_wp2
        go_end0
        exact ⟨rfl, ⟨p, l, c, k⟩, H.drewN nq, by rw [← HLE.out]; exact (Pl.le_stop (fun h => hb h.2)).symm, hr, ho.drewN nq⟩
    · have hd : decide ((p : Int) < s.size) = false := by simpa using hlt
      have hd2 : decide (p < s.size) = false := by simpa using hlt
      go_wp2
      go_quiet (fail)
      go_wp2
      go_end0
      exact ⟨rfl, ⟨p, l, c, k⟩, H.drewN nq, by rw [← HLE.out]; exact (Pl.le_stop (p := p) (fun h => by omega)).symm, hr, ho.drewN nq⟩

end Go.Proofs.Qxb6601242a
