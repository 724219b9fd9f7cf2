/-
  THE WALK of skipComments.
-/
import Derived.Test.Qxb6601242aLine
import Derived.Test.Qxb6601242aIdx
namespace Go.Proofs.Qxb6601242a
open Go.RowKit
set_option linter.unusedVariables false

theorem Aside.intro {p : Prop} (h : p) : Aside p := h

set_option maxHeartbeats 2000000 in
set_option maxRecDepth 100000 in
theorem skipComments_any (w : World) (b : Nat) (s : ByteArray) (t : Pl.St) (fl : Int) (ka : Bool) (hsc : ScT w b s t fl ka) (hs : s.size ≤ 1048576) (hbd : Pl.Bd s t) :
    Calls Try.prog 29 #[.pointer (some ⟨b, 0, none⟩)] w fun e w' => e = .returned (.tuple #[]) ∧ ∃ u, ScT w' b s u fl ka ∧ u.p = Pl.cre s t.p ∧ Pl.R s t u ∧ Own b w w' := by
  go_enter Try.func29, Try.ntmps29
  go_wp2
  go_loopg [] (s.size + 8 - t.p) (fun n wr => ∃ u, ScT wr b s u fl ka ∧ Pl.cre s u.p = Pl.cre s t.p ∧ Pl.R s t u ∧ Own b w wr ∧ n = s.size + 8 - u.p)
  case atStart => exact ⟨t, hsc, rfl, Pl.R.refl hbd, Own.refl b w, rfl⟩
  case round =>
    obtain ⟨u, hu, hcr, hr, ho, hk⟩ := hrel
    have HCR : Hid (Pl.cre s u.p = Pl.cre s t.p) := hcr
    have HK : Hid (gk = s.size + 8 - u.p) := hk
    have hubd := hr.bd
    clear hcr hk hsc
    go_wp2_with (go_at_call 35; refine (skipToBreak_any _ b s u fl ka hu hs hubd).mono ?_; rintro e w1 ⟨rfl, v, hv, hvp, hrv, hov⟩)
    have HVP : Hid (v.p = Pl.le s u.p) := hvp
    clear hvp
    obtain ⟨p, l, c, k⟩ := v
    have H : Sc w1 b s p l c k fl ka := hv
    obtain ⟨p1, l0, l1, q0, q1⟩ := hrv.bd
    dsimp only at p1 l0 l1 q0 q1
    clear hv
    obtain ⟨c0, c1, c2, c3, c4, c5, c8, f1, f2, f3, f4, f8⟩ := H
    have H : Sc w1 b s p l c k fl ka := ⟨c0, c1, c2, c3, c4, c5, c8, f1, f2, f3, f4, f8⟩
    go_quiet (fail)
    by_cases hend : s.size ≤ p
    · go_wp2
      refine bodyPost_ret (results_none rfl _ _ _) rfl ?_
      have hE : p = Pl.le s u.p := HVP.out
      exact ⟨rfl, ⟨p, l, c, k⟩, H.drewN nq, by rw [← HCR.out, Pl.cre_stop (Pl.more_end (by omega))]; exact HVP.out, hr.trans hrv, (ho.trans hov).drewN nq⟩
    · have hlt : p < s.size := by omega
      have fin : ∀ (W : World), Sc W b s p l c k fl ka → Own b w W → Pl.more s u.p = false → ∃ u, ScT W b s u fl ka ∧ u.p = Pl.cre s t.p ∧ Pl.R s t u ∧ Own b w W :=
        fun W h1 h2 h3 => ⟨⟨p, l, c, k⟩, h1, by rw [← HCR.out, Pl.cre_stop h3]; exact HVP.out, hr.trans hrv, h2⟩
      have FIN := Aside.intro fin
      clear fin
      go_wp2
      go_loopg [2] (s.size + 8 - (p + 1)) (fun n i wr => ∃ g : Nat, i = .int .i64 (g : Int) ∧ Pl.Seen s p g ∧ wr = w1.drewN nq ∧ n = s.size + 8 - g)
      case atStart => exact ⟨p + 1, by go_num, Pl.Seen.start hlt, rfl, rfl⟩
      case round =>
        obtain ⟨g, rfl, hseen, rfl, hk2⟩ := hrel
        have HK2 : Hid (gk = s.size + 8 - g) := hk2
        obtain ⟨g1, g2, g3, g4⟩ := hseen
        have hseen : Pl.Seen s p g := ⟨g1, g2, g3, g4⟩
        clear hk2 g4
        have hbl := Pl.bat_lt s g
        by_cases hg : g < s.size
        · have EB : Hid (Pl.bat s g = s[g].toNat) := Pl.bat_in hg
          by_cases hd : g < p + 512
          · cases hgap : Pl.gap (Pl.bat s g) with
            | true =>
              have hgi := gi_yes hgap
              have HG : Hid (Pl.gap (Pl.bat s g) = true) := hgap
              clear hgap
              have hgi' : 0 ≤ gi s[g].toNat := by rw [← EB.out]; exact hgi
              go_wp2_with (go_at_call 36; refine (gapIdx_any _ (UInt8.toNat_lt _) _).mono ?_; rintro e w' ⟨rfl, rfl⟩)
              go_roundg (s.size + 8 - (g + 1))
              case measure => have := HK2.out; omega
              case rel => exact ⟨g + 1, by go_num, hseen.next hg hd HG.out, rfl, rfl⟩
            | false =>
              have hgi := gi_no hgap
              have HG : Hid (Pl.gap (Pl.bat s g) = false) := hgap
              clear hgap
              have hgi' : gi s[g].toNat < 0 := by rw [← EB.out]; exact hgi
              by_cases h35 : Pl.bat s g = 35
              · have hb35 : (((Pl.bat s g : Nat) : Int) != 35) = false := nf (by omega)
                have H35 : Hid (Pl.bat s g = 35) := h35
                clear h35
                go_wp2_with (first | (go_at_call 36; refine (gapIdx_any _ (UInt8.toNat_lt _) _).mono ?_; rintro e w' ⟨rfl, rfl⟩) | (go_at_call 37; refine (byteAt_any s b _ _ (by unfold maxLen; omega) (by omega) (by assumption)).mono ?_; rintro e w' ⟨rfl, rfl⟩))
                clear c0 c1 c2 c3 c4 c5 c8 f1 f2 f3 f4 f8
                have hbp : Hid (Pl.brk s p ≠ 0) := fun h => Pl.le_end s u.p ⟨by rw [← HVP.out]; exact hlt, by rw [← HVP.out]; exact h⟩
                have hstep : Aside (∀ x : Pl.St, p ≤ x.p → x.p < g → (Pl.step s x).p ≤ g) := fun x h1 h2 => Pl.step_gap hseen hbp.out H35.out h1 h2
                have hcre : Hid (Pl.cre s u.p = Pl.cre s g) := (Pl.more_yes (by rw [← HVP.out]; exact hseen) (by rw [← HVP.out]; exact hd) H35.out hg).2
                have hup : u.p ≤ p := by have := Pl.le_ge s u.p; rw [← HVP.out] at this; exact this
                go_loopg [] (g + 8 - p) (fun n wr => ∃ x, ScT wr b s x fl ka ∧ Pl.R s u x ∧ p ≤ x.p ∧ x.p ≤ g ∧ Own b w wr ∧ n = g + 8 - x.p)
                case atStart => exact ⟨⟨p, l, c, k⟩, H.drewN nq, hrv, Nat.le_refl _, by show p ≤ g; omega, (ho.trans hov).drewN nq, rfl⟩
                case round =>
                  obtain ⟨⟨p', l', c', k'⟩, hx, hrx, hx1, hx2, hox, hk3⟩ := hrel
                  dsimp only at hx1 hx2 hk3
                  have HX : Sc wr b s p' l' c' k' fl ka := hx
                  have HK3 : Hid (gk = g + 8 - p') := hk3
                  obtain ⟨p1', l0', l1', q0', q1'⟩ := hrx.bd
                  dsimp only at p1' l0' l1' q0' q1'
                  clear hx hk3
                  obtain ⟨c0, c1, c2, c3, c4, c5, c8, f1, f2, f3, f4, f8⟩ := HX
                  have HX : Sc wr b s p' l' c' k' fl ka := ⟨c0, c1, c2, c3, c4, c5, c8, f1, f2, f3, f4, f8⟩
                  by_cases hlt3 : p' < g
                  · have hst := hstep.out ⟨p', l', c', k'⟩ hx1 hlt3
                    by_cases hbk : Pl.brk s p' = 0
                    · have e := Pl.step_char (s := s) (t := ⟨p', l', c', k'⟩) hbk
                      rw [e] at hst
                      dsimp only at hst
                      have hR := hrx.step (by show p' < s.size; omega)
                      rw [e] at hR
                      have hbb : ¬ (0 : Int) < ((Pl.brk s p' : Nat) : Int) := by omega
                      have hcw := Pl.cw_pos (Pl.bat s p')
                      clear hbk e
                      go_wp2_with (first | (go_at_call 38; refine (breakAt_any s b _ _ (by unfold maxLen; omega) (by omega) (by omega) (by assumption)).mono ?_; rintro e w' ⟨rfl, rfl⟩) | (go_at_call 40; refine (skip_any _ b s p' l' c' k' fl ka (by assumption) (by omega) (by omega) (by omega) (by omega)).mono ?_; rintro e w' ⟨rfl, hS, hO⟩))
                      go_roundg (g + 8 - (p' + Pl.cw (Pl.bat s p')))
                      case measure => have := HK3.out; omega
                      case rel => exact ⟨⟨p' + Pl.cw (Pl.bat s p'), l', c' + 1, Pl.kp (Pl.bat s p') k'⟩, hS, hR, by show p ≤ p' + _; omega, hst, hox.trans hO, rfl⟩
                    · have e := Pl.step_brk (s := s) (t := ⟨p', l', c', k'⟩) hbk
                      rw [e] at hst
                      dsimp only at hst
                      have hR := hrx.step (by show p' < s.size; omega)
                      rw [e] at hR
                      have hbb : (0 : Int) < ((Pl.brk s p' : Nat) : Int) := by omega
                      clear hbk e
                      go_wp2_with (first | (go_at_call 38; refine (breakAt_any s b _ _ (by unfold maxLen; omega) (by omega) (by omega) (by assumption)).mono ?_; rintro e w' ⟨rfl, rfl⟩) | (go_at_call 39; refine (skipBreak_any _ b s p' l' c' k' fl ka (by assumption) (by omega) (by omega) (by omega) (by omega)).mono ?_; rintro e w' ⟨rfl, hS, hO⟩))
                      go_roundg (g + 8 - (p' + Pl.brk s p'))
                      case measure => have := HK3.out; omega
                      case rel => exact ⟨⟨p' + Pl.brk s p', l' + 1, 0, true⟩, hS, hR, by show p ≤ p' + _; omega, hst, hox.trans hO, rfl⟩
                  · have hpg : p' = g := by omega
                    have HPG : Hid (p' = g) := hpg
                    clear hpg
                    go_wp2_with fail
                    go_roundg (s.size + 8 - p')
                    case measure => have := HK.out; omega
                    case rel => exact ⟨⟨p', l', c', k'⟩, HX, by rw [← HCR.out, hcre.out, ← HPG.out], hr.trans hrx, hox, rfl⟩
              · have hb35 : (((Pl.bat s g : Nat) : Int) != 35) = true := nt (by omega)
                have H35 : Hid (Pl.bat s g ≠ 35) := h35
                clear h35
                go_wp2_with (first | (go_at_call 36; refine (gapIdx_any _ (UInt8.toNat_lt _) _).mono ?_; rintro e w' ⟨rfl, rfl⟩) | (go_at_call 37; refine (byteAt_any s b _ _ (by unfold maxLen; omega) (by omega) (by assumption)).mono ?_; rintro e w' ⟨rfl, rfl⟩))
                refine bodyPost_ret (results_none rfl _ _ _) rfl ⟨rfl, FIN.out _ (H.drewN nq) ((ho.trans hov).drewN nq) (Pl.more_no (by rw [← HVP.out]; exact hseen) HG.out H35.out)⟩
          · go_wp2_with fail
            refine bodyPost_ret (results_none rfl _ _ _) rfl ⟨rfl, FIN.out _ (H.drewN nq) ((ho.trans hov).drewN nq) (Pl.more_far (g := g) (by rw [← HVP.out]; exact hseen) (by rw [← HVP.out]; omega))⟩
        · have hb35 : (((Pl.bat s g : Nat) : Int) != 35) = true := nt (by have := Pl.bat_out (s := s) (p := g) (by omega); omega)
          by_cases hd : g < p + 512
          · go_wp2_with (first | (go_at_call 37; refine (byteAt_any s b _ _ (by unfold maxLen; omega) (by omega) (by assumption)).mono ?_; rintro e w' ⟨rfl, rfl⟩))
            refine bodyPost_ret (results_none rfl _ _ _) rfl ⟨rfl, FIN.out _ (H.drewN nq) ((ho.trans hov).drewN nq) (Pl.more_out (g := g) (by rw [← HVP.out]; exact hseen) (by omega))⟩
          · go_wp2_with fail
            refine bodyPost_ret (results_none rfl _ _ _) rfl ⟨rfl, FIN.out _ (H.drewN nq) ((ho.trans hov).drewN nq) (Pl.more_far (g := g) (by rw [← HVP.out]; exact hseen) (by rw [← HVP.out]; omega))⟩

end Go.Proofs.Qxb6601242a
