/-
  THE WALK of toNextToken.
-/
import Derived.Test.Qxb6601242aCmt
namespace Go.Proofs.Qxb6601242a
open Go.RowKit
set_option linter.unusedVariables false

set_option maxHeartbeats 2000000 in
set_option maxRecDepth 100000 in
theorem toNextToken_any (w : World) (b : Nat) (s : ByteArray) (t : Pl.St) (fl : Int) (ka : Bool) (hsc : ScT w b s t fl ka) (hs : s.size ≤ 1048576) (hbd : Pl.Bd s t) :
    Calls Try.prog 33 #[.pointer (some ⟨b, 0, none⟩)] w fun e w' => e = .returned (.tuple #[]) ∧ ∃ u k', ScT w' b s u fl k' ∧ (u.p, k') = Pl.tn s fl (t.p, ka) ∧ Pl.R s t u ∧ Own b w w' := by
  go_enter Try.func33, Try.ntmps33
  go_wp2
  go_loopg [2] (s.size + 8 - t.p) (fun n i wr => ∃ u k', ScT wr b s u fl k' ∧ Pl.tn s fl (u.p, k') = Pl.tn s fl (t.p, ka) ∧ Pl.R s t u ∧ Own b w wr ∧ n = s.size + 8 - u.p)
  case atStart => exact ⟨t, ka, hsc, rfl, Pl.R.refl hbd, Own.refl b w, rfl⟩
  case round =>
    obtain ⟨u, ka', hu, htn, hr, ho, hk⟩ := hrel
    have HTN : Hid (Pl.tn s fl (u.p, ka') = Pl.tn s fl (t.p, ka)) := htn
    have HK : Hid (gk = s.size + 8 - u.p) := hk
    have hubd := hr.bd
    clear htn hk hsc
    go_wp2
    go_loopg [2] (s.size + 8 - u.p) (fun n i wr => ∃ x, ScT wr b s x fl ka' ∧ Pl.tn s fl (x.p, ka') = Pl.tn s fl (u.p, ka') ∧ Pl.R s u x ∧ Own b w wr ∧ n = s.size + 8 - x.p)
    case atStart => exact ⟨u, hu, rfl, Pl.R.refl hubd, ho, rfl⟩
    case round =>
      obtain ⟨⟨p, l, c, k⟩, hx, htx, hrx, hox, hk2⟩ := hrel
      have H : Sc wr b s p l c k fl ka' := hx
      have HTX : Hid (Pl.tn s fl (p, ka') = Pl.tn s fl (u.p, ka')) := htx
      have HK2 : Hid (gk = s.size + 8 - p) := hk2
      obtain ⟨p1, l0, l1, q0, q1⟩ := hrx.bd
      dsimp only at p1 l0 l1 q0 q1
      clear hx htx hk2
      obtain ⟨c0, c1, c2, c3, c4, c5, c8, f1, f2, f3, f4, f8⟩ := H
      have H : Sc wr b s p l c k fl ka' := ⟨c0, c1, c2, c3, c4, c5, c8, f1, f2, f3, f4, f8⟩
      have HTE : Hid (Pl.tn s fl (p, ka') = Pl.tn s fl (t.p, ka)) := HTX.out.trans HTN.out
      have hup : u.p ≤ p := hrx.le
      have FIN : Aside (∀ (W : World), Sc W b s p l c k fl ka' → Own b w W → Pl.tn s fl (p, ka') = (p, ka') → ∃ u k', ScT W b s u fl k' ∧ (u.p, k') = Pl.tn s fl (t.p, ka) ∧ Pl.R s t u ∧ Own b w W) :=
        fun W h1 h2 h3 => ⟨⟨p, l, c, k⟩, ka', h1, by rw [← HTE.out, h3], hr.trans hrx, h2⟩
      by_cases hlt : p < s.size
      · have EB : Hid (Pl.bat s p = s[p].toNat) := Pl.bat_in hlt
        go_wp2
        go_quiet (fail)
        go_wp2
        go_quiet (fail)
        by_cases h32 : s[p].toNat = 32
        · have t32 : ((s[p].toNat : Int) != 32) = false := nf (by omega)
          have HBL : Hid (Pl.bat s p = 32 ∨ Pl.bat s p = 9) := Or.inl (EB.out.trans h32)
          have HB : Hid (Pl.bl (Pl.bat s p) fl ka' = true) := by show _ = _; rw [EB.out, h32]; rfl
          clear h32
          go_wp2
          go_roundg (s.size + 8 - (p + 1))
          case measure => have := HK2.out; omega
          case rel =>
            have e := Pl.step_blank (s := s) (t := ⟨p, l, c, k⟩) HBL.out
            have hR := hrx.step (by show p < s.size; omega)
            rw [e] at hR
            exact ⟨⟨p + 1, l, c + 1, k⟩, ((H.drewN _).setP (p + 1) (by omega)).setC _, by rw [← HTX.out]; exact (Pl.tn_blank hlt HB.out).symm, hR, ((hox.drewN _).setCell 1 _).setCell 3 _, rfl⟩
        have t32 : ((s[p].toNat : Int) != 32) = true := nt (by omega)
        by_cases h9 : s[p].toNat = 9
        · have t9 : ((s[p].toNat : Int) != 9) = false := nf (by omega)
          have HBL : Hid (Pl.bat s p = 32 ∨ Pl.bat s p = 9) := Or.inr (EB.out.trans h9)
          by_cases hfl : fl = 0
          · have tfl : (fl == 0) = true := bt hfl
            cases ka' with
            | true =>
              have HB : Hid (Pl.bl (Pl.bat s p) fl true = false ∧ Pl.bat s p ≠ 35 ∧ Pl.brk s p = 0) := by
                show _ ∧ _ ∧ _
                refine ⟨by rw [EB.out, h9, hfl]; rfl, by rw [EB.out, h9]; decide, Pl.brk_of ?_ ?_ ?_ ?_⟩ <;> rw [EB.out, h9] <;> decide
              have tb : (((Pl.bat s p : Nat) : Int) == 35) = false := bf (by have := HB.out.2.1; omega)
              have tk : (((Pl.brk s p : Nat) : Int) == 0) = true := bt (by have := HB.out.2.2; omega)
              clear hfl h9 h32
              go_wp2_with (first | (go_at_call 37; refine (byteAt_any s b _ _ (by unfold maxLen; omega) (by omega) (by assumption)).mono ?_; rintro e w' ⟨rfl, rfl⟩) | (go_at_call 38; refine (breakAt_any s b _ _ (by unfold maxLen; omega) (by omega) (by omega) (by assumption)).mono ?_; rintro e w' ⟨rfl, rfl⟩))
              refine bodyPost_ret (results_none rfl _ _ _) rfl ⟨rfl, FIN.out _ (H.drewN _) (hox.drewN _) (Pl.tn_stop (Or.inr HB.out))⟩
            | false =>
              have HB : Hid (Pl.bl (Pl.bat s p) fl false = true) := by show _ = _; rw [EB.out, h9, hfl]; rfl
              clear hfl h9 h32
              go_wp2
              go_roundg (s.size + 8 - (p + 1))
              case measure => have := HK2.out; omega
              case rel =>
                have e := Pl.step_blank (s := s) (t := ⟨p, l, c, k⟩) HBL.out
                have hR := hrx.step (by show p < s.size; omega)
                rw [e] at hR
                exact ⟨⟨p + 1, l, c + 1, k⟩, ((H.drewN _).setP (p + 1) (by omega)).setC _, by rw [← HTX.out]; exact (Pl.tn_blank hlt HB.out).symm, hR, ((hox.drewN _).setCell 1 _).setCell 3 _, rfl⟩
          · have tfl : (fl == 0) = false := bf hfl
            have HB : Hid (Pl.bl (Pl.bat s p) fl ka' = true) := by show _ = _; unfold Pl.bl; rw [EB.out, h9, tfl]; rfl
            clear hfl h9 h32
            go_wp2
            go_roundg (s.size + 8 - (p + 1))
            case measure => have := HK2.out; omega
            case rel =>
              have e := Pl.step_blank (s := s) (t := ⟨p, l, c, k⟩) HBL.out
              have hR := hrx.step (by show p < s.size; omega)
              rw [e] at hR
              exact ⟨⟨p + 1, l, c + 1, k⟩, ((H.drewN _).setP (p + 1) (by omega)).setC _, by rw [← HTX.out]; exact (Pl.tn_blank hlt HB.out).symm, hR, ((hox.drewN _).setCell 1 _).setCell 3 _, rfl⟩
        have t9 : ((s[p].toNat : Int) != 9) = true := nt (by omega)
        have HNB : Hid (Pl.bl (Pl.bat s p) fl ka' = false) := by
          show _ = _
          unfold Pl.bl
          rw [EB.out, beq_eq_false_iff_ne.2 h32, beq_eq_false_iff_ne.2 h9]; rfl
        clear h9 h32
        by_cases h35 : Pl.bat s p = 35
        · have tb : (((Pl.bat s p : Nat) : Int) == 35) = true := bt (by omega)
          have H35 : Hid (Pl.bat s p = 35) := h35
          clear h35
          have hxbd := hrx.bd
          go_wp2_with (first | (go_at_call 37; refine (byteAt_any s b _ _ (by unfold maxLen; omega) (by omega) (by assumption)).mono ?_; rintro e w' ⟨rfl, rfl⟩))
          refine (skipComments_any _ b s ⟨p, l, c, k⟩ fl ka' (H.drewN _) hs hxbd).mono ?_
          rintro e w2 ⟨rfl, y, hy, hyp, hry, hoy⟩
          obtain ⟨p2, l2, c2', k2⟩ := y
          have HYP : Hid (p2 = Pl.cre s p) := hyp
          have HY : Sc w2 b s p2 l2 c2' k2 fl ka' := hy
          clear hyp hy c0 c1 c2 c3 c4 c5 c8 f1 f2 f3 f4 f8
          obtain ⟨c0, c1, c2, c3, c4, c5, c8, f1, f2, f3, f4, f8⟩ := HY
          have HY : Sc w2 b s p2 l2 c2' k2 fl ka' := ⟨c0, c1, c2, c3, c4, c5, c8, f1, f2, f3, f4, f8⟩
          obtain ⟨p1', l0', l1', q0', q1'⟩ := hry.bd
          dsimp only at p1' l0' l1' q0' q1'
          have HTE2 : Hid (Pl.tn s fl (p2, ka') = Pl.tn s fl (t.p, ka)) := by
            show _ = _
            rw [← HTE.out, Pl.tn_hash hlt H35.out, ← HYP.out]
          have hry2 := (hr.trans hrx).trans hry
          have hoy2 : Own b w w2 := (hox.drewN _).trans hoy
          have hp2 : p ≤ p2 := hry.le
          by_cases hbk : Pl.brk s p2 = 0
          · have tk : (((Pl.brk s p2 : Nat) : Int) == 0) = true := bt (by omega)
            have HBK : Hid (Pl.brk s p2 = 0) := hbk
            clear hbk
            go_wp2_with (first | (go_at_call 38; refine (breakAt_any s b _ _ (by unfold maxLen; omega) (by omega) (by omega) (by assumption)).mono ?_; rintro e w' ⟨rfl, rfl⟩))
            refine bodyPost_ret (results_none rfl _ _ _) rfl ⟨rfl, ⟨p2, l2, c2', k2⟩, ka', HY, ?_, hry2, hoy2⟩
            rw [← HTE2.out]
            exact (Pl.tn_stop (Or.inl fun h => Pl.cre_end s p ⟨by rw [← HYP.out]; exact h, by rw [← HYP.out]; exact HBK.out⟩)).symm
          · have tk : (((Pl.brk s p2 : Nat) : Int) == 0) = false := bf (by omega)
            have HBK : Hid (Pl.brk s p2 ≠ 0) := hbk
            clear hbk
            go_wp2_with (first | (go_at_call 37; refine (byteAt_any s b _ _ (by unfold maxLen; omega) (by omega) (by assumption)).mono ?_; rintro e w' ⟨rfl, rfl⟩) | (go_at_call 38; refine (breakAt_any s b _ _ (by unfold maxLen; omega) (by omega) (by omega) (by assumption)).mono ?_; rintro e w' ⟨rfl, rfl⟩))
            refine (skipBreak_any _ b s p2 l2 c2' k2 fl ka' (by assumption) (by omega) (by omega) (by omega) (by omega)).mono ?_
            rintro e w9 ⟨rfl, hS9, hO9⟩
            have HS9 := hS9
            obtain ⟨d0, d1, d2, d3, d4, d5, d8, e1, e2, e3, e4, e8⟩ := hS9
            have hst9 := hry2.step (Pl.brk_in HBK.out)
            rw [Pl.step_brk HBK.out] at hst9
            have htn9 := Pl.tn_brk (fl := fl) (ka := ka') HBK.out
            have hbpos : 0 < Pl.brk s p2 := Nat.pos_of_ne_zero HBK.out
            by_cases hfl : fl = 0
            · have tfl : (fl == 0) = true := bt hfl
              have HKB : Hid (Pl.kb fl ka' = true) := by show _ = _; unfold Pl.kb; rw [if_pos hfl]
              have HFL : Hid (fl = 0) := hfl
              have HT9 : Hid (Pl.tn s fl (p2, ka') = Pl.tn s fl (p2 + Pl.brk s p2, Pl.kb fl ka')) := htn9
              clear hfl htn9
              go_wp2_with fail
              go_roundg (s.size + 8 - (p2 + Pl.brk s p2))
              case measure => have := HK.out; omega
              case rel => exact ⟨⟨p2 + Pl.brk s p2, l2 + 1, 0, true⟩, true, HS9.setA _, by rw [← HTE2.out, HT9.out, HKB.out], hst9, (hoy2.trans hO9).setCell 8 _, rfl⟩
            · have tfl : (fl == 0) = false := bf hfl
              have HKB : Hid (Pl.kb fl ka' = ka') := by show _ = _; unfold Pl.kb; rw [if_neg hfl]
              have HT9 : Hid (Pl.tn s fl (p2, ka') = Pl.tn s fl (p2 + Pl.brk s p2, Pl.kb fl ka')) := htn9
              clear hfl htn9
              go_wp2_with fail
              go_roundg (s.size + 8 - (p2 + Pl.brk s p2))
              case measure => have := HK.out; omega
              case rel => exact ⟨⟨p2 + Pl.brk s p2, l2 + 1, 0, true⟩, ka', HS9, by rw [← HTE2.out, HT9.out, HKB.out], hst9, hoy2.trans hO9, rfl⟩
        · have tb : (((Pl.bat s p : Nat) : Int) == 35) = false := bf (by omega)
          have H35 : Hid (Pl.bat s p ≠ 35) := h35
          clear h35
          by_cases hbk : Pl.brk s p = 0
          · have tk : (((Pl.brk s p : Nat) : Int) == 0) = true := bt (by omega)
            have HBK : Hid (Pl.brk s p = 0) := hbk
            clear hbk
            go_wp2_with (first | (go_at_call 37; refine (byteAt_any s b _ _ (by unfold maxLen; omega) (by omega) (by assumption)).mono ?_; rintro e w' ⟨rfl, rfl⟩) | (go_at_call 38; refine (breakAt_any s b _ _ (by unfold maxLen; omega) (by omega) (by omega) (by assumption)).mono ?_; rintro e w' ⟨rfl, rfl⟩))
            refine bodyPost_ret (results_none rfl _ _ _) rfl ⟨rfl, FIN.out _ (H.drewN _) (hox.drewN _) (Pl.tn_stop (Or.inr ⟨HNB.out, H35.out, HBK.out⟩))⟩
          · have tk : (((Pl.brk s p : Nat) : Int) == 0) = false := bf (by omega)
            have HBK : Hid (Pl.brk s p ≠ 0) := hbk
            clear hbk
            have hrx2 := hr.trans hrx
            go_wp2_with (first | (go_at_call 37; refine (byteAt_any s b _ _ (by unfold maxLen; omega) (by omega) (by assumption)).mono ?_; rintro e w' ⟨rfl, rfl⟩) | (go_at_call 38; refine (breakAt_any s b _ _ (by unfold maxLen; omega) (by omega) (by omega) (by assumption)).mono ?_; rintro e w' ⟨rfl, rfl⟩))
            refine (skipBreak_any _ b s p l c k fl ka' (H.drewN _) (by omega) (by omega) (by omega) (by omega)).mono ?_
            rintro e w9 ⟨rfl, hS9, hO9⟩
            have HS9 := hS9
            obtain ⟨d0, d1, d2, d3, d4, d5, d8, e1, e2, e3, e4, e8⟩ := hS9
            have hst9 := hrx2.step (Pl.brk_in HBK.out)
            rw [Pl.step_brk HBK.out] at hst9
            have htn9 := Pl.tn_brk (fl := fl) (ka := ka') HBK.out
            have hbpos : 0 < Pl.brk s p := Nat.pos_of_ne_zero HBK.out
            by_cases hfl : fl = 0
            · have tfl : (fl == 0) = true := bt hfl
              have HKB : Hid (Pl.kb fl ka' = true) := by show _ = _; unfold Pl.kb; rw [if_pos hfl]
              have HFL : Hid (fl = 0) := hfl
              have HT9 : Hid (Pl.tn s fl (p, ka') = Pl.tn s fl (p + Pl.brk s p, Pl.kb fl ka')) := htn9
              clear hfl htn9
              go_wp2_with fail
              go_roundg (s.size + 8 - (p + Pl.brk s p))
              case measure => have := HK.out; omega
              case rel => exact ⟨⟨p + Pl.brk s p, l + 1, 0, true⟩, true, HS9.setA _, by rw [← HTE.out, HT9.out, HKB.out], hst9, ((hox.drewN _).trans hO9).setCell 8 _, rfl⟩
            · have tfl : (fl == 0) = false := bf hfl
              have HKB : Hid (Pl.kb fl ka' = ka') := by show _ = _; unfold Pl.kb; rw [if_neg hfl]
              have HT9 : Hid (Pl.tn s fl (p, ka') = Pl.tn s fl (p + Pl.brk s p, Pl.kb fl ka')) := htn9
              clear hfl htn9
              go_wp2_with fail
              go_roundg (s.size + 8 - (p + Pl.brk s p))
              case measure => have := HK.out; omega
              case rel => exact ⟨⟨p + Pl.brk s p, l + 1, 0, true⟩, ka', HS9, by rw [← HTE.out, HT9.out, HKB.out], hst9, (hox.drewN _).trans hO9, rfl⟩
      · have hd : decide (p < s.size) = false := by simpa using hlt
        have tb : (((Pl.bat s p : Nat) : Int) == 35) = false := bf (by have := Pl.bat_out (s := s) (p := p) (by omega); omega)
        have tk : (((Pl.brk s p : Nat) : Int) == 0) = true := bt (by have := Pl.brk_out (s := s) (p := p) (by omega); omega)
        go_wp2
        go_quiet (fail)
        go_wp2_with (first | (go_at_call 37; refine (byteAt_any s b _ _ (by unfold maxLen; omega) (by omega) (by assumption)).mono ?_; rintro e w' ⟨rfl, rfl⟩) | (go_at_call 38; refine (breakAt_any s b _ _ (by unfold maxLen; omega) (by omega) (by omega) (by assumption)).mono ?_; rintro e w' ⟨rfl, rfl⟩))
        refine bodyPost_ret (results_none rfl _ _ _) rfl ⟨rfl, FIN.out _ (H.drewN _) (hox.drewN _) (Pl.tn_stop (Or.inl hlt))⟩

end Go.Proofs.Qxb6601242a
