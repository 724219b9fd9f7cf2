/-
  THE WALKS of yCommentRunEnd and yToNext.
-/
import Derived.Test.Qxb6601242aMlf
namespace Go.Proofs.Qxb6601242a
open Go.RowKit
set_option linter.unusedVariables false

theorem Pl.le_bd {s : ByteArray} {p : Nat} (h : p ≤ s.size + 4) : Pl.le s p ≤ s.size + 4 :=
  Pl.runF_keep (Pl.leN s) (fun q => q ≤ s.size + 4) (fun a b h ha => by
    unfold Pl.leN at h
    have := Pl.cw_pos (Pl.bat s a)
    split at h
    · injection h with h; omega
    · cases h) _ _ h

theorem Pl.cre_bd {s : ByteArray} {p : Nat} (h : p ≤ s.size + 4) : Pl.cre s p ≤ s.size + 4 :=
  Pl.le_bd (Pl.runF_keep (Pl.crN s) (fun q => q ≤ s.size + 4) (fun a b h ha => by
    unfold Pl.crN at h
    split at h
    · rename_i hm
      have := (Pl.more_iff s a).1 hm
      injection h with h; omega
    · cases h) _ _ h)

set_option maxHeartbeats 1000000 in
set_option maxRecDepth 100000 in
theorem yCommentRunEnd_any (s : ByteArray) (p : Nat) (w : World) (hs : s.size ≤ 1048576) (hp : p ≤ s.size + 4) :
    Calls Try.prog 18 #[.string s, .int .i64 (p : Int)] w fun e w' => e = .returned (.int .i64 (Pl.cre s p : Nat)) ∧ w' = w := by
  go_enter Try.func18, Try.ntmps18
  go_wp2_with (go_at_call 30; refine (yLineEnd_any s p _ hs hp).mono ?_; rintro e w0 ⟨rfl, rfl⟩)
  go_loopg [5, 6] (s.size + 8 - Pl.le s p) (fun n i j wr => ∃ x e : Nat, i = .int .i64 (e : Int) ∧ e = Pl.le s x ∧ e ≤ s.size + 4 ∧ Pl.cre s x = Pl.cre s p ∧ w0 = wr ∧ n = s.size + 8 - e)
  case atStart => exact ⟨p, Pl.le s p, rfl, rfl, Pl.le_bd hp, rfl, rfl, rfl⟩
  case round =>
    obtain ⟨x, e, rfl, he, hbd, hcr, rfl, hk⟩ := hrel
    have HE : Hid (e = Pl.le s x) := he
    have HCR : Hid (Pl.cre s x = Pl.cre s p) := hcr
    have HK : Hid (gk = s.size + 8 - e) := hk
    clear he hcr hk
    by_cases hlt : e < s.size
    · go_wp2_with fail
      go_loopg [6] (s.size + 8 - (e + 1)) (fun n j wr => ∃ g : Nat, j = .int .i64 (g : Int) ∧ e + 1 ≤ g ∧ g ≤ s.size ∧ Pl.ge s (e + 1) = Pl.ge s g ∧ w0 = wr ∧ n = s.size + 8 - g)
      case atStart => exact ⟨e + 1, by go_num, Nat.le_refl _, hlt, rfl, rfl, rfl⟩
      case round =>
        obtain ⟨g, rfl, hg1, hg2, hge, rfl, hk2⟩ := hrel
        have HGE : Hid (Pl.ge s (e + 1) = Pl.ge s g) := hge
        have HK2 : Hid (gk = s.size + 8 - g) := hk2
        clear hge hk2
        by_cases hg : g < s.size
        · have EB : Hid (Pl.bat s g = s[g].toNat) := Pl.bat_in hg
          cases hgap : Pl.gap s[g].toNat with
          | true =>
            go_wp2_with (go_at_call 31; refine (yIsGap_any _ _).mono ?_; rintro e w' ⟨rfl, rfl⟩)
            go_roundg (s.size + 8 - (g + 1))
            case measure => have := HK2.out; omega
            case rel => exact ⟨g + 1, by go_num, by omega, by omega, by rw [HGE.out]; exact Pl.ge_step hg (by rw [EB.out]; exact hgap), rfl, rfl⟩
          | false =>
            have HST : Hid (Pl.ge s (e + 1) = g) := HGE.out.trans (Pl.ge_stop (fun h => by have := h.2; rw [EB.out, hgap] at this; cases this))
            by_cases h35 : s[g].toNat = 35
            · have t35 : ((s[g].toNat : Int) != 35) = false := nf (by omega)
              have H35 : Hid (Pl.bat s g = 35) := EB.out.trans h35
              clear h35
              by_cases hd : (g : Int) - e < 512
              · have hmore : Hid (Pl.more s x = true) := by
                  show _ = _
                  rw [Pl.more_iff, ← HE.out, HST.out]
                  exact ⟨hlt, hg, H35.out, by omega⟩
                go_wp2_with (first | (go_at_call 31; refine (yIsGap_any _ _).mono ?_; rintro e w' ⟨rfl, rfl⟩) | (go_at_call 30; refine (yLineEnd_any s g _ hs (by omega)).mono ?_; rintro e w' ⟨rfl, rfl⟩))
                have hlg := Pl.le_ge s g
                have hlb := Pl.le_bd (s := s) (p := g) (by omega)
                go_roundg (s.size + 8 - Pl.le s g)
                case measure => have := HK.out; omega
                case rel => exact ⟨g, Pl.le s g, rfl, rfl, hlb, by rw [← HCR.out, Pl.cre_step hmore.out, ← HE.out, HST.out], rfl, rfl⟩
              · have hmore : Hid (Pl.more s x = false) := by
                  show _ = _
                  rw [← Bool.not_eq_true, Pl.more_iff, ← HE.out, HST.out]
                  omega
                go_wp2_with (first | (go_at_call 31; refine (yIsGap_any _ _).mono ?_; rintro e w' ⟨rfl, rfl⟩))
                go_ret
                exact ⟨ret_int (by rw [← HCR.out, Pl.cre_stop hmore.out, ← HE.out]), rfl⟩
            · have t35 : ((s[g].toNat : Int) != 35) = true := nt (by omega)
              have hmore : Hid (Pl.more s x = false) := by
                show _ = _
                rw [← Bool.not_eq_true, Pl.more_iff, ← HE.out, HST.out, EB.out]
                omega
              clear h35
              go_wp2_with (first | (go_at_call 31; refine (yIsGap_any _ _).mono ?_; rintro e w' ⟨rfl, rfl⟩))
              go_ret
              exact ⟨ret_int (by rw [← HCR.out, Pl.cre_stop hmore.out, ← HE.out]), rfl⟩
        · have HST : Hid (Pl.ge s (e + 1) = g) := HGE.out.trans (Pl.ge_stop (fun h => hg h.1))
          have hmore : Hid (Pl.more s x = false) := by
            show _ = _
            rw [← Bool.not_eq_true, Pl.more_iff, ← HE.out, HST.out]
            omega
          go_wp2_with fail
          go_ret
          exact ⟨ret_int (by rw [← HCR.out, Pl.cre_stop hmore.out, ← HE.out]), rfl⟩
    · have hmore : Hid (Pl.more s x = false) := by
        show _ = _
        rw [← Bool.not_eq_true, Pl.more_iff, ← HE.out]
        omega
      go_wp2_with fail
      go_ret
      exact ⟨ret_int (by rw [← HCR.out, Pl.cre_stop hmore.out, ← HE.out]), rfl⟩

end Go.Proofs.Qxb6601242a
