/-
  THE WALKS of yWalk and yToNext.
-/
import Derived.Test.Qxb6601242aMcr
namespace Go.Proofs.Qxb6601242a
open Go.RowKit
set_option linter.unusedVariables false

set_option maxHeartbeats 2000000 in
set_option maxRecDepth 100000 in
theorem yWalk_any (s : ByteArray) (n : Nat) (t u : Pl.St) (w : World) (hs : s.size ≤ 1048576) (hpath : Pl.Path s n t u) (hbd : Pl.Bd s t) (hub : Pl.Bd s u) :
    Calls Try.prog 19 #[.string s, .int .i64 (t.p : Int), .int .i64 (u.p : Int), .int .i64 t.l, .int .i64 t.c, .bool t.k] w fun e w' =>
      e = .returned (.tuple #[.int .i64 (u.p : Int), .int .i64 u.l, .int .i64 u.c, .bool u.k]) ∧ w' = w := by
  go_enter Try.func19, Try.ntmps19
  go_wp2
  have hup := hub.p1
  go_loopg [3, 4, 5, 16, 17, 18] n (fun m a3 a4 a5 a16 _ _ wr => ∃ x : Pl.St, Pl.Path s m x u ∧ Pl.Bd s x ∧ a3 = .int .i64 x.l ∧ a4 = .int .i64 x.c ∧ a5 = .bool x.k ∧ a16 = .int .i64 (x.p : Int) ∧ w = wr)
  case atStart => exact ⟨t, hpath, hbd, rfl, rfl, rfl, rfl, rfl⟩
  case round =>
    obtain ⟨⟨p, l, c, k⟩, hpa, hbx, rfl, rfl, rfl, rfl, rfl⟩ := hrel
    clear hpath hbd
    obtain ⟨p1, l0, l1, q0, q1⟩ := hbx
    have hbx : Pl.Bd s ⟨p, l, c, k⟩ := ⟨p1, l0, l1, q0, q1⟩
    dsimp only at p1 l0 l1 q0 q1
    cases gk with
    | zero =>
      have hxu : (⟨p, l, c, k⟩ : Pl.St) = u := hpa
      subst hxu
      clear hpa
      dsimp only
      go_wp2_with fail
      refine bodyPost_ret (v := .tuple #[.int .i64 (p : Int), .int .i64 l, .int .i64 c, .bool k]) (by simp [results, Try.results19, go_sem]) rfl ⟨rfl, rfl⟩
    | succ m =>
      have hlt : p < s.size := hpa.1
      have hrest := hpa.2
      have hpu : p < u.p := by have h := Pl.Path.le hpa; have h' : p + (m + 1) ≤ u.p := h; omega
      have hbs := hbx.step hlt
      clear hpa
      have EB : Hid (Pl.bat s p = s[p].toNat) := Pl.bat_in hlt
      have hcw := Pl.cw_pos s[p].toNat
      have hb3 := Pl.brk_le s p
      by_cases hb : Pl.brk s p = 0
      · rw [Pl.step_char hb] at hrest hbs
        dsimp only at hrest hbs
        rw [EB.out] at hrest hbs
        have tb : ¬ (0 : Int) < ((Pl.brk s p : Nat) : Int) := by omega
        clear hb
        have HP := aside_of hrest
        have HBS := hbs
        clear hrest hbs
        by_cases h32 : s[p].toNat = 32
        · have t32 : ((s[p].toNat : Int) != 32) = false := nf (by omega)
          have HK : Hid (Pl.kp s[p].toNat k = k) := by show _ = _; rw [h32]; rfl
          clear h32
          go_wp2_with (first | (go_at_call 26; refine (yBreakWidth_any s _ _ (by omega) (by omega)).mono ?_; rintro e w' ⟨rfl, rfl⟩) | (go_at_call 32; refine (yCharWidth_any _ (UInt8.toNat_lt _) _).mono ?_; rintro e w' ⟨rfl, rfl⟩))
          go_roundg m
          case measure => omega
          case rel => exact ⟨_, HP.out, HBS, rfl, rfl, by rw [HK.out], by go_num, rfl⟩
        have t32 : ((s[p].toNat : Int) != 32) = true := nt (by omega)
        by_cases h9 : s[p].toNat = 9
        · have t9 : ((s[p].toNat : Int) != 9) = false := nf (by omega)
          have HK : Hid (Pl.kp s[p].toNat k = k) := by show _ = _; rw [h9]; rfl
          clear h32 h9
          go_wp2_with (first | (go_at_call 26; refine (yBreakWidth_any s _ _ (by omega) (by omega)).mono ?_; rintro e w' ⟨rfl, rfl⟩) | (go_at_call 32; refine (yCharWidth_any _ (UInt8.toNat_lt _) _).mono ?_; rintro e w' ⟨rfl, rfl⟩))
          go_roundg m
          case measure => omega
          case rel => exact ⟨_, HP.out, HBS, rfl, rfl, by rw [HK.out], by go_num, rfl⟩
        · have t9 : ((s[p].toNat : Int) != 9) = true := nt (by omega)
          have HK : Hid (Pl.kp s[p].toNat k = false) := by show _ = _; unfold Pl.kp; rw [if_neg h32, if_neg h9]
          clear h32 h9
          go_wp2_with (first | (go_at_call 26; refine (yBreakWidth_any s _ _ (by omega) (by omega)).mono ?_; rintro e w' ⟨rfl, rfl⟩) | (go_at_call 32; refine (yCharWidth_any _ (UInt8.toNat_lt _) _).mono ?_; rintro e w' ⟨rfl, rfl⟩))
          go_roundg m
          case measure => omega
          case rel => exact ⟨_, HP.out, HBS, rfl, rfl, by rw [HK.out], by go_num, rfl⟩
      · rw [Pl.step_brk hb] at hrest hbs
        dsimp only at hrest hbs
        have tb : (0 : Int) < ((Pl.brk s p : Nat) : Int) := by omega
        clear hb
        have HP := aside_of hrest
        clear hrest
        go_wp2_with (first | (go_at_call 26; refine (yBreakWidth_any s _ _ (by omega) (by omega)).mono ?_; rintro e w' ⟨rfl, rfl⟩))
        go_roundg m
        case measure => omega
        case rel => exact ⟨_, HP.out, hbs, rfl, rfl, rfl, by go_num, rfl⟩

end Go.Proofs.Qxb6601242a
