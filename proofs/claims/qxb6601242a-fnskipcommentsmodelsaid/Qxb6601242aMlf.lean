/-
  THE WALKS of the law's own leaves: yIsGap, yCharWidth.
-/
import Derived.Test.Qxb6601242aYbw
import Derived.Test.Qxb6601242aRuns
import Derived.Deep.LoopGhost
namespace Go.Proofs.Qxb6601242a
open Go.RowKit
set_option linter.unusedVariables false

theorem aside_of {p : Prop} (h : p) : Aside p := h
theorem ret_bool {a b : Bool} (h : a = b) : Ending.returned (.bool a) = .returned (.bool b) := by rw [h]

set_option maxHeartbeats 1000000 in
theorem yIsGap_any (c : Nat) (w : World) :
    Calls Try.prog 31 #[.int .u8 (c : Int)] w fun e w' => e = .returned (.bool (Pl.gap c)) ∧ w' = w := by
  by_cases h1 : c = 32
  · subst h1
    go_enter Try.func31, Try.ntmps31
    go_wp2
    go_ret
    exact ⟨rfl, rfl⟩
  by_cases h2 : c = 9
  · subst h2
    go_enter Try.func31, Try.ntmps31
    go_wp2
    go_ret
    exact ⟨rfl, rfl⟩
  by_cases h3 : c = 13
  · subst h3
    go_enter Try.func31, Try.ntmps31
    go_wp2
    go_ret
    exact ⟨rfl, rfl⟩
  by_cases h4 : c = 10
  · subst h4
    go_enter Try.func31, Try.ntmps31
    go_wp2
    go_ret
    exact ⟨rfl, rfl⟩
  have hg : Pl.gap c = false := by
    rw [← Bool.not_eq_true, Pl.gap_iff]; omega
  have t1 : ((c : Int) == 32) = false := bf (by omega)
  have t2 : ((c : Int) == 9) = false := bf (by omega)
  have t3 : ((c : Int) == 13) = false := bf (by omega)
  have t4 : ((c : Int) == 10) = false := bf (by omega)
  have HG : Hid (Pl.gap c = false) := hg
  clear hg
  go_enter Try.func31, Try.ntmps31
  go_wp2
  go_ret
  exact ⟨ret_bool HG.out.symm, rfl⟩

set_option maxHeartbeats 1000000 in
theorem yCharWidth_any (c : Nat) (hc : c < 256) (w : World) :
    Calls Try.prog 32 #[.int .u8 (c : Int)] w fun e w' => e = .returned (.int .i64 (Pl.cw c : Nat)) ∧ w' = w := by
  go_enter Try.func32, Try.ntmps32
  go_wp2
  all_goals
    go_ret
    refine ⟨ret_int ?_, rfl⟩
    simp only [beq_iff_eq, beq_eq_false_iff_ne, ne_eq] at *
    unfold Pl.cw
    repeat' split
    all_goals omega

set_option maxHeartbeats 1000000 in
set_option maxRecDepth 100000 in
theorem yLineEnd_any (s : ByteArray) (p : Nat) (w : World) (hs : s.size ≤ 1048576) (hp : p ≤ s.size + 4) :
    Calls Try.prog 30 #[.string s, .int .i64 (p : Int)] w fun e w' => e = .returned (.int .i64 (Pl.le s p : Nat)) ∧ w' = w := by
  go_enter Try.func30, Try.ntmps30
  go_wp2
  go_loopg [1] (s.size + 8 - p) (fun n i wr => ∃ q : Nat, i = .int .i64 (q : Int) ∧ q ≤ s.size + 4 ∧ Pl.le s q = Pl.le s p ∧ wr = w ∧ n = s.size + 8 - q)
  case atStart => exact ⟨p, rfl, hp, rfl, rfl, rfl⟩
  case round =>
    obtain ⟨q, rfl, hq, hle, rfl, hk⟩ := hrel
    have HLE : Hid (Pl.le s q = Pl.le s p) := hle
    have HK : Hid (gk = s.size + 8 - q) := hk
    clear hle hk
    by_cases hlt : q < s.size
    · have EB : Hid (Pl.bat s q = s[q].toNat) := Pl.bat_in hlt
      have hc := Pl.cw_pos s[q].toNat
      by_cases hb : Pl.brk s q = 0
      · have tb : (((Pl.brk s q : Nat) : Int) == 0) = true := bt (by omega)
        have HB : Hid (Pl.brk s q = 0) := hb
        clear hb
        go_wp2_with (first | (go_at_call 26; refine (yBreakWidth_any s _ _ (by omega) (by omega)).mono ?_; rintro e w' ⟨rfl, rfl⟩) | (go_at_call 32; refine (yCharWidth_any _ (UInt8.toNat_lt _) _).mono ?_; rintro e w' ⟨rfl, rfl⟩))
        go_roundg (s.size + 8 - (q + Pl.cw s[q].toNat))
        case measure => have := HK.out; omega
        case rel => exact ⟨q + Pl.cw s[q].toNat, by go_num, by omega, by rw [← HLE.out, Pl.le_step hlt HB.out, EB.out], rfl, rfl⟩
      · have tb : (((Pl.brk s q : Nat) : Int) == 0) = false := bf (by omega)
        have HB : Hid (Pl.brk s q ≠ 0) := hb
        clear hb
        go_wp2_with (first | (go_at_call 26; refine (yBreakWidth_any s _ _ (by omega) (by omega)).mono ?_; rintro e w' ⟨rfl, rfl⟩))
        go_ret
        exact ⟨ret_int (by rw [← HLE.out, Pl.le_stop (fun h => HB.out h.2)]), rfl⟩
    · go_wp2_with fail
      go_ret
      exact ⟨ret_int (by rw [← HLE.out, Pl.le_stop (fun h => hlt h.1)]), rfl⟩

end Go.Proofs.Qxb6601242a
