/-
  THE LEAVES' WALKS: byteAt, breakAt, yBreakWidth.
-/
import Derived.Test.Qxb6601242aRows
import Derived.Test.Qxb6601242aPlain
import Derived.WalkKit
import Derived.WalkSpells
import Derived.BigQuiet
namespace Go.Proofs.Qxb6601242a
open Go.RowKit
set_option linter.unusedVariables false

theorem ret_int {k : IntKind} {a b : Int} (h : a = b) : Ending.returned (.int k a) = .returned (.int k b) := by rw [h]

set_option maxHeartbeats 400000 in
theorem byteAt_any (s : ByteArray) (b : Nat) (p : Int) (w : World) (hs : s.size ≤ maxLen) (h0 : 0 ≤ p) (hc : w.cell? ⟨b, 0, none⟩ = some (.string s)) :
    Calls Try.prog 37 #[.pointer (some ⟨b, 0, none⟩), .int .i64 p] w fun e w' => e = .returned (.int .u8 (Pl.bat s p.toNat)) ∧ w' = w := by
  unfold maxLen at hs
  obtain ⟨n, rfl⟩ := Int.eq_ofNat_of_zero_le h0
  rw [Int.toNat_natCast]
  by_cases hlt : n < s.size
  · have e := Pl.bat_in hlt
    have E : Hid (Pl.bat s n = s[n].toNat) := e
    clear e
    go_enter Try.func37, Try.ntmps37
    go_wp2
    go_ret
    exact ⟨ret_int (by rw [E.out]), rfl⟩
  · have E : Hid (Pl.bat s n = 0) := Pl.bat_out (by omega)
    go_enter Try.func37, Try.ntmps37
    go_wp2
    go_ret
    exact ⟨ret_int (by rw [E.out]; rfl), rfl⟩


set_option maxHeartbeats 1000000 in
theorem breakAt_any (s : ByteArray) (b : Nat) (p : Int) (w : World) (hs : s.size ≤ maxLen) (h0 : 0 ≤ p) (h1 : p ≤ 4611686018427387904) (hc : w.cell? ⟨b, 0, none⟩ = some (.string s)) :
    Calls Try.prog 38 #[.pointer (some ⟨b, 0, none⟩), .int .i64 p] w fun e w' => e = .returned (.int .i64 (Pl.brk s p.toNat)) ∧ w' = w := by
  obtain ⟨n, rfl⟩ := Int.eq_ofNat_of_zero_le h0
  rw [Int.toNat_natCast]
  go_enter Try.func38, Try.ntmps38
  go_wp2_with (go_at_call 37; refine (byteAt_any s b _ _ hs (by omega) (by assumption)).mono ?_; rintro e w' ⟨rfl, rfl⟩)
  all_goals
    go_ret
    refine ⟨ret_int ?_, rfl⟩
    simp only [beq_iff_eq, beq_eq_false_iff_ne, ne_eq] at *
    unfold Pl.brk
    repeat' split
    all_goals omega

end Go.Proofs.Qxb6601242a
