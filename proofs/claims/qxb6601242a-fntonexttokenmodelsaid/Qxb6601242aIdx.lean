/-
  THE WALK of strings.IndexByte at the constant of the four gap bytes.
-/
import Derived.Test.Qxb6601242aLeaf
import Derived.Test.Qxb6601242aRuns
import Derived.Lib.Bytealg
namespace Go.Proofs.Qxb6601242a
open Go.RowKit
set_option linter.unusedVariables false

/-- The place of the byte c among space, tab, CR, LF. -/
def gi (c : Nat) : Int := if c = 32 then 0 else if c = 9 then 1 else if c = 13 then 2 else if c = 10 then 3 else -1
theorem gi_yes {c : Nat} (h : Pl.gap c = true) : 0 ≤ gi c := by
  rcases (Pl.gap_iff c).1 h with h | h | h | h <;> subst h <;> decide
theorem gi_no {c : Nat} (h : Pl.gap c = false) : gi c < 0 := by
  have h' : ¬ (c = 32 ∨ c = 9 ∨ c = 13 ∨ c = 10) := by rw [← Pl.gap_iff, h]; decide
  unfold gi
  repeat' split
  all_goals omega

theorem idx_eq (c : Nat) (hc : c < 256) : Lib.indexByte [32, 9, 13, 10] (c : Int).toNat.toUInt8 = gi c := by
  have key : ∀ c : Fin 256, Lib.indexByte [32, 9, 13, 10] c.1.toUInt8 = gi c.1 := by decide +kernel
  exact key ⟨c, hc⟩

set_option maxHeartbeats 1000000 in
set_option maxRecDepth 100000 in
theorem slIdx_any (s : ByteArray) (c : Int) (w : World) :
    Calls Try.prog 41 #[.string s, .int .u8 c] w fun e w' => e = .returned (.int .i64 (Lib.indexByte s.data.toList c.toNat.toUInt8)) ∧ w' = w := by
  go_enter Try.func41, Try.ntmps41
  go_wp2
  rw [run_callFunc_extern Try.func42 (by kernel_rfl) (by kernel_rfl) (by kernel_rfl) (e := Extern.BytealgIndexByte.indexByte) (by kernel_rfl), Lib.run_indexByteString]
  simp only [Result.andThen]
  rw [Oper.upon_value]
  go_wp2
  go_ret
  exact ⟨rfl, rfl⟩

set_option maxHeartbeats 1000000 in
theorem idx_any (s : ByteArray) (c : Int) (w : World) :
    Calls Try.prog 36 #[.string s, .int .u8 c] w fun e w' => e = .returned (.int .i64 (Lib.indexByte s.data.toList c.toNat.toUInt8)) ∧ w' = w := by
  go_enter Try.func36, Try.ntmps36
  go_wp2_with (go_at_call 41; refine (slIdx_any _ _ _).mono ?_; rintro e w' ⟨rfl, rfl⟩)
  go_ret
  exact ⟨rfl, rfl⟩

theorem gapIdx_any (c : Nat) (hc : c < 256) (w : World) :
    Calls Try.prog 36 #[.string { data := #[32, 9, 13, 10] }, .int .u8 (c : Int)] w fun e w' => e = .returned (.int .i64 (gi c)) ∧ w' = w :=
  (idx_any _ _ w).mono fun e w' ⟨he, hw⟩ => ⟨he.trans (ret_int (idx_eq c hc)), hw⟩

end Go.Proofs.Qxb6601242a
