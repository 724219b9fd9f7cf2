/-
  THE WALK of FnPlainjsonStrExact inside its bounds.
-/
import Derived.Test.Qxb6601645aStr2
import Derived.Test.Qxb6601645aMod
namespace Go.Proofs.Qxb6601645a
open Go.RowKit
set_option linter.unusedVariables false

theorem zzb8_yes (s : ByteArray) (i : Int) (ok : Bool) (d : Int) (w : World) (hs : s.size ≤ 1048576) :
    Calls Try.prog 8 #[.string s, .int .i64 i, .bool ok, .int .i64 d] w fun e w' => e = .returned (.bool true) ∧ w' = w := by
  go_enter Try.func8, Try.ntmps8
  go_wp2
  go_ret
  exact ⟨rfl, rfl⟩
theorem zzb8_no (s : ByteArray) (i : Int) (ok : Bool) (d : Int) (w : World) (hs : 1048576 < s.size) :
    Calls Try.prog 8 #[.string s, .int .i64 i, .bool ok, .int .i64 d] w fun e w' => e = .returned (.bool false) ∧ w' = w := by
  go_enter Try.func8, Try.ntmps8
  go_wp2
  go_ret
  exact ⟨rfl, rfl⟩

set_option maxHeartbeats 1000000 in
set_option maxRecDepth 100000 in
theorem exact_main (s : ByteArray) (i : Nat) (ok : Bool) (d : Int) (w : World) (hs : s.size ≤ 1048576) (hi : i ≤ s.size) :
    Calls Try.prog 3 #[.string s, .int .i64 (i : Int), .bool ok, .int .i64 d] w fun e w' => e = .returned (.bool true) ∧ Grown w w' := by
  go_enter Try.func3, Try.ntmps3
  go_wp2_with (go_at_call 8; refine (zzb8_yes _ _ _ _ _ hs).mono ?_; rintro e w' ⟨rfl, rfl⟩)
  refine (zzStr_any _ s i ok d (by omega) hi).mono ?_
  rintro e w1 ⟨rfl, hG⟩
  go_wp2_with fail
  refine (model_any s i ok _ (by omega) hi).mono ?_
  rintro e w2 ⟨rfl, rfl⟩
  generalize Pl.res s i ok = r
  obtain ⟨v, p, o⟩ := r
  dsimp only
  cases o
  all_goals
    go_wp2_with fail
    go_ret
    exact ⟨rfl, hG⟩

end Go.Proofs.Qxb6601645a
