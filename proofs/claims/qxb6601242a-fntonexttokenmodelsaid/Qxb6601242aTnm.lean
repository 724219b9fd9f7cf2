/-
  THE WALK of FnToNextTokenModel inside its bounds.
-/
import Derived.Test.Qxb6601242aZz
import Derived.Test.Qxb6601242aMtn
namespace Go.Proofs.Qxb6601242a
open Go.RowKit
set_option linter.unusedVariables false

theorem zzb21_yes (s : ByteArray) (p l c : Int) (k : Bool) (fl : Int) (ka : Bool) (w : World) (hs : s.size ≤ 1048576) :
    Calls Try.prog 21 #[.string s, .int .i64 p, .int .i64 l, .int .i64 c, .bool k, .int .i64 fl, .bool ka] w fun e w' => e = .returned (.bool true) ∧ w' = w := by
  go_enter Try.func21, Try.ntmps21
  go_wp2
  go_ret
  exact ⟨rfl, rfl⟩
theorem zzb21_no (s : ByteArray) (p l c : Int) (k : Bool) (fl : Int) (ka : Bool) (w : World) (hs : 1048576 < s.size) :
    Calls Try.prog 21 #[.string s, .int .i64 p, .int .i64 l, .int .i64 c, .bool k, .int .i64 fl, .bool ka] w fun e w' => e = .returned (.bool false) ∧ w' = w := by
  go_enter Try.func21, Try.ntmps21
  go_wp2
  go_ret
  exact ⟨rfl, rfl⟩

set_option maxHeartbeats 2000000 in
set_option maxRecDepth 100000 in
theorem tok_main (s : ByteArray) (p : Nat) (l c : Int) (k : Bool) (fl : Int) (ka : Bool) (w : World) (hs : s.size ≤ 1048576) (hp : p ≤ s.size)
    (hl0 : 0 ≤ l) (hl1 : l ≤ 1073741824) (hc0 : 0 ≤ c) (hc1 : c ≤ 1073741824) :
    Calls Try.prog 8 #[.string s, .int .i64 (p : Int), .int .i64 l, .int .i64 c, .bool k, .int .i64 fl, .bool ka] w fun e w' => e = .returned (.bool true) ∧ Grown w w' := by
  have hbd : Pl.Bd s ⟨p, l, c, k⟩ := ⟨by show p ≤ _; omega, hl0, by show l ≤ _ + (p : Int); omega, hc0, by show c ≤ _ + (p : Int); omega⟩
  go_enter Try.func8, Try.ntmps8
  go_wp2_with (go_at_call 21; refine (zzb21_yes _ _ _ _ _ _ _ _ hs).mono ?_; rintro e w' ⟨rfl, rfl⟩)
  refine (zzTok_any _ s p l c k fl ka hs hbd).mono ?_
  rintro e w1 ⟨⟨p', l', c', k'⟩, ka', rfl, htn, hR, hG⟩
  have HTN : Hid (Pl.tn s fl (p, ka) = (p', ka')) := htn.symm
  obtain ⟨n, hpath⟩ := hR.path
  have hub := hR.bd
  clear htn hR
  go_wp2_with fail
  refine (yToNext_any s p fl ka _ hs (by omega)).mono ?_
  rintro e w2 ⟨rfl, rfl⟩
  rw [HTN.out]
  dsimp only
  go_wp2_with fail
  refine (yWalk_any s n ⟨p, l, c, k⟩ ⟨p', l', c', k'⟩ _ hs hpath hbd hub).mono ?_
  rintro e w3 ⟨rfl, rfl⟩
  clear hpath hbd hub
  cases k'
  all_goals
    cases ka'
    all_goals
      go_wp2_with fail
      go_ret
      exact ⟨rfl, hG⟩

end Go.Proofs.Qxb6601242a
