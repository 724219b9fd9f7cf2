/-
  THE WALK of ZZSkipComments, and of FnSkipCommentsModel inside its bounds.
-/
import Derived.Test.Qxb6601242aZz
import Derived.Test.Qxb6601242aMwk
namespace Go.Proofs.Qxb6601242a
open Go.RowKit
set_option linter.unusedVariables false

set_option maxHeartbeats 2000000 in
set_option maxRecDepth 100000 in
theorem zzCmt_any (w : World) (s : ByteArray) (p : Nat) (l c : Int) (k : Bool) (hs : s.size ≤ 1048576) (hbd : Pl.Bd s ⟨p, l, c, k⟩) :
    Calls Try.prog 17 #[.string s, .int .i64 (p : Int), .int .i64 l, .int .i64 c, .bool k] w fun e w' =>
      ∃ (u : Pl.St), e = .returned (.tuple #[.int .i64 (u.p : Int), .int .i64 u.l, .int .i64 u.c, .bool u.k]) ∧ u.p = Pl.cre s p ∧ Pl.R s ⟨p, l, c, k⟩ u ∧ Grown w w' := by
  go_enter Try.func17, Try.ntmps17
  go_wp2_with fail
  refine (skipComments_any _ w.heap.size s ⟨p, l, c, k⟩ 0 false (sc_new w s p l c k 0 false _ _ _ _ _ _ _) hs hbd).mono ?_
  rintro e w1 ⟨rfl, ⟨p', l', c', k'⟩, hS, hp, hR, hO⟩
  have HG : Grown w w1 := Own.grown ((Grown.refl w).alloc _ _) (Nat.le_refl _) hO
  have HP : Hid (p' = Pl.cre s p) := hp
  clear hp hO
  have H : Sc w1 w.heap.size s p' l' c' k' 0 false := hS
  clear hS
  obtain ⟨c0, c1, c2, c3, c4, c5, c8, f1, f2, f3, f4, f8⟩ := H
  go_wp2
  go_quiet (fail)
  go_wp2
  refine bodyPost_ret (v := .tuple #[.int .i64 (p' : Int), .int .i64 l', .int .i64 c', .bool k']) (by simp [results, Try.results17, go_sem]) rfl ⟨⟨p', l', c', k'⟩, rfl, HP.out, hR, HG⟩

theorem zzb16_yes (s : ByteArray) (p l c : Int) (k : Bool) (w : World) (hs : s.size ≤ 1048576) :
    Calls Try.prog 16 #[.string s, .int .i64 p, .int .i64 l, .int .i64 c, .bool k] w fun e w' => e = .returned (.bool true) ∧ w' = w := by
  go_enter Try.func16, Try.ntmps16
  go_wp2
  go_ret
  exact ⟨rfl, rfl⟩
theorem zzb16_no (s : ByteArray) (p l c : Int) (k : Bool) (w : World) (hs : 1048576 < s.size) :
    Calls Try.prog 16 #[.string s, .int .i64 p, .int .i64 l, .int .i64 c, .bool k] w fun e w' => e = .returned (.bool false) ∧ w' = w := by
  go_enter Try.func16, Try.ntmps16
  go_wp2
  go_ret
  exact ⟨rfl, rfl⟩

theorem beq_int_self (a : Int) : (a == a) = true := beq_iff_eq.2 rfl

set_option maxHeartbeats 2000000 in
set_option maxRecDepth 100000 in
theorem cmt_main (s : ByteArray) (p : Nat) (l c : Int) (k : Bool) (w : World) (hs : s.size ≤ 1048576) (hp : p ≤ s.size)
    (hl0 : 0 ≤ l) (hl1 : l ≤ 1073741824) (hc0 : 0 ≤ c) (hc1 : c ≤ 1073741824) :
    Calls Try.prog 6 #[.string s, .int .i64 (p : Int), .int .i64 l, .int .i64 c, .bool k] w fun e w' => e = .returned (.bool true) ∧ Grown w w' := by
  have hbd : Pl.Bd s ⟨p, l, c, k⟩ := ⟨by show p ≤ _; omega, hl0, by show l ≤ _ + (p : Int); omega, hc0, by show c ≤ _ + (p : Int); omega⟩
  go_enter Try.func6, Try.ntmps6
  go_wp2_with (go_at_call 16; refine (zzb16_yes _ _ _ _ _ _ hs).mono ?_; rintro e w' ⟨rfl, rfl⟩)
  refine (zzCmt_any _ s p l c k hs hbd).mono ?_
  rintro e w1 ⟨⟨p', l', c', k'⟩, rfl, hp', hR, hG⟩
  have HP : Hid (Pl.cre s p = p') := hp'.symm
  obtain ⟨n, hpath⟩ := hR.path
  have hub := hR.bd
  clear hp' hR
  go_wp2_with fail
  refine (yCommentRunEnd_any s p _ hs (by omega)).mono ?_
  rintro e w2 ⟨rfl, rfl⟩
  rw [HP.out]
  go_wp2_with fail
  refine (yWalk_any s n ⟨p, l, c, k⟩ ⟨p', l', c', k'⟩ _ hs hpath hbd hub).mono ?_
  rintro e w3 ⟨rfl, rfl⟩
  clear hpath hbd hub
  cases k'
  all_goals
    go_wp2_with fail
    go_ret
    exact ⟨rfl, hG⟩

end Go.Proofs.Qxb6601242a
