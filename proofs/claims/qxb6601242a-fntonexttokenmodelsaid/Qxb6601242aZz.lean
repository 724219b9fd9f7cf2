/-
  THE WALK of ZZToNextToken.
-/
import Derived.Test.Qxb6601242aTok
namespace Go.Proofs.Qxb6601242a
open Go.RowKit
set_option linter.unusedVariables false

/-- A scanner in a new block. -/
theorem sc_new (w : World) (s : ByteArray) (p : Nat) (l c : Int) (k : Bool) (fl : Int) (ka : Bool) (x6 x7 x9 x10 x11 x12 x13 : Value) :
    ScT (w.alloc (.cells #[.string s, .int .i64 (p : Int), .int .i64 l, .int .i64 c, .bool k, .int .i64 fl, x6, x7, .bool ka, x9, x10, x11, x12, x13] 42)) w.heap.size s ⟨p, l, c, k⟩ fl ka := by
  refine ⟨?_, ?_, ?_, ?_, ?_, ?_, ?_, ?_, ?_, ?_, ?_, ?_⟩ <;> simp [go_sem]

set_option maxHeartbeats 2000000 in
set_option maxRecDepth 100000 in
theorem zzTok_any (w : World) (s : ByteArray) (p : Nat) (l c : Int) (k : Bool) (fl : Int) (ka : Bool) (hs : s.size ≤ 1048576) (hbd : Pl.Bd s ⟨p, l, c, k⟩) :
    Calls Try.prog 22 #[.string s, .int .i64 (p : Int), .int .i64 l, .int .i64 c, .bool k, .int .i64 fl, .bool ka] w fun e w' =>
      ∃ (u : Pl.St) (k' : Bool), e = .returned (.tuple #[.int .i64 (u.p : Int), .int .i64 u.l, .int .i64 u.c, .bool u.k, .bool k']) ∧ (u.p, k') = Pl.tn s fl (p, ka) ∧ Pl.R s ⟨p, l, c, k⟩ u ∧ Grown w w' := by
  go_enter Try.func22, Try.ntmps22
  go_wp2_with fail
  refine (toNextToken_any _ w.heap.size s ⟨p, l, c, k⟩ fl ka (sc_new w s p l c k fl ka _ _ _ _ _ _ _) hs hbd).mono ?_
  rintro e w1 ⟨rfl, ⟨p', l', c', k'⟩, ka', hS, htn, hR, hO⟩
  have HG : Grown w w1 := Own.grown ((Grown.refl w).alloc _ _) (Nat.le_refl _) hO
  have HTN : Hid ((p', ka') = Pl.tn s fl (p, ka)) := htn
  clear htn hO
  have H : Sc w1 w.heap.size s p' l' c' k' fl ka' := hS
  clear hS
  obtain ⟨c0, c1, c2, c3, c4, c5, c8, f1, f2, f3, f4, f8⟩ := H
  go_wp2
  go_quiet (fail)
  go_wp2
  refine bodyPost_ret (v := .tuple #[.int .i64 (p' : Int), .int .i64 l', .int .i64 c', .bool k', .bool ka']) (by simp [results, Try.results22, go_sem]) rfl ⟨⟨p', l', c', k'⟩, ka', rfl, HTN.out, hR, HG⟩

end Go.Proofs.Qxb6601242a
