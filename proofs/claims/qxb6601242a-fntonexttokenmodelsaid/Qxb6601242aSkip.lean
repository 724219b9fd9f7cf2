/-
  THE WALKS of skip and skipBreak.
-/
import Derived.Test.Qxb6601242aMem
import Derived.Deep.RegionWith
namespace Go.Proofs.Qxb6601242a
open Go.RowKit
set_option linter.unusedVariables false

set_option maxHeartbeats 1000000 in
set_option maxRecDepth 100000 in
theorem skip_A (w : World) (b : Nat) (s : ByteArray) (p : Nat) (l c : Int) (k : Bool) (fl : Int) (ka : Bool) (hsc : Sc w b s p l c k fl ka)
    (hs : s.size ≤ 140737488351232) (hp : p < s.size) (hc0 : 0 ≤ c) (hc1 : c ≤ 4611686018427387904)
    (t : (s[p].toNat : Int) < 128) (t1 : ((s[p].toNat : Int) != 32) = false) :
    Calls Try.prog 40 #[.pointer (some ⟨b, 0, none⟩)] w fun e w' => e = .returned (.tuple #[]) ∧ Sc w' b s (p + 1) l (c + 1) k fl ka ∧ Own b w w' := by
  have H := hsc
  obtain ⟨c0, c1, c2, c3, c4, c5, c8, f1, f2, f3, f4, f8⟩ := hsc
  go_enter Try.func40, Try.ntmps40
  go_wp2
  go_quiet (fail)
  go_wp2
  go_end0
  exact ⟨rfl, ((H.drewN nq).setP (p + 1) (by omega)).setC _, (((Own.refl b w).drewN nq).setCell 1 _).setCell 3 _⟩

set_option maxHeartbeats 1000000 in
set_option maxRecDepth 100000 in
theorem skip_B (w : World) (b : Nat) (s : ByteArray) (p : Nat) (l c : Int) (k : Bool) (fl : Int) (ka : Bool) (hsc : Sc w b s p l c k fl ka)
    (hs : s.size ≤ 140737488351232) (hp : p < s.size) (hc0 : 0 ≤ c) (hc1 : c ≤ 4611686018427387904)
    (t : (s[p].toNat : Int) < 128) (t1 : ((s[p].toNat : Int) != 32) = true) (t2 : ((s[p].toNat : Int) != 9) = false) :
    Calls Try.prog 40 #[.pointer (some ⟨b, 0, none⟩)] w fun e w' => e = .returned (.tuple #[]) ∧ Sc w' b s (p + 1) l (c + 1) k fl ka ∧ Own b w w' := by
  have H := hsc
  obtain ⟨c0, c1, c2, c3, c4, c5, c8, f1, f2, f3, f4, f8⟩ := hsc
  go_enter Try.func40, Try.ntmps40
  go_wp2
  go_quiet (fail)
  go_wp2
  go_end0
  exact ⟨rfl, ((H.drewN nq).setP (p + 1) (by omega)).setC _, (((Own.refl b w).drewN nq).setCell 1 _).setCell 3 _⟩

set_option maxHeartbeats 1000000 in
set_option maxRecDepth 100000 in
theorem skip_C (w : World) (b : Nat) (s : ByteArray) (p : Nat) (l c : Int) (k : Bool) (fl : Int) (ka : Bool) (hsc : Sc w b s p l c k fl ka)
    (hs : s.size ≤ 140737488351232) (hp : p < s.size) (hc0 : 0 ≤ c) (hc1 : c ≤ 4611686018427387904)
    (t : (s[p].toNat : Int) < 128) (t1 : ((s[p].toNat : Int) != 32) = true) (t2 : ((s[p].toNat : Int) != 9) = true) :
    Calls Try.prog 40 #[.pointer (some ⟨b, 0, none⟩)] w fun e w' => e = .returned (.tuple #[]) ∧ Sc w' b s (p + 1) l (c + 1) false fl ka ∧ Own b w w' := by
  have H := hsc
  obtain ⟨c0, c1, c2, c3, c4, c5, c8, f1, f2, f3, f4, f8⟩ := hsc
  go_enter Try.func40, Try.ntmps40
  go_wp2
  go_quiet (fail)
  go_wp2
  go_end0
  exact ⟨rfl, (((H.drewN nq).setP (p + 1) (by omega)).setC _).setK _, ((((Own.refl b w).drewN nq).setCell 1 _).setCell 3 _).setCell 4 _⟩

set_option maxHeartbeats 1000000 in
set_option maxRecDepth 100000 in
theorem skip_D (w : World) (b : Nat) (s : ByteArray) (p : Nat) (l c : Int) (k : Bool) (fl : Int) (ka : Bool) (hsc : Sc w b s p l c k fl ka)
    (hs : s.size ≤ 140737488351232) (hp : p < s.size) (hc0 : 0 ≤ c) (hc1 : c ≤ 4611686018427387904)
    (t : 240 ≤ (s[p].toNat : Int)) (t1 : ((s[p].toNat : Int) != 32) = true) (t2 : ((s[p].toNat : Int) != 9) = true) :
    Calls Try.prog 40 #[.pointer (some ⟨b, 0, none⟩)] w fun e w' => e = .returned (.tuple #[]) ∧ Sc w' b s (p + 4) l (c + 1) false fl ka ∧ Own b w w' := by
  have H := hsc
  obtain ⟨c0, c1, c2, c3, c4, c5, c8, f1, f2, f3, f4, f8⟩ := hsc
  go_enter Try.func40, Try.ntmps40
  go_wp2
  go_quiet (fail)
  go_wp2
  go_end0
  exact ⟨rfl, (((H.drewN nq).setP (p + 4) (by omega)).setC _).setK _, ((((Own.refl b w).drewN nq).setCell 1 _).setCell 3 _).setCell 4 _⟩

set_option maxHeartbeats 1000000 in
set_option maxRecDepth 100000 in
theorem skip_E (w : World) (b : Nat) (s : ByteArray) (p : Nat) (l c : Int) (k : Bool) (fl : Int) (ka : Bool) (hsc : Sc w b s p l c k fl ka)
    (hs : s.size ≤ 140737488351232) (hp : p < s.size) (hc0 : 0 ≤ c) (hc1 : c ≤ 4611686018427387904)
    (t : 224 ≤ (s[p].toNat : Int)) (t0 : (s[p].toNat : Int) < 240) (t1 : ((s[p].toNat : Int) != 32) = true) (t2 : ((s[p].toNat : Int) != 9) = true) :
    Calls Try.prog 40 #[.pointer (some ⟨b, 0, none⟩)] w fun e w' => e = .returned (.tuple #[]) ∧ Sc w' b s (p + 3) l (c + 1) false fl ka ∧ Own b w w' := by
  have H := hsc
  obtain ⟨c0, c1, c2, c3, c4, c5, c8, f1, f2, f3, f4, f8⟩ := hsc
  go_enter Try.func40, Try.ntmps40
  go_wp2
  go_quiet (fail)
  go_wp2
  go_end0
  exact ⟨rfl, (((H.drewN nq).setP (p + 3) (by omega)).setC _).setK _, ((((Own.refl b w).drewN nq).setCell 1 _).setCell 3 _).setCell 4 _⟩

set_option maxHeartbeats 1000000 in
set_option maxRecDepth 100000 in
theorem skip_F (w : World) (b : Nat) (s : ByteArray) (p : Nat) (l c : Int) (k : Bool) (fl : Int) (ka : Bool) (hsc : Sc w b s p l c k fl ka)
    (hs : s.size ≤ 140737488351232) (hp : p < s.size) (hc0 : 0 ≤ c) (hc1 : c ≤ 4611686018427387904)
    (t : 128 ≤ (s[p].toNat : Int)) (t0 : (s[p].toNat : Int) < 224) (t1 : ((s[p].toNat : Int) != 32) = true) (t2 : ((s[p].toNat : Int) != 9) = true) :
    Calls Try.prog 40 #[.pointer (some ⟨b, 0, none⟩)] w fun e w' => e = .returned (.tuple #[]) ∧ Sc w' b s (p + 2) l (c + 1) false fl ka ∧ Own b w w' := by
  have H := hsc
  obtain ⟨c0, c1, c2, c3, c4, c5, c8, f1, f2, f3, f4, f8⟩ := hsc
  go_enter Try.func40, Try.ntmps40
  go_wp2
  go_quiet (fail)
  go_wp2
  go_end0
  exact ⟨rfl, (((H.drewN nq).setP (p + 2) (by omega)).setC _).setK _, ((((Own.refl b w).drewN nq).setCell 1 _).setCell 3 _).setCell 4 _⟩

theorem bt {a k : Int} (h : a = k) : (a == k) = true := beq_iff_eq.2 h
theorem bf {a k : Int} (h : ¬ a = k) : (a == k) = false := beq_eq_false_iff_ne.2 h
theorem nt {a k : Int} (h : ¬ a = k) : (a != k) = true := bne_iff_ne.2 h
theorem nf {a k : Int} (h : a = k) : (a != k) = false := by rw [h]; simp

theorem skip_any (w : World) (b : Nat) (s : ByteArray) (p : Nat) (l c : Int) (k : Bool) (fl : Int) (ka : Bool) (hsc : Sc w b s p l c k fl ka)
    (hs : s.size ≤ 140737488351232) (hp : p < s.size) (hc0 : 0 ≤ c) (hc1 : c ≤ 4611686018427387904) :
    Calls Try.prog 40 #[.pointer (some ⟨b, 0, none⟩)] w fun e w' => e = .returned (.tuple #[]) ∧ Sc w' b s (p + Pl.cw (Pl.bat s p)) l (c + 1) (Pl.kp (Pl.bat s p) k) fl ka ∧ Own b w w' := by
  have E := Pl.bat_in hp
  by_cases a : s[p].toNat = 32
  · rw [show Pl.cw (Pl.bat s p) = 1 by rw [E, a]; rfl, show Pl.kp (Pl.bat s p) k = k by rw [E, a]; rfl]
    exact skip_A w b s p l c k fl ka hsc hs hp hc0 hc1 (by omega) (nf (by omega))
  by_cases a2 : s[p].toNat = 9
  · rw [show Pl.cw (Pl.bat s p) = 1 by rw [E, a2]; rfl, show Pl.kp (Pl.bat s p) k = k by rw [E, a2]; rfl]
    exact skip_B w b s p l c k fl ka hsc hs hp hc0 hc1 (by omega) (nt (by omega)) (nf (by omega))
  rw [show Pl.kp (Pl.bat s p) k = false by rw [E]; unfold Pl.kp; rw [if_neg a, if_neg a2]]
  by_cases d1 : s[p].toNat < 128
  · rw [show Pl.cw (Pl.bat s p) = 1 by rw [E]; unfold Pl.cw; rw [if_pos d1]]
    exact skip_C w b s p l c k fl ka hsc hs hp hc0 hc1 (by omega) (nt (by omega)) (nt (by omega))
  by_cases d2 : 240 ≤ s[p].toNat
  · rw [show Pl.cw (Pl.bat s p) = 4 by rw [E]; unfold Pl.cw; rw [if_neg d1, if_pos d2]]
    exact skip_D w b s p l c k fl ka hsc hs hp hc0 hc1 (by omega) (nt (by omega)) (nt (by omega))
  by_cases d3 : 224 ≤ s[p].toNat
  · rw [show Pl.cw (Pl.bat s p) = 3 by rw [E]; unfold Pl.cw; rw [if_neg d1, if_neg d2, if_pos d3]]
    exact skip_E w b s p l c k fl ka hsc hs hp hc0 hc1 (by omega) (by omega) (nt (by omega)) (nt (by omega))
  · rw [show Pl.cw (Pl.bat s p) = 2 by rw [E]; unfold Pl.cw; rw [if_neg d1, if_neg d2, if_neg d3]]
    exact skip_F w b s p l c k fl ka hsc hs hp hc0 hc1 (by omega) (by omega) (nt (by omega)) (nt (by omega))

set_option maxHeartbeats 1000000 in
set_option maxRecDepth 100000 in
theorem skipBreak_any (w : World) (b : Nat) (s : ByteArray) (p : Nat) (l c : Int) (k : Bool) (fl : Int) (ka : Bool) (hsc : Sc w b s p l c k fl ka)
    (hs : s.size ≤ 140737488351232) (hp : p ≤ 281474976710656) (hl0 : 0 ≤ l) (hl1 : l ≤ 4611686018427387904) :
    Calls Try.prog 39 #[.pointer (some ⟨b, 0, none⟩)] w fun e w' => e = .returned (.tuple #[]) ∧ Sc w' b s (p + Pl.brk s p) (l + 1) 0 true fl ka ∧ Own b w w' := by
  have H := hsc
  have hb3 := Pl.brk_le s p
  obtain ⟨c0, c1, c2, c3, c4, c5, c8, f1, f2, f3, f4, f8⟩ := hsc
  go_enter Try.func39, Try.ntmps39
  go_wp2
  go_region_with (go_at_call 38; refine (breakAt_any s b _ _ (by unfold maxLen; omega) (by omega) (by omega) (by assumption)).mono ?_; rintro e w' ⟨rfl, rfl⟩)
  all_goals
    go_wp2
    go_end0
    exact ⟨rfl, ((((H.setP (p + Pl.brk s p) (by omega)).setL _).setC _).setK _).drew, (((((Own.refl b w).setCell 1 _).setCell 2 _).setCell 3 _).setCell 4 _).drew⟩

end Go.Proofs.Qxb6601242a
