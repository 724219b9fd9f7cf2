/-
  THE HEADER'S PARSER IN MEMORY; the walks of next, isTokenChar, token.
-/
import Derived.Test.Qxb6601748aBld
import Derived.Test.Qxb6601748aPlain
namespace Go.Proofs.Qxb6601748a
open Go.RowKit
set_option linter.unusedVariables false

theorem ret_int {k : IntKind} {a b : Int} (h : a = b) : Ending.returned (.int k a) = .returned (.int k b) := by rw [h]
theorem ret_bool {a b : Bool} (h : a = b) : Ending.returned (.bool a) = .returned (.bool b) := by rw [h]
theorem ret_str {a b : ByteArray} (h : a = b) : Ending.returned (.string a) = .returned (.string b) := by rw [h]
theorem bt {a k : Int} (h : a = k) : (a == k) = true := beq_iff_eq.2 h
theorem bf {a k : Int} (h : ¬ a = k) : (a == k) = false := beq_eq_false_iff_ne.2 h
theorem nt {a k : Int} (h : ¬ a = k) : (a != k) = true := bne_iff_ne.2 h
theorem nf {a k : Int} (h : a = k) : (a != k) = false := by rw [h]; simp

/-- Block b holds a parser at p. -/
structure Hp (w : World) (b : Nat) (s : ByteArray) (p : Nat) : Prop where
  c0 : w.cell? ⟨b, 0, none⟩ = some (.string s)
  c1 : w.cell? ⟨b, 1, none⟩ = some (.int .i64 (p : Int))
  f1 : w.frozen? ⟨b, 1, none⟩ = false

theorem Hp.drewN {w : World} {b : Nat} {s : ByteArray} {p : Nat} (h : Hp w b s p) (n : Nat) : Hp (w.drewN n) b s p := ⟨h.c0, h.c1, h.f1⟩
theorem Hp.drew {w : World} {b : Nat} {s : ByteArray} {p : Nat} (h : Hp w b s p) : Hp w.drew b s p := ⟨h.c0, h.c1, h.f1⟩
theorem Hp.setP {w : World} {b : Nat} {s : ByteArray} {p : Nat} (h : Hp w b s p) (q : Nat) {z : Int} (hz : z = (q : Int)) : Hp (w.setCell ⟨b, 1, none⟩ (.int .i64 z)) b s q := by
  subst hz
  exact ⟨(World.cell?_setCell_other _ _ _ _ (fun e => by injection e with _ e; cases e)).trans h.c0, World.cell?_setCell_same _ _ _ h.c1, (World.frozen?_setCell _ _ _ _).trans h.f1⟩
theorem Hp.below {w w' : World} {b B : Nat} {s : ByteArray} {p : Nat} (h : Hp w b s p) (hb : Below B w w') (hB : b < B) : Hp w' b s p :=
  ⟨(hb.cell (p := ⟨b, 0, none⟩) hB).trans h.c0, (hb.cell (p := ⟨b, 1, none⟩) hB).trans h.c1, (hb.frozen (p := ⟨b, 1, none⟩) hB).trans h.f1⟩
theorem below_drewN {B : Nat} {a w : World} (h : Below B a w) (n : Nat) : Below B a (w.drewN n) := ⟨h.os, h.tape, h.output, h.size, h.block⟩

set_option maxHeartbeats 1000000 in
set_option maxRecDepth 100000 in
theorem next_yes (w : World) (b : Nat) (s : ByteArray) (p : Nat) (hh : Hp w b s p) (hs : s.size ≤ 1048576) (hp : p < s.size) (hq : s[p].toNat = 34) :
    Calls Try.prog 28 #[.pointer (some ⟨b, 0, none⟩), .int .u8 34] w fun e w' => e = .returned (.bool true) ∧ Hp w' b s (p + 1) ∧ Below b w w' := by
  have t1 : ((s[p].toNat : Int) == 34) = true := bt (by omega)
  obtain ⟨c0, c1, f1⟩ := hh
  have H : Hp w b s p := ⟨c0, c1, f1⟩
  clear hq
  go_enter Try.func28, Try.ntmps28
  go_wp2
  go_quiet (fail)
  go_wp2
  go_ret
  exact ⟨rfl, (H.drewN _).setP (p + 1) (by omega), (below_drewN (Below.refl b w) _).setCell (p := ⟨b, 1, none⟩) (Nat.le_refl _) _⟩

set_option maxHeartbeats 1000000 in
set_option maxRecDepth 100000 in
theorem next_no (w : World) (b : Nat) (s : ByteArray) (p : Nat) (hh : Hp w b s p) (hs : s.size ≤ 1048576) (hq : Aside (¬ (p < s.size ∧ Pl.bu s p = 34))) :
    Calls Try.prog 28 #[.pointer (some ⟨b, 0, none⟩), .int .u8 34] w fun e w' => e = .returned (.bool false) ∧ Hp w' b s p ∧ Below b w w' := by
  obtain ⟨c0, c1, f1⟩ := hh
  have H : Hp w b s p := ⟨c0, c1, f1⟩
  by_cases hp : p < s.size
  · have hne : ¬ s[p].toNat = 34 := fun e => hq.out ⟨hp, by rw [Pl.bu_in hp]; exact UInt8.toNat_inj.1 e⟩
    have t1 : ((s[p].toNat : Int) == 34) = false := bf (by omega)
    clear hne
    go_enter Try.func28, Try.ntmps28
    go_wp2
    go_quiet (fail)
    go_wp2
    go_ret
    exact ⟨rfl, H.drewN _, below_drewN (Below.refl b w) _⟩
  · have hd : decide (p < s.size) = false := by simpa using hp
    go_enter Try.func28, Try.ntmps28
    go_wp2
    go_quiet (fail)
    go_wp2
    go_ret
    exact ⟨rfl, H.drewN _, below_drewN (Below.refl b w) _⟩

set_option maxHeartbeats 1000000 in
set_option maxRecDepth 100000 in
theorem isTokenChar_any (c : Nat) (hc : c < 256) (w : World) :
    Calls Try.prog 33 #[.int .u8 (c : Int)] w fun e w' => e = .returned (.bool (Pl.tk c)) ∧ w' = w := by
  by_cases h1 : c ≤ 32
  · have HT : Hid (Pl.tk c = false) := Pl.tk_low c h1
    have t1 : ¬ (32 : Int) < (c : Int) := by omega
    go_enter Try.func33, Try.ntmps33
    go_wp2_with fail
    go_ret
    exact ⟨ret_bool HT.out.symm, rfl⟩
  by_cases h2 : 127 ≤ c
  · have HT : Hid (Pl.tk c = false) := Pl.tk_high c h2 hc
    have t1 : (32 : Int) < (c : Int) := by omega
    have t2 : ¬ (c : Int) < 127 := by omega
    go_enter Try.func33, Try.ntmps33
    go_wp2_with fail
    go_ret
    exact ⟨ret_bool HT.out.symm, rfl⟩
  have HT := Pl.tk_sep c (by omega) (by omega)
  have HTH : Hid (Pl.tk c = !(decide (0 ≤ Lib.indexByte [34, 40, 41, 44, 47, 58, 59, 60, 61, 62, 63, 64, 91, 92, 93, 123, 125] c.toUInt8))) := HT
  clear HT
  have t1 : (32 : Int) < (c : Int) := by omega
  have t2 : (c : Int) < 127 := by omega
  go_enter Try.func33, Try.ntmps33
  go_wp2_with fail
  refine (Try.strings_ContainsRune_ascii _ (c : Int) _ (by omega) (by omega)).mono ?_
  rintro e w' ⟨rfl, rfl⟩
  go_wp2_with fail
  go_ret
  refine ⟨ret_bool ?_, rfl⟩
  rw [HTH.out]

set_option maxHeartbeats 1000000 in
set_option maxRecDepth 100000 in
theorem token_any (w : World) (b : Nat) (s : ByteArray) (p : Nat) (hh : Hp w b s p) (hs : s.size ≤ 1048576) (hp : p ≤ s.size) :
    Calls Try.prog 29 #[.pointer (some ⟨b, 0, none⟩)] w fun e w' => e = .returned (.string (s.extract p (Pl.tend s p))) ∧ Hp w' b s (Pl.tend s p) ∧ Below b w w' := by
  obtain ⟨c0, c1, f1⟩ := hh
  have H0 : Hp w b s p := ⟨c0, c1, f1⟩
  go_enter Try.func29, Try.ntmps29
  go_wp2
  go_loopg [] (s.size + 8 - p) (fun n wr => ∃ q, Hp wr b s q ∧ p ≤ q ∧ q ≤ s.size ∧ Pl.tend s q = Pl.tend s p ∧ Below b w wr ∧ n = s.size + 8 - q)
  case atStart => exact ⟨p, H0, Nat.le_refl _, hp, rfl, Below.refl b w, rfl⟩
  case round =>
    obtain ⟨q, hq, hpq, hqs, hte, hbe, hk⟩ := hrel
    have HTE : Hid (Pl.tend s q = Pl.tend s p) := hte
    have HK : Hid (gk = s.size + 8 - q) := hk
    clear hte hk H0 c0 c1 f1
    obtain ⟨c0, c1, f1⟩ := hq
    have H : Hp wr b s q := ⟨c0, c1, f1⟩
    by_cases hlt : q < s.size
    · have EB : Hid (Pl.bu s q = s[q]) := Pl.bu_in hlt
      cases htk : Pl.tk s[q].toNat with
      | true =>
        go_wp2
        go_quiet ((go_at_call 33; exact Calls.quiet_of_same (isTokenChar_any _ (UInt8.toNat_lt _) _)))
        go_wp2
        go_roundg (s.size + 8 - (q + 1))
        case measure => have := HK.out; omega
        case rel => exact ⟨q + 1, (H.drewN _).setP (q + 1) (by omega), by omega, by omega, by rw [← HTE.out]; exact (Pl.tend_step hlt (by rw [EB.out]; exact htk)).symm, (below_drewN hbe _).setCell (p := ⟨b, 1, none⟩) (Nat.le_refl _) _, rfl⟩
      | false =>
        have HST : Hid (Pl.tend s q = q) := Pl.tend_stop (fun h => by have := h.2; rw [EB.out, htk] at this; cases this)
        go_wp2
        go_quiet ((go_at_call 33; exact Calls.quiet_of_same (isTokenChar_any _ (UInt8.toNat_lt _) _)))
        go_wp2
        go_quiet (fail)
        go_wp2
        go_ret
        rw [← HTE.out, HST.out]
        exact ⟨rfl, (H.drewN _).drewN _, below_drewN (below_drewN hbe _) _⟩
    · have hd : decide (q < s.size) = false := by simpa using hlt
      have HST : Hid (Pl.tend s q = q) := Pl.tend_stop (fun h => hlt h.1)
      go_wp2
      go_quiet (fail)
      go_wp2
      go_quiet (fail)
      go_wp2
      go_ret
      rw [← HTE.out, HST.out]
      exact ⟨rfl, (H.drewN _).drewN _, below_drewN (below_drewN hbe _) _⟩

end Go.Proofs.Qxb6601748a
