/-
  THE READER IN MEMORY; the walks of space, take, expect.
-/
import Derived.Test.Qxb6601645aRows
import Derived.Test.Qxb6601645aPlain
import Derived.WalkKit
import Derived.WalkSpells
import Derived.BigQuiet
import Derived.Deep.RegionWith
import Derived.Deep.LoopGhost
namespace Go.Proofs.Qxb6601645a
open Go.RowKit
set_option linter.unusedVariables false

theorem ret_int {k : IntKind} {a b : Int} (h : a = b) : Ending.returned (.int k a) = .returned (.int k b) := by rw [h]
theorem ret_bool {a b : Bool} (h : a = b) : Ending.returned (.bool a) = .returned (.bool b) := by rw [h]
theorem ret_str {a b : ByteArray} (h : a = b) : Ending.returned (.string a) = .returned (.string b) := by rw [h]
theorem bt {a k : Int} (h : a = k) : (a == k) = true := beq_iff_eq.2 h
theorem bf {a k : Int} (h : ¬ a = k) : (a == k) = false := beq_eq_false_iff_ne.2 h
theorem nt {a k : Int} (h : ¬ a = k) : (a != k) = true := bne_iff_ne.2 h
theorem nf {a k : Int} (h : a = k) : (a != k) = false := by rw [h]; simp

/-- Block b holds a Reader. -/
structure Rd (w : World) (b : Nat) (s : ByteArray) (i : Nat) (ok : Bool) (d : Int) : Prop where
  c0 : w.cell? ⟨b, 0, none⟩ = some (.string s)
  c1 : w.cell? ⟨b, 1, none⟩ = some (.int .i64 (i : Int))
  c2 : w.cell? ⟨b, 2, none⟩ = some (.bool ok)
  c3 : w.cell? ⟨b, 3, none⟩ = some (.int .i64 d)
  f1 : w.frozen? ⟨b, 1, none⟩ = false
  f2 : w.frozen? ⟨b, 2, none⟩ = false

/-- Only block b has been written. -/
structure Own (b : Nat) (w w' : World) : Prop where
  os : w'.os = w.os
  output : w'.output = w.output
  frz : ∀ a, w'.frozen? a = w.frozen? a
  size : w'.heap.size = w.heap.size
  block : ∀ k, k ≠ b → w'.heap[k]? = w.heap[k]?

theorem Own.refl (b : Nat) (w : World) : Own b w w := ⟨rfl, rfl, fun _ => rfl, rfl, fun _ _ => rfl⟩
theorem Own.trans {b : Nat} {u v w : World} (h : Own b u v) (g : Own b v w) : Own b u w :=
  ⟨g.os.trans h.os, g.output.trans h.output, fun a => (g.frz a).trans (h.frz a), g.size.trans h.size, fun k hk => (g.block k hk).trans (h.block k hk)⟩
theorem Own.drewN {b : Nat} {u w : World} (h : Own b u w) (n : Nat) : Own b u (w.drewN n) := ⟨h.os, h.output, h.frz, h.size, h.block⟩
theorem Own.drew {b : Nat} {u w : World} (h : Own b u w) : Own b u w.drew := ⟨h.os, h.output, h.frz, h.size, h.block⟩
theorem Own.setCell {b : Nat} {u w : World} (h : Own b u w) (o : Nat) (v : Value) : Own b u (w.setCell ⟨b, o, none⟩ v) :=
  ⟨h.os, h.output, fun a => (World.frozen?_setCell _ _ _ _).trans (h.frz a), by have := h.size; simpa [World.setCell] using this,
    fun k hk => (Below.heap_setCell _ _ _ _ hk).trans (h.block k hk)⟩
theorem Own.grown {W w w' : World} {b : Nat} (h : Grown W w) (hb : W.heap.size ≤ b) (g : Own b w w') : Grown W w' := by
  obtain ⟨⟨h1, h2, h3⟩, hf, hs⟩ := h
  refine ⟨⟨g.os.trans h1, g.output.trans h2, fun i hi => ?_⟩, fun a => (g.frz a).trans (hf a), by rw [g.size]; exact hs⟩
  rw [g.block i (by omega)]
  exact h3 i hi

theorem cell_other {w : World} {b o o' : Nat} {v u : Value} (h : o ≠ o') (hc : w.cell? ⟨b, o', none⟩ = some u) : (w.setCell ⟨b, o, none⟩ v).cell? ⟨b, o', none⟩ = some u :=
  (World.cell?_setCell_other _ _ _ _ (fun e => h (by injection e))).trans hc
theorem cell_same {w : World} {a : Addr} {v u : Value} (hc : w.cell? a = some u) : (w.setCell a v).cell? a = some v := World.cell?_setCell_same _ _ _ hc
theorem frz_set {w : World} {a q : Addr} {v : Value} (h : w.frozen? q = false) : (w.setCell a v).frozen? q = false := (World.frozen?_setCell _ _ _ _).trans h

theorem Rd.drewN {w : World} {b : Nat} {s : ByteArray} {i : Nat} {ok : Bool} {d : Int} (h : Rd w b s i ok d) (n : Nat) : Rd (w.drewN n) b s i ok d := ⟨h.c0, h.c1, h.c2, h.c3, h.f1, h.f2⟩
theorem Rd.setI {w : World} {b : Nat} {s : ByteArray} {i : Nat} {ok : Bool} {d : Int} (h : Rd w b s i ok d) (q : Nat) {z : Int} (hz : z = (q : Int)) : Rd (w.setCell ⟨b, 1, none⟩ (.int .i64 z)) b s q ok d := by
  subst hz; exact ⟨cell_other (by decide) h.c0, cell_same h.c1, cell_other (by decide) h.c2, cell_other (by decide) h.c3, frz_set h.f1, frz_set h.f2⟩
theorem Rd.setO {w : World} {b : Nat} {s : ByteArray} {i : Nat} {ok : Bool} {d : Int} (h : Rd w b s i ok d) (q : Bool) : Rd (w.setCell ⟨b, 2, none⟩ (.bool q)) b s i q d :=
  ⟨cell_other (by decide) h.c0, cell_other (by decide) h.c1, cell_same h.c2, cell_other (by decide) h.c3, frz_set h.f1, frz_set h.f2⟩

set_option maxHeartbeats 1000000 in
set_option maxRecDepth 100000 in
theorem space_any (w : World) (b : Nat) (s : ByteArray) (i : Nat) (ok : Bool) (d : Int) (hrd : Rd w b s i ok d) (hs : s.size ≤ 1048578) (hi : i ≤ s.size) :
    Calls Try.prog 29 #[.pointer (some ⟨b, 0, none⟩)] w fun e w' => e = .returned (.tuple #[]) ∧ Rd w' b s (Pl.ss s i) ok d ∧ Own b w w' := by
  go_enter Try.func29, Try.ntmps29
  go_wp2
  go_loopg [] (s.size + 8 - i) (fun n wr => ∃ q, Rd wr b s q ok d ∧ q ≤ s.size ∧ Pl.ss s q = Pl.ss s i ∧ Own b w wr ∧ n = s.size + 8 - q)
  case atStart => exact ⟨i, hrd, hi, rfl, Own.refl b w, rfl⟩
  case round =>
    obtain ⟨q, hq, hqs, hss, ho, hk⟩ := hrel
    have HSS : Hid (Pl.ss s q = Pl.ss s i) := hss
    have HK : Hid (gk = s.size + 8 - q) := hk
    clear hss hk hrd
    obtain ⟨c0, c1, c2, c3, f1, f2⟩ := hq
    have H : Rd wr b s q ok d := ⟨c0, c1, c2, c3, f1, f2⟩
    by_cases hlt : q < s.size
    · have EB : Hid (Pl.bat s q = s[q].toNat) := Pl.bat_in hlt
      go_wp2
      go_quiet (fail)
      go_wp2
      go_quiet (fail)
      cases hsp : Pl.sp s[q].toNat with
      | true =>
        have hor : s[q].toNat = 32 ∨ s[q].toNat = 9 ∨ s[q].toNat = 10 ∨ s[q].toNat = 13 := by simpa [Pl.sp, or_assoc] using hsp
        have HSP : Hid (Pl.sp (Pl.bat s q) = true) := by show _ = _; rw [EB.out]; exact hsp
        clear hsp
        rcases hor with h | h | h | h
        · have t1 : ((s[q].toNat : Int) == 32) = true := bt (by omega)
          clear h
          go_wp2
          go_roundg (s.size + 8 - (q + 1))
          case measure => have := HK.out; omega
          case rel => exact ⟨q + 1, (H.drewN _).setI (q + 1) (by omega), by omega, by rw [← HSS.out]; exact (Pl.wl_step hlt HSP.out).symm, (ho.drewN _).setCell 1 _, rfl⟩
        · have t1 : ((s[q].toNat : Int) == 32) = false := bf (by omega)
          have t2 : ((s[q].toNat : Int) == 9) = true := bt (by omega)
          clear h
          go_wp2
          go_roundg (s.size + 8 - (q + 1))
          case measure => have := HK.out; omega
          case rel => exact ⟨q + 1, (H.drewN _).setI (q + 1) (by omega), by omega, by rw [← HSS.out]; exact (Pl.wl_step hlt HSP.out).symm, (ho.drewN _).setCell 1 _, rfl⟩
        · have t1 : ((s[q].toNat : Int) == 32) = false := bf (by omega)
          have t2 : ((s[q].toNat : Int) == 9) = false := bf (by omega)
          have t3 : ((s[q].toNat : Int) == 10) = true := bt (by omega)
          clear h
          go_wp2
          go_roundg (s.size + 8 - (q + 1))
          case measure => have := HK.out; omega
          case rel => exact ⟨q + 1, (H.drewN _).setI (q + 1) (by omega), by omega, by rw [← HSS.out]; exact (Pl.wl_step hlt HSP.out).symm, (ho.drewN _).setCell 1 _, rfl⟩
        · have t1 : ((s[q].toNat : Int) == 32) = false := bf (by omega)
          have t2 : ((s[q].toNat : Int) == 9) = false := bf (by omega)
          have t3 : ((s[q].toNat : Int) == 10) = false := bf (by omega)
          have t4 : ((s[q].toNat : Int) == 13) = true := bt (by omega)
          clear h
          go_wp2
          go_roundg (s.size + 8 - (q + 1))
          case measure => have := HK.out; omega
          case rel => exact ⟨q + 1, (H.drewN _).setI (q + 1) (by omega), by omega, by rw [← HSS.out]; exact (Pl.wl_step hlt HSP.out).symm, (ho.drewN _).setCell 1 _, rfl⟩
      | false =>
        have hor : ¬ (s[q].toNat = 32 ∨ s[q].toNat = 9 ∨ s[q].toNat = 10 ∨ s[q].toNat = 13) := by
          intro h
          rcases h with h | h | h | h <;> rw [h] at hsp <;> cases hsp
        have HSP : Hid (Pl.sp (Pl.bat s q) = false) := by show _ = _; rw [EB.out]; exact hsp
        have t1 : ((s[q].toNat : Int) == 32) = false := bf (by omega)
        have t2 : ((s[q].toNat : Int) == 9) = false := bf (by omega)
        have t3 : ((s[q].toNat : Int) == 10) = false := bf (by omega)
        have t4 : ((s[q].toNat : Int) == 13) = false := bf (by omega)
        clear hor hsp
        go_wp2
        refine bodyPost_ret (results_none rfl _ _ _) rfl ⟨rfl, ?_, ho.drewN _⟩
        rw [← HSS.out, show Pl.ss s q = q from Pl.wl_stop (fun h => by have := h.2; rw [HSP.out] at this; cases this)]
        exact H.drewN _
    · have hd : decide (q < s.size) = false := by simpa using hlt
      go_wp2
      go_quiet (fail)
      go_wp2
      go_end0
      refine ⟨rfl, ?_, ho.drewN _⟩
      rw [← HSS.out, show Pl.ss s q = q from Pl.wl_stop (fun h => hlt h.1)]
      exact H.drewN _

end Go.Proofs.Qxb6601645a
