/-
  THE SCANNER IN MEMORY: which cells hold what; what a method may turn.
-/
import Derived.Test.Qxb6601242aLeaf
namespace Go.Proofs.Qxb6601242a
open Go.RowKit
set_option linter.unusedVariables false

/-- Block b holds a scanner: its text, place, line, column, 'broke', flow level and 'keyAllowed'; the cells that are written may be. -/
structure Sc (w : World) (b : Nat) (s : ByteArray) (p : Nat) (l c : Int) (k : Bool) (fl : Int) (ka : Bool) : Prop where
  c0 : w.cell? ⟨b, 0, none⟩ = some (.string s)
  c1 : w.cell? ⟨b, 1, none⟩ = some (.int .i64 (p : Int))
  c2 : w.cell? ⟨b, 2, none⟩ = some (.int .i64 l)
  c3 : w.cell? ⟨b, 3, none⟩ = some (.int .i64 c)
  c4 : w.cell? ⟨b, 4, none⟩ = some (.bool k)
  c5 : w.cell? ⟨b, 5, none⟩ = some (.int .i64 fl)
  c8 : w.cell? ⟨b, 8, none⟩ = some (.bool ka)
  f1 : w.frozen? ⟨b, 1, none⟩ = false
  f2 : w.frozen? ⟨b, 2, none⟩ = false
  f3 : w.frozen? ⟨b, 3, none⟩ = false
  f4 : w.frozen? ⟨b, 4, none⟩ = false
  f8 : w.frozen? ⟨b, 8, none⟩ = false

/-- Only block b has been written. -/
structure Own (b : Nat) (w w' : World) : Prop where
  os : w'.os = w.os
  output : w'.output = w.output
  frz : ∀ a, w'.frozen? a = w.frozen? a
  size : w'.heap.size = w.heap.size
  block : ∀ k, k ≠ b → w'.heap[k]? = w.heap[k]?

theorem Own.refl (b : Nat) (w : World) : Own b w w := ⟨rfl, rfl, fun _ => rfl, rfl, fun _ _ => rfl⟩
theorem Own.trans {b : Nat} {u v w : World} (h : Own b u v) (g : Own b v w) : Own b u w :=
  ⟨g.os.trans h.os, g.output.trans h.output, fun a => (g.frz a).trans (h.frz a), g.size.trans h.size, fun k hk => (g.block k hk).trans (h.block k hk)⟩
theorem Own.drewN {b : Nat} {u w : World} (h : Own b u w) (n : Nat) : Own b u (w.drewN n) := ⟨h.os, h.output, h.frz, h.size, h.block⟩
theorem Own.drew {b : Nat} {u w : World} (h : Own b u w) : Own b u w.drew := ⟨h.os, h.output, h.frz, h.size, h.block⟩
theorem Own.setCell {b : Nat} {u w : World} (h : Own b u w) (o : Nat) (v : Value) : Own b u (w.setCell ⟨b, o, none⟩ v) :=
  ⟨h.os, h.output, fun a => (World.frozen?_setCell _ _ _ _).trans (h.frz a), by have := h.size; simpa [World.setCell] using this,
    fun k hk => (Below.heap_setCell _ _ _ _ hk).trans (h.block k hk)⟩

theorem Own.grown {W w w' : World} {b : Nat} (h : Grown W w) (hb : W.heap.size ≤ b) (g : Own b w w') : Grown W w' := by
  obtain ⟨⟨h1, h2, h3⟩, hf, hs⟩ := h
  refine ⟨⟨g.os.trans h1, g.output.trans h2, fun i hi => ?_⟩, fun a => (g.frz a).trans (hf a), by rw [g.size]; exact hs⟩
  rw [g.block i (by omega)]
  exact h3 i hi

theorem Sc.drewN {w : World} {b : Nat} {s : ByteArray} {p : Nat} {l c : Int} {k : Bool} {fl : Int} {ka : Bool} (h : Sc w b s p l c k fl ka) (n : Nat) : Sc (w.drewN n) b s p l c k fl ka :=
  ⟨h.c0, h.c1, h.c2, h.c3, h.c4, h.c5, h.c8, h.f1, h.f2, h.f3, h.f4, h.f8⟩

theorem Sc.drew {w : World} {b : Nat} {s : ByteArray} {p : Nat} {l c : Int} {k : Bool} {fl : Int} {ka : Bool} (h : Sc w b s p l c k fl ka) : Sc w.drew b s p l c k fl ka :=
  ⟨h.c0, h.c1, h.c2, h.c3, h.c4, h.c5, h.c8, h.f1, h.f2, h.f3, h.f4, h.f8⟩

theorem cell_other {w : World} {b o o' : Nat} {v u : Value} (h : o ≠ o') (hc : w.cell? ⟨b, o', none⟩ = some u) : (w.setCell ⟨b, o, none⟩ v).cell? ⟨b, o', none⟩ = some u :=
  (World.cell?_setCell_other _ _ _ _ (fun e => h (by injection e))).trans hc
theorem cell_same {w : World} {a : Addr} {v u : Value} (hc : w.cell? a = some u) : (w.setCell a v).cell? a = some v := World.cell?_setCell_same _ _ _ hc
theorem frz_set {w : World} {a q : Addr} {v : Value} (h : w.frozen? q = false) : (w.setCell a v).frozen? q = false := (World.frozen?_setCell _ _ _ _).trans h

theorem Sc.setP {w : World} {b : Nat} {s : ByteArray} {p : Nat} {l c : Int} {k : Bool} {fl : Int} {ka : Bool} (h : Sc w b s p l c k fl ka) (q : Nat) {z : Int} (hz : z = (q : Int)) : Sc (w.setCell ⟨b, 1, none⟩ (.int .i64 z)) b s q l c k fl ka := by
  subst hz; exact ⟨cell_other (by decide) h.c0, cell_same h.c1, cell_other (by decide) h.c2, cell_other (by decide) h.c3, cell_other (by decide) h.c4, cell_other (by decide) h.c5, cell_other (by decide) h.c8, frz_set h.f1, frz_set h.f2, frz_set h.f3, frz_set h.f4, frz_set h.f8⟩
theorem Sc.setL {w : World} {b : Nat} {s : ByteArray} {p : Nat} {l c : Int} {k : Bool} {fl : Int} {ka : Bool} (h : Sc w b s p l c k fl ka) (z : Int) : Sc (w.setCell ⟨b, 2, none⟩ (.int .i64 z)) b s p z c k fl ka :=
  ⟨cell_other (by decide) h.c0, cell_other (by decide) h.c1, cell_same h.c2, cell_other (by decide) h.c3, cell_other (by decide) h.c4, cell_other (by decide) h.c5, cell_other (by decide) h.c8, frz_set h.f1, frz_set h.f2, frz_set h.f3, frz_set h.f4, frz_set h.f8⟩
theorem Sc.setC {w : World} {b : Nat} {s : ByteArray} {p : Nat} {l c : Int} {k : Bool} {fl : Int} {ka : Bool} (h : Sc w b s p l c k fl ka) (z : Int) : Sc (w.setCell ⟨b, 3, none⟩ (.int .i64 z)) b s p l z k fl ka :=
  ⟨cell_other (by decide) h.c0, cell_other (by decide) h.c1, cell_other (by decide) h.c2, cell_same h.c3, cell_other (by decide) h.c4, cell_other (by decide) h.c5, cell_other (by decide) h.c8, frz_set h.f1, frz_set h.f2, frz_set h.f3, frz_set h.f4, frz_set h.f8⟩
theorem Sc.setK {w : World} {b : Nat} {s : ByteArray} {p : Nat} {l c : Int} {k : Bool} {fl : Int} {ka : Bool} (h : Sc w b s p l c k fl ka) (z : Bool) : Sc (w.setCell ⟨b, 4, none⟩ (.bool z)) b s p l c z fl ka :=
  ⟨cell_other (by decide) h.c0, cell_other (by decide) h.c1, cell_other (by decide) h.c2, cell_other (by decide) h.c3, cell_same h.c4, cell_other (by decide) h.c5, cell_other (by decide) h.c8, frz_set h.f1, frz_set h.f2, frz_set h.f3, frz_set h.f4, frz_set h.f8⟩
theorem Sc.setA {w : World} {b : Nat} {s : ByteArray} {p : Nat} {l c : Int} {k : Bool} {fl : Int} {ka : Bool} (h : Sc w b s p l c k fl ka) (z : Bool) : Sc (w.setCell ⟨b, 8, none⟩ (.bool z)) b s p l c k fl z :=
  ⟨cell_other (by decide) h.c0, cell_other (by decide) h.c1, cell_other (by decide) h.c2, cell_other (by decide) h.c3, cell_other (by decide) h.c4, cell_other (by decide) h.c5, cell_same h.c8, frz_set h.f1, frz_set h.f2, frz_set h.f3, frz_set h.f4, frz_set h.f8⟩

end Go.Proofs.Qxb6601242a
