/-
  THE WALKS of internal/strconv.FormatUint and strconv.FormatUint AT BASE 10, and of ETag.
-/
import Derived.Test.Qxb6602065aDoorRows
import Derived.Test.Qxb6602065aDoorShelf
import Derived.Lib.AppendIntMem
import Derived.Lib.Walk
import Derived.WalkKit
import Derived.WalkSpells
import Derived.BigCall
import Derived.BigGuard
import Derived.BigQuiet
import Derived.Deep.RegionWith
import Derived.Deep.LoopGhost
namespace Go.Proofs.Qxb6602065aDoor
open Go.RowKit Go.Sort
set_option linter.unusedVariables false

theorem ret_str {a b : ByteArray} (h : a = b) : Ending.returned (.string a) = .returned (.string b) := by rw [h]
theorem bt {a k : Int} (h : a = k) : (a == k) = true := beq_iff_eq.2 h
theorem bf {a k : Int} (h : ¬ a = k) : (a == k) = false := beq_eq_false_iff_ne.2 h

/-- The name of the table of powers of ten. -/
def tabName : String := Rows.fnCutETagReadsETagRow.named.headD ""
/-- The table lies as the library's text lays it. -/
def Tab (w : World) : Prop := Lib.TabIs Tryd.prog w tabName .u64 Lib.pow10Tab

theorem numDigits_any (u : Nat) (h1 : 1 ≤ u) (h2 : u < 18446744073709551616) (w : World) (htab : Tab w) :
    Calls Tryd.prog 22 #[.int .u64 u] w fun e w' => e = .returned (.int .i64 (Lib.nDigits u)) ∧ w' = w := Any.internal_strconv_numDigits Tryd.laysM284 u h1 h2 w htab

theorem Tab.alloc {w : World} (h : Tab w) (o : Obj) : Tab (w.alloc o) := Lib.tabIs_alloc h o

set_option maxHeartbeats 6400000 in
set_option maxRecDepth 100000 in
theorem formatUint_any (u : Nat) (hu64 : u < 18446744073709551616) (w : World) (htab : Tab w) :
    Calls Tryd.prog 16 #[.int .u64 (u : Int), .int .i64 10] w fun e w' => e = .returned (.string ⟨(Lib.decDigits u).toArray⟩) ∧ Below w.heap.size w w' := by
  by_cases hs : u < 100
  · go_enter Tryd.func16, Tryd.ntmps16
    go_wp2_with (go_at_call 21; refine (Tryd.internal_strconv_small u hs _).mono ?_; rintro e w' ⟨rfl, rfl⟩)
    go_ret
    exact ⟨rfl, Below.refl _ _⟩
  · have hu1 : 1 ≤ u := by omega
    have hnd20 : Lib.nDigits u ≤ 20 := by have := Lib.numDigits_eq u hu1 hu64; split at this <;> omega
    have hal : Tryd.prog.arrayLen 45 = 24 := by simp [Program.arrayLen, Tryd.underlying45]
    have hsl : ∀ W, (Instr.sliceAt 45 (.pointer (some ⟨w.heap.size, 0, none⟩)) none (some (.int .i64 (Lib.nDigits u : Int))) none).run Tryd.prog W = .ok (.slice (some ⟨w.heap.size, 0, none⟩) (Lib.nDigits u) 24) W := fun W => by
      rw [run_sliceAt_array_h W 45 ⟨w.heap.size, 0, none⟩ (by simp [Program.arrayLen, Program.elem, Tryd.underlying45]) .i64 (Lib.nDigits u : Int) (by omega) (by rw [hal]; omega)]
      go_simp
    have hH0 := Lib.holds_zero0 w 45 (Lib.nDigits u) (by omega)
    have hfmt := Tryd.internal_strconv_formatBase10 w.heap.size 0 24 u (Array.replicate (Lib.nDigits u) 0) (w.alloc (.cells Lib.zeros24 45)) hH0 (by rw [Array.size_replicate]; exact Lib.lt_pow_nDigits u) hu64 (by rw [Array.size_replicate]; omega)
    rw [Array.size_replicate] at hfmt
    have HH0 := Lib.hid hH0
    clear hH0 hal
    go_enter Tryd.func16, Tryd.ntmps16
    go_wp2_with (first | (go_at_call 22; refine (numDigits_any u hu1 hu64 _ (Tab.alloc htab _)).mono ?_; rintro e w' ⟨rfl, rfl⟩))
    refine hfmt.mono ?_
    rintro e w' ⟨rfl, k, v', dk, rfl, hF⟩
    have hcv : (convert 48 9 (.slice (some ⟨w.heap.size, 0, none⟩) (Lib.nDigits u) 24)).run Tryd.prog ((putRow (fun (b : UInt8) => Value.int .u8 (b.toNat : Int)) (w.alloc (.cells Lib.zeros24 45)) w.heap.size 0 dk).drewN k) = .ok (.string ⟨(Lib.decDigits u).toArray⟩) ((putRow (fun (b : UInt8) => Value.int .u8 (b.toNat : Int)) (w.alloc (.cells Lib.zeros24 45)) w.heap.size 0 dk).drewN k) := by
      have h := run_convert_bytes_back (P := Tryd.prog) ((putRow (fun (b : UInt8) => Value.int .u8 (b.toNat : Int)) (w.alloc (.cells Lib.zeros24 45)) w.heap.size 0 dk).drewN k) 48 9 5 ⟨w.heap.size, 0, none⟩ 24 (Lib.decDigits u) Tryd.underlying48 Tryd.underlying5 Tryd.underlying9 (fun j hj => by
        rw [Lib.row_is_numeral hF j hj, Lib.add_plain, World.cell?_drewN]
        exact cell?_putRow (fun (b : UInt8) => Value.int .u8 (b.toNat : Int)) _ w.heap.size 0 _ dk HH0.out (by rw [hF.size, Array.size_replicate]) j (by rw [hF.size]; rw [Lib.decDigits_length] at hj; exact hj))
      rw [Lib.decDigits_length] at h
      exact h
    go_wp2
    go_ret
    obtain ⟨os, eo⟩ := Lib.fin_at w (.cells Lib.zeros24 45) dk k 0
    refine ⟨rfl, ?_⟩
    rw [eo]
    exact Lib.below_grow w.heap.size w (Nat.le_refl _) k os

set_option maxHeartbeats 1000000 in
theorem strconv_FormatUint_any (u : Nat) (hu64 : u < 18446744073709551616) (w : World) (htab : Tab w) :
    Calls Tryd.prog 13 #[.int .u64 (u : Int), .int .i64 10] w fun e w' => e = .returned (.string ⟨(Lib.decDigits u).toArray⟩) ∧ Below w.heap.size w w' := by
  go_enter Tryd.func13, Tryd.ntmps13
  go_wp2_with (go_at_call 16; refine (formatUint_any u hu64 _ htab).mono ?_; rintro e w' ⟨rfl, hb⟩)
  go_ret
  exact ⟨rfl, hb⟩

/-- The entity tag of version u. -/
def tag (u : Nat) : ByteArray := ⟨#[34]⟩ ++ ⟨(Lib.decDigits u).toArray⟩ ++ ⟨#[34]⟩

theorem dec_len (u : Nat) (h : u < 18446744073709551616) : (Lib.decDigits u).length ≤ 20 := by
  rw [Lib.decDigits_length]
  by_cases h1 : 1 ≤ u
  · have := Lib.numDigits_eq u h1 h; split at this <;> omega
  · rw [show u = 0 by omega, Lib.nDigits_small (by omega)]; omega

set_option maxHeartbeats 1000000 in
theorem etag_any (u : Nat) (hu64 : u < 18446744073709551616) (w : World) (htab : Tab w) :
    Calls Tryd.prog 7 #[.int .u64 (u : Int)] w fun e w' => e = .returned (.string (tag u)) ∧ Below w.heap.size w w' := by
  have hl := dec_len u hu64
  have HT : Hid (tag u = ⟨#[34]⟩ ++ ⟨(Lib.decDigits u).toArray⟩ ++ ⟨#[34]⟩) := rfl
  go_enter Tryd.func7, Tryd.ntmps7
  go_wp2_with fail
  refine (strconv_FormatUint_any u hu64 _ htab).mono ?_
  rintro e w' ⟨rfl, hb⟩
  have hsz : (⟨(Lib.decDigits u).toArray⟩ : ByteArray).size ≤ 20 := by rw [Lib.size_eq]; exact hl
  generalize (⟨(Lib.decDigits u).toArray⟩ : ByteArray) = D at *
  go_wp2
  go_ret
  exact ⟨ret_str HT.out.symm, hb⟩

end Go.Proofs.Qxb6602065aDoor
