/-
  THE WALK of FnCutETagReadsETag.
-/
import Derived.Test.Qxb6602065aDoorCut
namespace Go.Proofs.Qxb6602065aDoor
open Go.RowKit
set_option linter.unusedVariables false

theorem tag_list (u : Nat) : (tag u).data.toList = 34 :: (Lib.decDigits u ++ [34]) := by
  unfold tag; simp [ByteArray.data_append]
theorem of_list (s : ByteArray) (l : List UInt8) (h : s.data.toList = l) : (⟨l.toArray⟩ : ByteArray) = s := by
  rw [← h]
theorem tag_size (u : Nat) (h : u < 18446744073709551616) : (tag u).size ≤ 22 := by
  rw [Lib.size_eq, tag_list]
  have := dec_len u h
  simp; omega

theorem aside_of {p : Prop} (h : p) : Aside p := h

theorem zzb6_yes (v : Int) (k : Bool) (s : ByteArray) (w : World) (hs : s.size ≤ 1048576) :
    Calls Tryd.prog 6 #[.int .u64 v, .bool k, .string s] w fun e w' => e = .returned (.bool true) ∧ w' = w := by
  go_enter Tryd.func6, Tryd.ntmps6
  go_wp2
  go_ret
  exact ⟨rfl, rfl⟩
theorem zzb6_no (v : Int) (k : Bool) (s : ByteArray) (w : World) (hs : 1048576 < s.size) :
    Calls Tryd.prog 6 #[.int .u64 v, .bool k, .string s] w fun e w' => e = .returned (.bool false) ∧ w' = w := by
  go_enter Tryd.func6, Tryd.ntmps6
  go_wp2
  go_ret
  exact ⟨rfl, rfl⟩

set_option maxHeartbeats 1000000 in
set_option maxRecDepth 100000 in
theorem law3_main (u : Nat) (hu : u < 18446744073709551616) (weak : Bool) (s : ByteArray) (w : World) (hs : s.size ≤ 1048576) (htab : Tab w) :
    Calls Tryd.prog 3 #[.int .u64 (u : Int), .bool weak, .string s] w fun e w' => e = .returned (.bool true) ∧ Below w.heap.size w w' := by
  have htl := tag_list u
  have hts := tag_size u hu
  have hdl := dec_len u hu
  have HOK : Aside (∀ b ∈ Lib.decDigits u, Ok b) := dec_ok u u (Nat.le_refl _)
  have het := etag_any u hu w htab
  have HET : Aside (Calls Tryd.prog 7 #[.int .u64 (u : Int)] w fun e w' => e = .returned (.string (tag u)) ∧ Below w.heap.size w w') := het
  have HTL : Hid ((tag u).data.toList = 34 :: (Lib.decDigits u ++ [34])) := htl
  have hsl := Lib.size_eq s
  have HSL : Hid (s.data.toList.length ≤ 1048576) := by show _ ≤ _; rw [← hsl]; exact hs
  clear htl het hsl
  have cut : ∀ (W : World) (S : ByteArray), S.data.toList = marked weak (Lib.decDigits u) s.data.toList →
      Calls Tryd.prog 8 #[.string S] W fun e w' => e = .returned (.tuple #[.string (tag u), .bool weak, .string s, .bool true]) ∧ Below W.heap.size W w' := fun W S h =>
    (zzcut_any S weak (Lib.decDigits u) s.data.toList W h (by have := HSL.out; omega) HOK.out).mono fun e w' ⟨he, hb⟩ => ⟨by rw [he, of_list (tag u) _ HTL.out, of_list s _ rfl], hb⟩
  have CUT := aside_of cut
  clear cut
  go_enter Tryd.func3, Tryd.ntmps3
  go_wp2_with (go_at_call 6; refine (zzb6_yes _ _ _ _ hs).mono ?_; rintro e w' ⟨rfl, rfl⟩)
  refine HET.out.mono ?_
  rintro e w1 ⟨rfl, hb1⟩
  generalize tag u = T at *
  cases weak with
  | false =>
    go_wp2_with fail
    refine (CUT.out _ _ ?_).mono ?_
    · rw [ByteArray.data_append, Array.toList_append, HTL.out]; simp [marked]
    rintro e w2 ⟨rfl, hb2⟩
    go_wp2_with fail
    go_ret
    exact ⟨rfl, hb1.trans (hb2.mono hb1.size)⟩
  | true =>
    go_wp2_with fail
    refine (CUT.out _ _ ?_).mono ?_
    · rw [ByteArray.data_append, Array.toList_append, ByteArray.data_append, Array.toList_append, HTL.out]; simp [marked]
    rintro e w2 ⟨rfl, hb2⟩
    go_wp2_with fail
    go_ret
    exact ⟨rfl, hb1.trans (hb2.mono hb1.size)⟩

end Go.Proofs.Qxb6602065aDoor
