/-
  THE WALKS of take, expect, strings.IndexByte, Str, ZZB1Str.
-/
import Derived.Test.Qxb6601645aMem
namespace Go.Proofs.Qxb6601645a
open Go.RowKit
set_option linter.unusedVariables false

set_option maxHeartbeats 1000000 in
set_option maxRecDepth 100000 in
theorem take_yes (w : World) (b : Nat) (s : ByteArray) (i j : Nat) (d : Int) (hrd : Rd w b s i true d) (hs : s.size ≤ 1048578) (hi : i ≤ s.size)
    (hj : Hid (Pl.ss s i = j)) (h1 : j < s.size) (h2 : Pl.bat s j = 34) :
    Calls Try.prog 30 #[.pointer (some ⟨b, 0, none⟩), .int .u8 34] w fun e w' => e = .returned (.bool true) ∧ Rd w' b s (j + 1) true d ∧ Own b w w' := by
  have t1 : ((s[j].toNat : Int) == 34) = true := bt (by rw [Pl.bat_in h1] at h2; omega)
  clear h2
  go_enter Try.func30, Try.ntmps30
  go_wp2_with fail
  refine (space_any _ b s i true d hrd hs hi).mono ?_
  rintro e w1 ⟨rfl, hr, ho⟩
  rw [hj.out] at hr
  obtain ⟨c0, c1, c2, c3, f1, f2⟩ := hr
  have H : Rd w1 b s j true d := ⟨c0, c1, c2, c3, f1, f2⟩
  clear hrd
  go_wp2
  go_quiet (fail)
  go_wp2
  go_ret
  exact ⟨rfl, (H.drewN _).setI (j + 1) (by omega), (ho.drewN _).setCell 1 _⟩

set_option maxHeartbeats 1000000 in
set_option maxRecDepth 100000 in
theorem take_no (w : World) (b : Nat) (s : ByteArray) (i j : Nat) (ok : Bool) (d : Int) (hrd : Rd w b s i ok d) (hs : s.size ≤ 1048578) (hi : i ≤ s.size)
    (hj : Hid (Pl.ss s i = j)) (h : ¬ (ok = true ∧ j < s.size ∧ Pl.bat s j = 34)) :
    Calls Try.prog 30 #[.pointer (some ⟨b, 0, none⟩), .int .u8 34] w fun e w' => e = .returned (.bool false) ∧ Rd w' b s j ok d ∧ Own b w w' := by
  have HN := Aside.out (p := ¬ (ok = true ∧ j < s.size ∧ Pl.bat s j = 34)) h
  have HA : Aside (¬ (ok = true ∧ j < s.size ∧ Pl.bat s j = 34)) := h
  clear h HN
  go_enter Try.func30, Try.ntmps30
  go_wp2_with fail
  refine (space_any _ b s i ok d hrd hs hi).mono ?_
  rintro e w1 ⟨rfl, hr, ho⟩
  rw [hj.out] at hr
  obtain ⟨c0, c1, c2, c3, f1, f2⟩ := hr
  have H : Rd w1 b s j ok d := ⟨c0, c1, c2, c3, f1, f2⟩
  clear hrd
  cases ok with
  | false =>
    go_wp2
    go_quiet (fail)
    go_wp2
    go_ret
    exact ⟨rfl, H.drewN _, ho.drewN _⟩
  | true =>
    by_cases hlt : j < s.size
    · have hne : ¬ s[j].toNat = 34 := fun e => HA.out ⟨rfl, hlt, by rw [Pl.bat_in hlt]; exact e⟩
      have t1 : ((s[j].toNat : Int) == 34) = false := bf (by omega)
      clear hne
      go_wp2
      go_quiet (fail)
      go_wp2
      go_ret
      exact ⟨rfl, H.drewN _, ho.drewN _⟩
    · have hd : decide (j < s.size) = false := by simpa using hlt
      go_wp2
      go_quiet (fail)
      go_wp2
      go_ret
      exact ⟨rfl, H.drewN _, ho.drewN _⟩

set_option maxHeartbeats 1000000 in
set_option maxRecDepth 100000 in
theorem expect_yes (w : World) (b : Nat) (s : ByteArray) (i j : Nat) (d : Int) (hrd : Rd w b s i true d) (hs : s.size ≤ 1048578) (hi : i ≤ s.size)
    (hj : Hid (Pl.ss s i = j)) (h1 : j < s.size) (h2 : Pl.bat s j = 34) :
    Calls Try.prog 26 #[.pointer (some ⟨b, 0, none⟩), .int .u8 34] w fun e w' => e = .returned (.bool true) ∧ Rd w' b s (j + 1) true d ∧ Own b w w' := by
  have H2 : Hid (Pl.bat s j = 34) := h2
  clear h2
  go_enter Try.func26, Try.ntmps26
  go_wp2_with fail
  refine (take_yes _ b s i j d hrd hs hi hj h1 H2.out).mono ?_
  rintro e w1 ⟨rfl, hr, ho⟩
  obtain ⟨c0, c1, c2, c3, f1, f2⟩ := hr
  have H : Rd w1 b s (j + 1) true d := ⟨c0, c1, c2, c3, f1, f2⟩
  clear hrd
  go_wp2
  go_ret
  exact ⟨rfl, H.setO _, ho.setCell 2 _⟩

set_option maxHeartbeats 1000000 in
set_option maxRecDepth 100000 in
theorem expect_no (w : World) (b : Nat) (s : ByteArray) (i j : Nat) (ok : Bool) (d : Int) (hrd : Rd w b s i ok d) (hs : s.size ≤ 1048578) (hi : i ≤ s.size)
    (hj : Hid (Pl.ss s i = j)) (h : Aside (¬ (ok = true ∧ j < s.size ∧ Pl.bat s j = 34))) :
    Calls Try.prog 26 #[.pointer (some ⟨b, 0, none⟩), .int .u8 34] w fun e w' => e = .returned (.bool false) ∧ Rd w' b s j false d ∧ Own b w w' := by
  go_enter Try.func26, Try.ntmps26
  go_wp2_with fail
  refine (take_no _ b s i j ok d hrd hs hi hj h.out).mono ?_
  rintro e w1 ⟨rfl, hr, ho⟩
  obtain ⟨c0, c1, c2, c3, f1, f2⟩ := hr
  have H : Rd w1 b s j ok d := ⟨c0, c1, c2, c3, f1, f2⟩
  clear hrd
  go_wp2
  go_ret
  exact ⟨rfl, H.setO _, ho.setCell 2 _⟩

set_option maxHeartbeats 1000000 in
set_option maxRecDepth 100000 in
theorem slIdx_any (s : ByteArray) (c : Int) (w : World) :
    Calls Try.prog 31 #[.string s, .int .u8 c] w fun e w' => e = .returned (.int .i64 (Lib.indexByte s.data.toList c.toNat.toUInt8)) ∧ w' = w := by
  go_enter Try.func31, Try.ntmps31
  go_wp2
  rw [run_callFunc_extern Try.func32 (by kernel_rfl) (by kernel_rfl) (by kernel_rfl) (e := Extern.BytealgIndexByte.indexByte) (by kernel_rfl), Lib.run_indexByteString]
  simp only [Result.andThen]
  rw [Oper.upon_value]
  go_wp2
  go_ret
  exact ⟨rfl, rfl⟩

set_option maxHeartbeats 1000000 in
theorem idx_any (s : ByteArray) (c : Int) (w : World) :
    Calls Try.prog 27 #[.string s, .int .u8 c] w fun e w' => e = .returned (.int .i64 (Lib.indexByte s.data.toList c.toNat.toUInt8)) ∧ w' = w := by
  go_enter Try.func27, Try.ntmps27
  go_wp2_with (go_at_call 31; refine (slIdx_any _ _ _).mono ?_; rintro e w' ⟨rfl, rfl⟩)
  go_ret
  exact ⟨rfl, rfl⟩

theorem idx_34 (s : ByteArray) (w : World) (z : Int) (hz : Hid (Lib.indexByte s.data.toList 34 = z)) :
    Calls Try.prog 27 #[.string s, .int .u8 34] w fun e w' => e = .returned (.int .i64 z) ∧ w' = w :=
  (idx_any s 34 w).mono fun e w' ⟨he, hw⟩ => ⟨he.trans (ret_int hz.out), hw⟩

end Go.Proofs.Qxb6601645a
