/-
  THE WALKS of the law's own model: pjb1IsSpace, pjb1PlainByte, pjb1SkipSpace, pjb1ModelStr.
-/
import Derived.Test.Qxb6601645aMem
namespace Go.Proofs.Qxb6601645a
open Go.RowKit
set_option linter.unusedVariables false

/-- What the model has passed: plain bytes that are no quote. -/
structure Pl.Pre (s : ByteArray) (a q : Nat) : Prop where
  lo : a ≤ q
  hi : q ≤ s.size
  all : ∀ x, a ≤ x → x < q → Pl.plain (Pl.bat s x) = true ∧ Pl.bat s x ≠ 34

theorem Pl.Pre.qs {s : ByteArray} {a q : Nat} (h : Pl.Pre s a q) : Pl.qs s a = Pl.qs s q := by
  have h1 := h.lo
  have h2 := h.hi
  obtain ⟨n, rfl⟩ : ∃ n, q = a + n := ⟨q - a, by omega⟩
  exact Pl.wl_run n (fun j g1 g2 => ⟨by omega, by have := (h.all j g1 g2).2; simpa using this⟩)
theorem Pl.Pre.next {s : ByteArray} {a q : Nat} (h : Pl.Pre s a q) (hq : q < s.size) (hp : Pl.plain (Pl.bat s q) = true) (h34 : Pl.bat s q ≠ 34) : Pl.Pre s a (q + 1) :=
  ⟨by have := h.lo; omega, hq, fun x g1 g2 => by
    by_cases e : x = q
    · rw [e]; exact ⟨hp, h34⟩
    · exact h.all x g1 (by omega)⟩
theorem Pl.Pre.hit {s : ByteArray} {a q : Nat} (h : Pl.Pre s a q) (h34 : Pl.bat s q = 34) : Pl.qs s a = q ∧ Pl.ap s a (q - a) = true := by
  refine ⟨by rw [h.qs]; exact Pl.wl_stop (fun g => by have := g.2; rw [h34] at this; cases this), ?_⟩
  rw [Pl.ap_iff]
  intro j hj
  exact (h.all (a + j) (by omega) (by omega)).1
theorem Pl.Pre.bad {s : ByteArray} {a q : Nat} (h : Pl.Pre s a q) (hq : q < s.size) (hp : Pl.plain (Pl.bat s q) = false) (h34 : Pl.bat s q ≠ 34) : ¬ (Pl.qs s a < s.size ∧ Pl.ap s a (Pl.qs s a - a) = true) := by
  rintro ⟨h1, h2⟩
  have h3 : Pl.qs s a = Pl.qs s (q + 1) := by rw [h.qs]; exact Pl.wl_step hq (by simpa using h34)
  have h4 : q + 1 ≤ Pl.qs s (q + 1) := (Pl.wl_bd (g := fun c => !(c == 34)) (s := s) (p := q + 1) hq).1
  have h5 := h.lo
  have h6 := (Pl.ap_iff s a _).1 h2 (q - a) (by omega)
  rw [show a + (q - a) = q by omega, hp] at h6
  cases h6
theorem Pl.Pre.fin {s : ByteArray} {a q : Nat} (h : Pl.Pre s a q) (hq : s.size ≤ q) : ¬ (Pl.qs s a < s.size ∧ Pl.ap s a (Pl.qs s a - a) = true) := by
  rintro ⟨h1, h2⟩
  rw [h.qs, show Pl.qs s q = q from Pl.wl_stop (fun g => by omega)] at h1
  omega

set_option maxHeartbeats 1000000 in
theorem isSpace_any (c : Nat) (w : World) :
    Calls Try.prog 28 #[.int .u8 (c : Int)] w fun e w' => e = .returned (.bool (Pl.sp c)) ∧ w' = w := by
  by_cases h1 : c = 32
  · subst h1
    go_enter Try.func28, Try.ntmps28
    go_wp2
    go_ret
    exact ⟨rfl, rfl⟩
  by_cases h2 : c = 9
  · subst h2
    go_enter Try.func28, Try.ntmps28
    go_wp2
    go_ret
    exact ⟨rfl, rfl⟩
  by_cases h3 : c = 10
  · subst h3
    go_enter Try.func28, Try.ntmps28
    go_wp2
    go_ret
    exact ⟨rfl, rfl⟩
  by_cases h4 : c = 13
  · subst h4
    go_enter Try.func28, Try.ntmps28
    go_wp2
    go_ret
    exact ⟨rfl, rfl⟩
  have HG : Hid (Pl.sp c = false) := by
    show _ = _
    unfold Pl.sp
    rw [beq_eq_false_iff_ne.2 h1, beq_eq_false_iff_ne.2 h2, beq_eq_false_iff_ne.2 h3, beq_eq_false_iff_ne.2 h4]; rfl
  have t1 : ((c : Int) == 32) = false := bf (by omega)
  have t2 : ((c : Int) == 9) = false := bf (by omega)
  have t3 : ((c : Int) == 10) = false := bf (by omega)
  have t4 : ((c : Int) == 13) = false := bf (by omega)
  go_enter Try.func28, Try.ntmps28
  go_wp2
  go_ret
  exact ⟨ret_bool HG.out.symm, rfl⟩

set_option maxHeartbeats 1000000 in
theorem plainByte_any (c : Nat) (w : World) :
    Calls Try.prog 23 #[.int .u8 (c : Int)] w fun e w' => e = .returned (.bool (Pl.plain c)) ∧ w' = w := by
  by_cases h1 : 32 ≤ c
  · by_cases h2 : c ≤ 126
    · by_cases h3 : c = 92
      · subst h3
        go_enter Try.func23, Try.ntmps23
        go_wp2
        go_ret
        exact ⟨rfl, rfl⟩
      · have HG : Hid (Pl.plain c = true) := by
          show _ = _
          unfold Pl.plain
          rw [decide_eq_true h1, decide_eq_true h2, beq_eq_false_iff_ne.2 h3]; rfl
        have t1 : (32 : Int) ≤ (c : Int) := by omega
        have t2 : (c : Int) ≤ 126 := by omega
        have t3 : ((c : Int) != 92) = true := nt (by omega)
        go_enter Try.func23, Try.ntmps23
        go_wp2
        go_ret
        exact ⟨ret_bool HG.out.symm, rfl⟩
    · have HG : Hid (Pl.plain c = false) := by
        show _ = _
        unfold Pl.plain
        rw [decide_eq_true h1, decide_eq_false h2]; rfl
      have t1 : (32 : Int) ≤ (c : Int) := by omega
      have t2 : ¬ (c : Int) ≤ 126 := by omega
      go_enter Try.func23, Try.ntmps23
      go_wp2
      go_ret
      exact ⟨ret_bool HG.out.symm, rfl⟩
  · have HG : Hid (Pl.plain c = false) := by
      show _ = _
      unfold Pl.plain
      rw [decide_eq_false h1]; rfl
    have t1 : ¬ (32 : Int) ≤ (c : Int) := by omega
    go_enter Try.func23, Try.ntmps23
    go_wp2
    go_ret
    exact ⟨ret_bool HG.out.symm, rfl⟩

set_option maxHeartbeats 1000000 in
set_option maxRecDepth 100000 in
theorem skipSpace_any (s : ByteArray) (p : Nat) (w : World) (hs : s.size ≤ 1048578) (hp : p ≤ s.size) :
    Calls Try.prog 22 #[.string s, .int .i64 (p : Int)] w fun e w' => e = .returned (.int .i64 (Pl.ss s p : Nat)) ∧ w' = w := by
  go_enter Try.func22, Try.ntmps22
  go_wp2
  go_loopg [1] (s.size + 8 - p) (fun n a1 wr => ∃ q : Nat, a1 = .int .i64 (q : Int) ∧ q ≤ s.size ∧ Pl.ss s q = Pl.ss s p ∧ w = wr ∧ n = s.size + 8 - q)
  case atStart => exact ⟨p, rfl, hp, rfl, rfl, rfl⟩
  case round =>
    obtain ⟨q, rfl, hq, hss, rfl, hk⟩ := hrel
    have HSS : Hid (Pl.ss s q = Pl.ss s p) := hss
    have HK : Hid (gk = s.size + 8 - q) := hk
    clear hss hk
    by_cases hlt : q < s.size
    · have EB : Hid (Pl.bat s q = s[q].toNat) := Pl.bat_in hlt
      cases hsp : Pl.sp s[q].toNat with
      | true =>
        go_wp2_with (go_at_call 28; refine (isSpace_any _ _).mono ?_; rintro e w' ⟨rfl, rfl⟩)
        go_roundg (s.size + 8 - (q + 1))
        case measure => have := HK.out; omega
        case rel => exact ⟨q + 1, by go_num, by omega, by rw [← HSS.out]; exact (Pl.wl_step hlt (by rw [EB.out]; exact hsp)).symm, rfl, rfl⟩
      | false =>
        go_wp2_with (go_at_call 28; refine (isSpace_any _ _).mono ?_; rintro e w' ⟨rfl, rfl⟩)
        go_ret
        exact ⟨ret_int (by rw [← HSS.out, show Pl.ss s q = q from Pl.wl_stop (fun h => by have := h.2; rw [EB.out, hsp] at this; cases this)]), rfl⟩
    · go_wp2_with fail
      go_ret
      exact ⟨ret_int (by rw [← HSS.out, show Pl.ss s q = q from Pl.wl_stop (fun h => hlt h.1)]), rfl⟩

set_option maxHeartbeats 1000000 in
set_option maxRecDepth 100000 in
theorem model_no (s : ByteArray) (i j : Nat) (ok : Bool) (w : World) (hs : s.size ≤ 1048578) (hi : i ≤ s.size) (hj : Hid (Pl.ss s i = j)) (hjs : j ≤ s.size)
    (h : Aside (¬ (ok = true ∧ j < s.size ∧ Pl.bat s j = 34))) :
    Calls Try.prog 10 #[.string s, .int .i64 (i : Int), .bool ok] w fun e w' => e = .returned (.tuple #[.string ⟨#[]⟩, .int .i64 (j : Int), .bool false]) ∧ w' = w := by
  cases ok with
  | false =>
    go_enter Try.func10, Try.ntmps10
    go_wp2_with fail
    refine (skipSpace_any s i _ hs hi).mono ?_
    rintro e w1 ⟨rfl, rfl⟩
    rw [hj.out]
    go_wp2_with fail
    go_ret3
    exact ⟨rfl, rfl⟩
  | true =>
    by_cases hlt : j < s.size
    · have hne : ¬ s[j].toNat = 34 := fun e => h.out ⟨rfl, hlt, by rw [Pl.bat_in hlt]; exact e⟩
      have t1 : ((s[j].toNat : Int) != 34) = true := nt (by omega)
      have t0 : ((j : Int) == (s.size : Int)) = false := bf (by omega)
      clear hne
      go_enter Try.func10, Try.ntmps10
      go_wp2_with fail
      refine (skipSpace_any s i _ hs hi).mono ?_
      rintro e w1 ⟨rfl, rfl⟩
      rw [hj.out]
      go_wp2_with fail
      go_ret3
      exact ⟨rfl, rfl⟩
    · have t0 : ((j : Int) == (s.size : Int)) = true := bt (by omega)
      go_enter Try.func10, Try.ntmps10
      go_wp2_with fail
      refine (skipSpace_any s i _ hs hi).mono ?_
      rintro e w1 ⟨rfl, rfl⟩
      rw [hj.out]
      go_wp2_with fail
      go_ret3
      exact ⟨rfl, rfl⟩

set_option maxHeartbeats 2000000 in
set_option maxRecDepth 100000 in
theorem model_yes (s : ByteArray) (i j : Nat) (w : World) (hs : s.size ≤ 1048578) (hi : i ≤ s.size) (hj : Hid (Pl.ss s i = j)) (hlt : j < s.size) (h2 : Hid (Pl.bat s j = 34)) :
    Calls Try.prog 10 #[.string s, .int .i64 (i : Int), .bool true] w fun e w' =>
      e = .returned (.tuple #[.string (Pl.res s i true).v, .int .i64 ((Pl.res s i true).p : Int), .bool (Pl.res s i true).o]) ∧ w' = w := by
  have t1 : ((s[j].toNat : Int) != 34) = false := nf (by have := h2.out; rw [Pl.bat_in hlt] at this; omega)
  have t0 : ((j : Int) == (s.size : Int)) = false := bf (by omega)
  have bad : Aside (¬ (Pl.qs s (j + 1) < s.size ∧ Pl.ap s (j + 1) (Pl.qs s (j + 1) - (j + 1)) = true) →
      Ending.returned (.tuple #[.string ⟨#[]⟩, .int .i64 ((j : Int) + 1), .bool false]) = .returned (.tuple #[.string (Pl.res s i true).v, .int .i64 ((Pl.res s i true).p : Int), .bool (Pl.res s i true).o])) :=
    fun h => by rw [Pl.res_bad hj.out hlt h2.out h]; rfl
  go_enter Try.func10, Try.ntmps10
  go_wp2_with fail
  refine (skipSpace_any s i _ hs hi).mono ?_
  rintro e w1 ⟨rfl, rfl⟩
  rw [hj.out]
  go_wp2_with fail
  go_loopg [10] (s.size + 8 - (j + 1)) (fun n a10 wr => ∃ q : Nat, a10 = .int .i64 (q : Int) ∧ Pl.Pre s (j + 1) q ∧ w1 = wr ∧ n = s.size + 8 - q)
  case atStart => exact ⟨j + 1, by go_num, ⟨Nat.le_refl _, hlt, fun x g1 g2 => by omega⟩, rfl, rfl⟩
  case round =>
    obtain ⟨q, rfl, hpre, rfl, hk⟩ := hrel
    have HK : Hid (gk = s.size + 8 - q) := hk
    clear hk
    have hlo := hpre.lo
    have hhi := hpre.hi
    by_cases hq : q < s.size
    · have EB : Hid (Pl.bat s q = s[q].toNat) := Pl.bat_in hq
      by_cases h34 : s[q].toNat = 34
      · have t2 : ((s[q].toNat : Int) == 34) = true := bt (by omega)
        have HH : Aside (Pl.qs s (j + 1) = q ∧ Pl.ap s (j + 1) (q - (j + 1)) = true) := hpre.hit (EB.out.trans h34)
        clear h34
        go_wp2_with fail
        go_ret3
        exact ⟨by rw [Pl.res_ok hj.out hlt h2.out HH.out.1 hq HH.out.2]; rfl, rfl⟩
      · have t2 : ((s[q].toNat : Int) == 34) = false := bf (by omega)
        have H34 : Hid (Pl.bat s q ≠ 34) := by show _ ≠ _; rw [EB.out]; exact h34
        clear h34
        cases hpl : Pl.plain s[q].toNat with
        | true =>
          have HPL : Hid (Pl.plain (Pl.bat s q) = true) := by show _ = _; rw [EB.out]; exact hpl
          go_wp2_with (go_at_call 23; refine (plainByte_any _ _).mono ?_; rintro e w' ⟨rfl, rfl⟩)
          go_roundg (s.size + 8 - (q + 1))
          case measure => have := HK.out; omega
          case rel => exact ⟨q + 1, by go_num, hpre.next hq HPL.out H34.out, rfl, rfl⟩
        | false =>
          have HB := hpre.bad hq (by rw [EB.out]; exact hpl) H34.out
          have HBA : Aside (¬ (Pl.qs s (j + 1) < s.size ∧ Pl.ap s (j + 1) (Pl.qs s (j + 1) - (j + 1)) = true)) := HB
          clear HB
          go_wp2_with (go_at_call 23; refine (plainByte_any _ _).mono ?_; rintro e w' ⟨rfl, rfl⟩)
          go_ret3
          exact ⟨bad.out HBA.out, rfl⟩
    · have HBA : Aside (¬ (Pl.qs s (j + 1) < s.size ∧ Pl.ap s (j + 1) (Pl.qs s (j + 1) - (j + 1)) = true)) := hpre.fin (by omega)
      go_wp2_with fail
      go_ret3
      exact ⟨bad.out HBA.out, rfl⟩

theorem model_any (s : ByteArray) (i : Nat) (ok : Bool) (w : World) (hs : s.size ≤ 1048578) (hi : i ≤ s.size) :
    Calls Try.prog 10 #[.string s, .int .i64 (i : Int), .bool ok] w fun e w' =>
      e = .returned (.tuple #[.string (Pl.res s i ok).v, .int .i64 ((Pl.res s i ok).p : Int), .bool (Pl.res s i ok).o]) ∧ w' = w := by
  by_cases h : ok = true ∧ Pl.ss s i < s.size ∧ Pl.bat s (Pl.ss s i) = 34
  · obtain ⟨rfl, h1, h2⟩ := h
    exact model_yes s i _ w hs hi rfl h1 h2
  · refine (model_no s i (Pl.ss s i) ok w hs hi rfl (Pl.wl_bd hi).2 h).mono fun e w' ⟨he, hw⟩ => ⟨?_, hw⟩
    rw [he, Pl.res_no h]

end Go.Proofs.Qxb6601645a
