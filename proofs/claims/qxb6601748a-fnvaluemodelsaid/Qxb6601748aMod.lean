/-
  THE WALKS of ZZValue, isTchar, and of the model's token.
-/
import Derived.Test.Qxb6601748aVal
import Derived.Laws.IdiomStrings
import Derived.Lib.BufferRead
namespace Go.Proofs.Qxb6601748a
open Go.RowKit
set_option linter.unusedVariables false

/-- The value, whichever its kind. -/
theorem value_any (w : World) (b : Nat) (s : ByteArray) (p : Nat) (hh : Hp w b s p) (hs : s.size ≤ 1048576) (hp : p ≤ s.size) (hbw : b < w.heap.size) :
    Calls Try.prog 25 #[.pointer (some ⟨b, 0, none⟩)] w fun e w' => e = .returned (.string (Pl.value s p).1) ∧ Hp w' b s (Pl.value s p).2 ∧ Below b w w' := by
  by_cases h : p < s.size ∧ Pl.bu s p = 34
  · rw [show Pl.value s p = (⟨(Pl.va s (p + 1)).1.toArray⟩, (Pl.va s (p + 1)).2) by unfold Pl.value; rw [if_pos h]]
    exact value_quoted w b s p hh hs h.1 h.2 hbw
  · rw [show Pl.value s p = (s.extract p (Pl.tend s p), Pl.tend s p) by unfold Pl.value; rw [if_neg h]]
    exact value_tok w b s p hh hs hp h

theorem hp_new (w : World) (s : ByteArray) (p : Nat) : Hp (w.alloc (.cells #[.string s, .int .i64 (p : Int)] 50)) w.heap.size s p := by
  refine ⟨?_, ?_, ?_⟩ <;> simp [go_sem]

set_option maxHeartbeats 1000000 in
set_option maxRecDepth 100000 in
theorem zzValue_any (w : World) (s : ByteArray) (p : Nat) (hs : s.size ≤ 1048576) (hp : p ≤ s.size) :
    Calls Try.prog 18 #[.string s, .int .i64 (p : Int)] w fun e w' => e = .returned (.tuple #[.string (Pl.value s p).1, .int .i64 ((Pl.value s p).2 : Int)]) ∧ Below w.heap.size w w' := by
  go_enter Try.func18, Try.ntmps18
  go_wp2_with fail
  refine (value_any _ w.heap.size s p (hp_new w s p) hs hp (by simp)).mono ?_
  rintro e w1 ⟨rfl, h1, b1⟩
  have hb : Below w.heap.size w w1 := ((Below.refl w.heap.size w).alloc (Nat.le_refl _) _).trans b1
  clear b1
  generalize hv : Pl.value s p = r at *
  obtain ⟨v, q⟩ := r
  have HV : Hid (Pl.value s p = (v, q)) := hv
  clear hv
  dsimp only at *
  obtain ⟨c0, c1, f1⟩ := h1
  go_wp2
  go_quiet (fail)
  go_wp2
  go_ret2
  exact ⟨by rw [HV.out]; rfl, below_drewN hb _⟩

theorem tk_iff (c : Nat) : Pl.tk c = true ↔ ((97 ≤ c ∧ c ≤ 122) ∨ (65 ≤ c ∧ c ≤ 90) ∨ (48 ≤ c ∧ c ≤ 57) ∨ c = 33 ∨ c = 35 ∨ c = 36 ∨ c = 37 ∨ c = 38 ∨ c = 39 ∨ c = 42 ∨ c = 43 ∨ c = 45 ∨ c = 46 ∨ c = 94 ∨ c = 95 ∨ c = 96 ∨ c = 124 ∨ c = 126) := by
  simp [Pl.tk, or_assoc]
theorem tk_no {c : Nat} (h : ¬ ((97 ≤ c ∧ c ≤ 122) ∨ (65 ≤ c ∧ c ≤ 90) ∨ (48 ≤ c ∧ c ≤ 57) ∨ c = 33 ∨ c = 35 ∨ c = 36 ∨ c = 37 ∨ c = 38 ∨ c = 39 ∨ c = 42 ∨ c = 43 ∨ c = 45 ∨ c = 46 ∨ c = 94 ∨ c = 95 ∨ c = 96 ∨ c = 124 ∨ c = 126)) : Pl.tk c = false := by
  rw [← Bool.not_eq_true, tk_iff]; exact h

set_option maxHeartbeats 1000000 in
set_option maxRecDepth 100000 in
theorem isTchar_any (c : Nat) (w : World) :
    Calls Try.prog 26 #[.int .u8 (c : Int)] w fun e w' => e = .returned (.bool (Pl.tk c)) ∧ w' = w := by
  by_cases g1 : 97 ≤ c ∧ c ≤ 122
  · have HT : Hid (Pl.tk c = true) := (tk_iff c).2 (by omega)
    have a1 : (97 : Int) ≤ (c : Int) := by omega
    have a2 : (c : Int) ≤ 122 := by omega
    clear g1
    go_enter Try.func26, Try.ntmps26
    go_wp2
    go_ret
    exact ⟨ret_bool HT.out.symm, rfl⟩
  by_cases g2 : 65 ≤ c ∧ c ≤ 90
  · have HT : Hid (Pl.tk c = true) := (tk_iff c).2 (by omega)
    have a1 : ¬ (97 : Int) ≤ (c : Int) := by omega
    have a2 : (65 : Int) ≤ (c : Int) := by omega
    have a3 : (c : Int) ≤ 90 := by omega
    clear g1 g2
    go_enter Try.func26, Try.ntmps26
    go_wp2
    go_ret
    exact ⟨ret_bool HT.out.symm, rfl⟩
  by_cases g3 : 48 ≤ c ∧ c ≤ 57
  · have HT : Hid (Pl.tk c = true) := (tk_iff c).2 (by omega)
    have a1 : ¬ (97 : Int) ≤ (c : Int) := by omega
    have a2 : ¬ (65 : Int) ≤ (c : Int) := by omega
    have a3 : (48 : Int) ≤ (c : Int) := by omega
    have a4 : (c : Int) ≤ 57 := by omega
    clear g1 g2 g3
    go_enter Try.func26, Try.ntmps26
    go_wp2
    go_ret
    exact ⟨ret_bool HT.out.symm, rfl⟩
  by_cases h1 : 123 ≤ c
  · have a1 : (97 : Int) ≤ (c : Int) := by omega
    have a2 : ¬ (c : Int) ≤ 122 := by omega
    have a3 : (65 : Int) ≤ (c : Int) := by omega
    have a4 : ¬ (c : Int) ≤ 90 := by omega
    have a5 : (48 : Int) ≤ (c : Int) := by omega
    have a6 : ¬ (c : Int) ≤ 57 := by omega
    clear g1 g2 g3
    go_enter Try.func26, Try.ntmps26
    go_wp2
    all_goals
      go_ret
      refine ⟨ret_bool ?_, rfl⟩
      simp only [beq_iff_eq, beq_eq_false_iff_ne, ne_eq] at *
      first
        | exact ((tk_iff c).2 (by omega)).symm
        | exact (tk_no (by omega)).symm
  by_cases h2 : 91 ≤ c
  · have a1 : ¬ (97 : Int) ≤ (c : Int) := by omega
    have a3 : (65 : Int) ≤ (c : Int) := by omega
    have a4 : ¬ (c : Int) ≤ 90 := by omega
    have a5 : (48 : Int) ≤ (c : Int) := by omega
    have a6 : ¬ (c : Int) ≤ 57 := by omega
    clear g2 g3
    go_enter Try.func26, Try.ntmps26
    go_wp2
    all_goals
      go_ret
      refine ⟨ret_bool ?_, rfl⟩
      simp only [beq_iff_eq, beq_eq_false_iff_ne, ne_eq] at *
      first
        | exact ((tk_iff c).2 (by omega)).symm
        | exact (tk_no (by omega)).symm
  by_cases h3 : 58 ≤ c
  · have HT : Hid (Pl.tk c = false) := tk_no (by omega)
    have a1 : ¬ (97 : Int) ≤ (c : Int) := by omega
    have a3 : ¬ (65 : Int) ≤ (c : Int) := by omega
    have a5 : (48 : Int) ≤ (c : Int) := by omega
    have a6 : ¬ (c : Int) ≤ 57 := by omega
    clear g1 g2 g3
    go_enter Try.func26, Try.ntmps26
    go_wp2
    go_ret
    exact ⟨ret_bool HT.out.symm, rfl⟩
  · have a1 : ¬ (97 : Int) ≤ (c : Int) := by omega
    have a3 : ¬ (65 : Int) ≤ (c : Int) := by omega
    have a5 : ¬ (48 : Int) ≤ (c : Int) := by omega
    clear g1 g2 g3
    go_enter Try.func26, Try.ntmps26
    go_wp2
    all_goals
      go_ret
      refine ⟨ret_bool ?_, rfl⟩
      simp only [beq_iff_eq, beq_eq_false_iff_ne, ne_eq] at *
      first
        | exact ((tk_iff c).2 (by omega)).symm
        | exact (tk_no (by omega)).symm

set_option maxHeartbeats 1000000 in
set_option maxRecDepth 100000 in
theorem model_tok (w : World) (s : ByteArray) (p : Nat) (hs : s.size ≤ 1048576) (hp : p ≤ s.size) (hq : Aside (¬ (p < s.size ∧ Pl.bu s p = 34))) :
    Calls Try.prog 19 #[.string s, .int .i64 (p : Int)] w fun e w' => e = .returned (.tuple #[.string (s.extract p (Pl.tend s p)), .int .i64 (Pl.tend s p : Nat)]) ∧ w' = w := by
  have key : Calls Try.prog 19 #[.string s, .int .i64 (p : Int)] w fun e w' => e = .returned (.tuple #[.string (s.extract p (Pl.tend s p)), .int .i64 (Pl.tend s p : Nat)]) ∧ w' = w := by
    by_cases hlt0 : p < s.size
    · have hne : ¬ s[p].toNat = 34 := fun e => hq.out ⟨hlt0, by rw [Pl.bu_in hlt0]; exact UInt8.toNat_inj.1 e⟩
      have t0 : ((s[p].toNat : Int) != 34) = true := nt (by omega)
      clear hne
      go_enter Try.func19, Try.ntmps19
      go_wp2_with fail
      go_loopg [6] (s.size + 8 - p) (fun n a6 wr => ∃ q : Nat, a6 = .int .i64 (q : Int) ∧ p ≤ q ∧ q ≤ s.size ∧ Pl.tend s q = Pl.tend s p ∧ w = wr ∧ n = s.size + 8 - q)
      case atStart => exact ⟨p, rfl, Nat.le_refl _, hp, rfl, rfl, rfl⟩
      case round =>
        obtain ⟨q, rfl, hpq, hqs, hte, rfl, hk⟩ := hrel
        have HTE : Hid (Pl.tend s q = Pl.tend s p) := hte
        have HK : Hid (gk = s.size + 8 - q) := hk
        clear hte hk
        by_cases hlt : q < s.size
        · have EB : Hid (Pl.bu s q = s[q]) := Pl.bu_in hlt
          cases htk : Pl.tk s[q].toNat with
          | true =>
            go_wp2_with (go_at_call 26; refine (isTchar_any _ _).mono ?_; rintro e w' ⟨rfl, rfl⟩)
            go_roundg (s.size + 8 - (q + 1))
            case measure => have := HK.out; omega
            case rel => exact ⟨q + 1, by go_num, by omega, by omega, by rw [← HTE.out]; exact (Pl.tend_step hlt (by rw [EB.out]; exact htk)).symm, rfl, rfl⟩
          | false =>
            have HST : Hid (Pl.tend s q = q) := Pl.tend_stop (fun h => by have := h.2; rw [EB.out, htk] at this; cases this)
            go_wp2_with (go_at_call 26; refine (isTchar_any _ _).mono ?_; rintro e w' ⟨rfl, rfl⟩)
            go_ret2
            rw [← HTE.out, HST.out]
            exact ⟨rfl, rfl⟩
        · have HST : Hid (Pl.tend s q = q) := Pl.tend_stop (fun h => hlt h.1)
          go_wp2_with fail
          go_ret2
          rw [← HTE.out, HST.out]
          exact ⟨rfl, rfl⟩
    · have HST : Hid (Pl.tend s p = p) := Pl.tend_stop (fun h => hlt0 h.1)
      go_enter Try.func19, Try.ntmps19
      go_wp2_with fail
      go_loopg [6] 1 (fun n a6 wr => a6 = .int .i64 (p : Int) ∧ w = wr)
      case atStart => exact ⟨rfl, rfl⟩
      case round =>
        obtain ⟨rfl, rfl⟩ := hrel
        go_wp2_with fail
        go_ret2
        rw [HST.out]
        exact ⟨by rw [show s.extract p p = ByteArray.empty by rw [Lib.extract_eq, Nat.sub_self, List.take_zero]; rfl]; rfl, rfl⟩
  exact key

end Go.Proofs.Qxb6601748a
