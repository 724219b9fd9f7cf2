/-
  THE WALKS of Str, ZZB1Str.
-/
import Derived.Test.Qxb6601645aStr
namespace Go.Proofs.Qxb6601645a
open Go.RowKit
set_option linter.unusedVariables false

set_option maxHeartbeats 1000000 in
set_option maxRecDepth 100000 in
theorem str_no (w : World) (b : Nat) (s : ByteArray) (i j : Nat) (ok : Bool) (d : Int) (hrd : Rd w b s i ok d) (hs : s.size ≤ 1048578) (hi : i ≤ s.size)
    (hj : Hid (Pl.ss s i = j)) (h : Aside (¬ (ok = true ∧ j < s.size ∧ Pl.bat s j = 34))) :
    Calls Try.prog 21 #[.pointer (some ⟨b, 0, none⟩)] w fun e w' => e = .returned (.string ⟨#[]⟩) ∧ Rd w' b s j false d ∧ Own b w w' := by
  go_enter Try.func21, Try.ntmps21
  go_wp2_with fail
  refine (expect_no _ b s i j ok d hrd hs hi hj h).mono ?_
  rintro e w1 ⟨rfl, hr, ho⟩
  go_wp2
  go_ret
  exact ⟨rfl, hr, ho⟩

set_option maxHeartbeats 1000000 in
set_option maxRecDepth 100000 in
theorem str_none (w : World) (b : Nat) (s : ByteArray) (i j : Nat) (d : Int) (hrd : Rd w b s i true d) (hs : s.size ≤ 1048578) (hi : i ≤ s.size)
    (hj : Hid (Pl.ss s i = j)) (h1 : j < s.size) (h2 : Hid (Pl.bat s j = 34)) (hz : Hid (Lib.indexByte (s.extract (j + 1) s.size).data.toList 34 = -1)) :
    Calls Try.prog 21 #[.pointer (some ⟨b, 0, none⟩)] w fun e w' => e = .returned (.string ⟨#[]⟩) ∧ Rd w' b s (j + 1) false d ∧ Own b w w' := by
  go_enter Try.func21, Try.ntmps21
  go_wp2_with fail
  refine (expect_yes _ b s i j d hrd hs hi hj h1 h2.out).mono ?_
  rintro e w1 ⟨rfl, hr, ho⟩
  obtain ⟨c0, c1, c2, c3, f1, f2⟩ := hr
  have H : Rd w1 b s (j + 1) true d := ⟨c0, c1, c2, c3, f1, f2⟩
  clear hrd
  go_wp2
  go_quiet ((go_at_call 27; exact Calls.quiet_of_same (idx_34 _ _ _ hz)))
  go_wp2
  go_ret
  exact ⟨rfl, (H.drewN _).setO _, (ho.drewN _).setCell 2 _⟩

set_option maxHeartbeats 1000000 in
set_option maxRecDepth 100000 in
theorem str_some (w : World) (b : Nat) (s : ByteArray) (i j k : Nat) (d : Int) (hrd : Rd w b s i true d) (hs : s.size ≤ 1048578) (hi : i ≤ s.size)
    (hj : Hid (Pl.ss s i = j)) (h1 : j < s.size) (h2 : Hid (Pl.bat s j = 34)) (hz : Hid (Lib.indexByte (s.extract (j + 1) s.size).data.toList 34 = (k : Int))) (hk : j + 1 + k < s.size) :
    Calls Try.prog 21 #[.pointer (some ⟨b, 0, none⟩)] w fun e w' => Own b w w' ∧
      ((Pl.ap s (j + 1) k = true ∧ e = .returned (.string (s.extract (j + 1) (j + 1 + k))) ∧ Rd w' b s (j + 1 + k + 1) true d) ∨
       (Pl.ap s (j + 1) k = false ∧ e = .returned (.string ⟨#[]⟩) ∧ Rd w' b s (j + 1) false d)) := by
  go_enter Try.func21, Try.ntmps21
  go_wp2_with fail
  refine (expect_yes _ b s i j d hrd hs hi hj h1 h2.out).mono ?_
  rintro e w1 ⟨rfl, hr, ho⟩
  obtain ⟨c0, c1, c2, c3, f1, f2⟩ := hr
  have H : Rd w1 b s (j + 1) true d := ⟨c0, c1, c2, c3, f1, f2⟩
  clear hrd
  go_wp2
  go_quiet ((go_at_call 27; exact Calls.quiet_of_same (idx_34 _ _ _ hz)))
  revert nq
  intro nA
  go_wp2
  go_quiet (fail)
  go_wp2
  rw [show min (j + 1 + k) s.size - (j + 1) = k by omega]
  have hbp : ∀ x, x < k → Pl.bat (s.extract (j + 1) (j + 1 + k)) x = Pl.bat s (j + 1 + x) := fun x hx => Pl.bat_piece s _ _ x (by omega)
  have hvs : (s.extract (j + 1) (j + 1 + k)).size = k := by rw [ByteArray.size_extract]; omega
  generalize hv : s.extract (j + 1) (j + 1 + k) = v at *
  have HV : Hid (s.extract (j + 1) (j + 1 + k) = v) := hv
  have HBP : Aside (∀ x, x < k → Pl.bat v x = Pl.bat s (j + 1 + x)) := hbp
  have HVS : Hid (v.size = k) := hvs
  have hvs1 : v.size ≤ k := by omega
  have hvs2 : k ≤ v.size := by omega
  clear hv hbp hvs
  go_loopg [42, 5, 6] (k + 8) (fun n a42 _ _ wr => ∃ q : Nat, a42 = .int .i64 (q : Int) ∧ q ≤ k ∧ (∀ x, x < q → Pl.plain (Pl.bat v x) = true) ∧ wr = w1.drewN (nA + nq) ∧ n = k + 8 - q)
  case atStart => exact ⟨0, rfl, Nat.zero_le _, fun x hx => by omega, rfl, rfl⟩
  case round =>
    obtain ⟨q, rfl, hq, hall, rfl, hkk⟩ := hrel
    have HALL : Aside (∀ x, x < q → Pl.plain (Pl.bat v x) = true) := hall
    have HK : Hid (gk = k + 8 - q) := hkk
    clear hall hkk
    by_cases hlt : q < k
    · have hltv : q < v.size := by omega
      have EB : Hid (Pl.bat v q = v[q].toNat) := Pl.bat_in hltv
      cases hpl : Pl.plain v[q].toNat with
      | true =>
        have hpp : 32 ≤ v[q].toNat ∧ v[q].toNat ≤ 126 ∧ v[q].toNat ≠ 92 := by simpa [Pl.plain, and_assoc] using hpl
        have HPL : Hid (Pl.plain (Pl.bat v q) = true) := by show _ = _; rw [EB.out]; exact hpl
        clear hpl
        have t1 : ¬ (v[q].toNat : Int) < 32 := by omega
        have t2 : ¬ 126 < (v[q].toNat : Int) := by omega
        have t3 : ((v[q].toNat : Int) == 92) = false := bf (by omega)
        clear hpp
        go_wp2
        go_roundg (k + 8 - (q + 1))
        case measure => have := HK.out; omega
        case rel => exact ⟨q + 1, by go_num, by omega, fun x hx => by
          by_cases e : x = q
          · rw [e]; exact HPL.out
          · exact HALL.out x (by omega), rfl, rfl⟩
      | false =>
        have HNP : Hid (Pl.ap s (j + 1) k = false) := by
          show _ = _
          rw [← Bool.not_eq_true, Pl.ap_iff]
          intro h
          have := h q hlt
          rw [← HBP.out q hlt, EB.out, hpl] at this
          cases this
        by_cases t1 : (v[q].toNat : Int) < 32
        · clear hpl
          go_wp2
          go_ret
          exact ⟨(ho.drewN _).setCell 2 _, Or.inr ⟨HNP.out, rfl, (H.drewN _).setO _⟩⟩
        by_cases t2 : 126 < (v[q].toNat : Int)
        · clear hpl
          go_wp2
          go_ret
          exact ⟨(ho.drewN _).setCell 2 _, Or.inr ⟨HNP.out, rfl, (H.drewN _).setO _⟩⟩
        have t3 : ((v[q].toNat : Int) == 92) = true := bt (by
          by_cases e : v[q].toNat = 92
          · omega
          · exfalso
            have : Pl.plain v[q].toNat = true := by
              simp only [Pl.plain, Bool.and_eq_true, decide_eq_true_eq, Bool.not_eq_true', beq_eq_false_iff_ne]
              exact ⟨⟨by omega, by omega⟩, e⟩
            rw [hpl] at this; cases this)
        clear hpl
        go_wp2
        go_ret
        exact ⟨(ho.drewN _).setCell 2 _, Or.inr ⟨HNP.out, rfl, (H.drewN _).setO _⟩⟩
    · have HAP : Hid (Pl.ap s (j + 1) k = true) := by
        show _ = _
        rw [Pl.ap_iff]
        intro x hx
        rw [← HBP.out x hx]
        exact HALL.out x (by omega)
      go_wp2
      go_ret
      exact ⟨(ho.drewN _).setCell 1 _, Or.inl ⟨HAP.out, ret_str HV.out.symm, (H.drewN _).setI (j + 1 + k + 1) (by omega)⟩⟩

/-- Str: text, place and OK are 'res'. -/
theorem str_any (w : World) (b : Nat) (s : ByteArray) (i : Nat) (ok : Bool) (d : Int) (hrd : Rd w b s i ok d) (hs : s.size ≤ 1048578) (hi : i ≤ s.size) :
    Calls Try.prog 21 #[.pointer (some ⟨b, 0, none⟩)] w fun e w' => e = .returned (.string (Pl.res s i ok).v) ∧ Rd w' b s (Pl.res s i ok).p (Pl.res s i ok).o d ∧ Own b w w' := by
  by_cases h : ok = true ∧ Pl.ss s i < s.size ∧ Pl.bat s (Pl.ss s i) = 34
  · obtain ⟨rfl, h1, h2⟩ := h
    generalize hj : Pl.ss s i = j at *
    rcases Pl.index_qs s (j + 1) (by omega) with ⟨hz, hq⟩ | ⟨k, hz, hq, hk⟩
    · refine (str_none w b s i j d hrd hs hi hj h1 h2 hz).mono fun e w' ⟨he, hr, ho⟩ => ?_
      rw [Pl.res_bad hj h1 h2 (by rw [hq]; omega)]
      exact ⟨he, hr, ho⟩
    · refine (str_some w b s i j k d hrd hs hi hj h1 h2 hz hk).mono fun e w' ⟨ho, h⟩ => ?_
      rcases h with ⟨ha, he, hr⟩ | ⟨ha, he, hr⟩
      · rw [Pl.res_ok hj h1 h2 hq hk (by rw [show j + 1 + k - (j + 1) = k by omega]; exact ha)]
        exact ⟨he, hr, ho⟩
      · rw [Pl.res_bad hj h1 h2 (fun g => by
          have := g.2
          rw [hq, show j + 1 + k - (j + 1) = k by omega, ha] at this; cases this)]
        exact ⟨he, hr, ho⟩
  · refine (str_no w b s i (Pl.ss s i) ok d hrd hs hi rfl h).mono fun e w' ⟨he, hr, ho⟩ => ?_
    rw [Pl.res_no h]
    exact ⟨he, hr, ho⟩

/-- A Reader in a new block. -/
theorem rd_new (w : World) (s : ByteArray) (i : Nat) (ok : Bool) (d : Int) :
    Rd (w.alloc (.cells #[.string s, .int .i64 (i : Int), .bool ok, .int .i64 d] 35)) w.heap.size s i ok d := by
  refine ⟨?_, ?_, ?_, ?_, ?_, ?_⟩ <;> simp [go_sem]

set_option maxHeartbeats 1000000 in
set_option maxRecDepth 100000 in
theorem zzStr_any (w : World) (s : ByteArray) (i : Nat) (ok : Bool) (d : Int) (hs : s.size ≤ 1048578) (hi : i ≤ s.size) :
    Calls Try.prog 9 #[.string s, .int .i64 (i : Int), .bool ok, .int .i64 d] w fun e w' =>
      e = .returned (.tuple #[.string (Pl.res s i ok).v, .int .i64 ((Pl.res s i ok).p : Int), .bool (Pl.res s i ok).o, .int .i64 d]) ∧ Grown w w' := by
  go_enter Try.func9, Try.ntmps9
  go_wp2_with fail
  refine (str_any _ w.heap.size s i ok d (rd_new w s i ok d) hs hi).mono ?_
  rintro e w1 ⟨rfl, hr, hO⟩
  have HG : Grown w w1 := Own.grown ((Grown.refl w).alloc _ _) (Nat.le_refl _) hO
  clear hO
  generalize hres : Pl.res s i ok = r at *
  obtain ⟨v, p, o⟩ := r
  have HR : Hid (Pl.res s i ok = ⟨v, p, o⟩) := hres
  clear hres
  dsimp only at *
  obtain ⟨c0, c1, c2, c3, f1, f2⟩ := hr
  go_wp2
  go_quiet (fail)
  go_wp2
  refine bodyPost_ret (v := .tuple #[.string v, .int .i64 (p : Int), .bool o, .int .i64 d]) (by simp [results, Try.results9, go_sem]) rfl ⟨by rw [HR.out], HG⟩

end Go.Proofs.Qxb6601645a
