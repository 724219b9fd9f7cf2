/-
  THE WALK of FnPlainjsonStrRoundTrip inside its bounds.
-/
import Derived.Test.Qxb6601645aStr2
import Derived.Test.Qxb6601645aMod
namespace Go.Proofs.Qxb6601645a
open Go.RowKit
set_option linter.unusedVariables false

theorem zzb11_yes (p v q : ByteArray) (d : Int) (w : World) (h1 : p.size ≤ 1048576) (h2 : v.size ≤ 1048576) (h3 : q.size ≤ 1048576) (h : p.size + v.size + q.size ≤ 1048576) :
    Calls Try.prog 11 #[.string p, .string v, .string q, .int .i64 d] w fun e w' => e = .returned (.bool true) ∧ w' = w := by
  go_enter Try.func11, Try.ntmps11
  go_wp2
  go_ret
  exact ⟨rfl, rfl⟩
theorem zzb11_no (p v q : ByteArray) (d : Int) (w : World) (h1 : p.size ≤ 9223372036854775807) (h2 : v.size ≤ 9223372036854775807) (h3 : q.size ≤ 9223372036854775807) (h : ¬ (p.size + v.size + q.size ≤ 1048576)) :
    Calls Try.prog 11 #[.string p, .string v, .string q, .int .i64 d] w fun e w' => e = .returned (.bool false) ∧ w' = w := by
  by_cases g1 : 1048576 < p.size
  · go_enter Try.func11, Try.ntmps11
    go_wp2
    go_ret
    exact ⟨rfl, rfl⟩
  by_cases g2 : 1048576 < v.size
  · go_enter Try.func11, Try.ntmps11
    go_wp2
    go_ret
    exact ⟨rfl, rfl⟩
  by_cases g3 : 1048576 < p.size + v.size
  · go_enter Try.func11, Try.ntmps11
    go_wp2
    go_ret
    exact ⟨rfl, rfl⟩
  by_cases g4 : 1048576 < q.size
  · go_enter Try.func11, Try.ntmps11
    go_wp2
    go_ret
    exact ⟨rfl, rfl⟩
  go_enter Try.func11, Try.ntmps11
  go_wp2
  go_ret
  exact ⟨rfl, rfl⟩

/-- No quote in v. -/
def Pl.nq (v : ByteArray) : Bool := (List.range v.size).all fun j => !(Pl.bat v j == 34)
theorem Pl.nq_iff (v : ByteArray) : Pl.nq v = true ↔ ∀ j, j < v.size → Pl.bat v j ≠ 34 := by simp [Pl.nq]

set_option maxHeartbeats 1000000 in
set_option maxRecDepth 100000 in
theorem hasQuote_any (v : ByteArray) (w : World) (hs : v.size ≤ 1048576) :
    Calls Try.prog 12 #[.string v] w fun e w' => e = .returned (.bool (!(Pl.nq v))) ∧ w' = w := by
  go_enter Try.func12, Try.ntmps12
  go_wp2
  go_loopg [3] (v.size + 8) (fun n a3 wr => ∃ q : Nat, a3 = .int .i64 (q : Int) ∧ q ≤ v.size ∧ (∀ j, j < q → Pl.bat v j ≠ 34) ∧ w = wr ∧ n = v.size + 8 - q)
  case atStart => exact ⟨0, rfl, Nat.zero_le _, fun j h => by omega, rfl, rfl⟩
  case round =>
    obtain ⟨q, rfl, hq, hall, rfl, hk⟩ := hrel
    have HA : Aside (∀ j, j < q → Pl.bat v j ≠ 34) := hall
    have HK : Hid (gk = v.size + 8 - q) := hk
    clear hall hk
    by_cases hlt : q < v.size
    · have EB : Hid (Pl.bat v q = v[q].toNat) := Pl.bat_in hlt
      by_cases h34 : v[q].toNat = 34
      · have t : ((v[q].toNat : Int) == 34) = true := bt (by omega)
        have HN : Hid (Pl.nq v = false) := by
          show _ = _
          rw [← Bool.not_eq_true, Pl.nq_iff]
          exact fun h => h q hlt (EB.out.trans h34)
        clear h34
        go_wp2
        go_ret
        exact ⟨ret_bool (by rw [HN.out]; rfl), rfl⟩
      · have t : ((v[q].toNat : Int) == 34) = false := bf (by omega)
        have HN : Hid (Pl.bat v q ≠ 34) := by show _ ≠ _; rw [EB.out]; exact h34
        clear h34
        go_wp2
        go_roundg (v.size + 8 - (q + 1))
        case measure => have := HK.out; omega
        case rel => exact ⟨q + 1, by go_num, by omega, fun j hj => by
          by_cases e : j = q
          · rw [e]; exact HN.out
          · exact HA.out j (by omega), rfl, rfl⟩
    · have HN : Hid (Pl.nq v = true) := by
        show _ = _
        rw [Pl.nq_iff]
        exact fun j hj => HA.out j (by omega)
      go_wp2
      go_ret
      exact ⟨ret_bool (by rw [HN.out]; rfl), rfl⟩

set_option maxHeartbeats 1000000 in
set_option maxRecDepth 100000 in
theorem allPlain_any (v : ByteArray) (w : World) (hs : v.size ≤ 1048576) :
    Calls Try.prog 13 #[.string v] w fun e w' => e = .returned (.bool (Pl.ap v 0 v.size)) ∧ w' = w := by
  go_enter Try.func13, Try.ntmps13
  go_wp2
  go_loopg [3] (v.size + 8) (fun n a3 wr => ∃ q : Nat, a3 = .int .i64 (q : Int) ∧ q ≤ v.size ∧ (∀ j, j < q → Pl.plain (Pl.bat v j) = true) ∧ w = wr ∧ n = v.size + 8 - q)
  case atStart => exact ⟨0, rfl, Nat.zero_le _, fun j h => by omega, rfl, rfl⟩
  case round =>
    obtain ⟨q, rfl, hq, hall, rfl, hk⟩ := hrel
    have HA : Aside (∀ j, j < q → Pl.plain (Pl.bat v j) = true) := hall
    have HK : Hid (gk = v.size + 8 - q) := hk
    clear hall hk
    by_cases hlt : q < v.size
    · have EB : Hid (Pl.bat v q = v[q].toNat) := Pl.bat_in hlt
      cases hpl : Pl.plain v[q].toNat with
      | true =>
        go_wp2_with (go_at_call 23; refine (plainByte_any _ _).mono ?_; rintro e w' ⟨rfl, rfl⟩)
        go_roundg (v.size + 8 - (q + 1))
        case measure => have := HK.out; omega
        case rel => exact ⟨q + 1, by go_num, by omega, fun j hj => by
          by_cases e : j = q
          · rw [e, EB.out]; exact hpl
          · exact HA.out j (by omega), rfl, rfl⟩
      | false =>
        have HN : Hid (Pl.ap v 0 v.size = false) := by
          show _ = _
          rw [← Bool.not_eq_true, Pl.ap_iff]
          intro h
          have := h q hlt
          rw [Nat.zero_add, EB.out, hpl] at this
          cases this
        go_wp2_with (go_at_call 23; refine (plainByte_any _ _).mono ?_; rintro e w' ⟨rfl, rfl⟩)
        go_ret
        exact ⟨ret_bool (by rw [HN.out]), rfl⟩
    · have HN : Hid (Pl.ap v 0 v.size = true) := by
        show _ = _
        rw [Pl.ap_iff]
        intro j hj
        rw [Nat.zero_add]
        exact HA.out j (by omega)
      go_wp2
      go_ret
      exact ⟨ret_bool (by rw [HN.out]), rfl⟩

/-! ### A text between quotes -/
theorem Pl.quoted_list (p v q : ByteArray) : (p ++ { data := #[34] } ++ v ++ { data := #[34] } ++ q).data.toList = p.data.toList ++ (34 :: (v.data.toList ++ (34 :: q.data.toList))) := by
  simp [ByteArray.data_append]

theorem Pl.quoted_size (p v q : ByteArray) : (p ++ { data := #[34] } ++ v ++ { data := #[34] } ++ q).size = p.size + v.size + q.size + 2 := by
  rw [Lib.size_eq, Pl.quoted_list, Lib.size_eq p, Lib.size_eq v, Lib.size_eq q]
  simp
  omega

theorem Pl.quoted_open (p v q : ByteArray) : Pl.bat (p ++ { data := #[34] } ++ v ++ { data := #[34] } ++ q) p.size = 34 := by
  rw [Pl.bat_list, Pl.quoted_list, Lib.size_eq p, List.getElem?_append_right (Nat.le_refl _), Nat.sub_self]
  rfl
theorem Pl.quoted_in (p v q : ByteArray) (j : Nat) (hj : j < v.size) : Pl.bat (p ++ { data := #[34] } ++ v ++ { data := #[34] } ++ q) (p.size + 1 + j) = Pl.bat v j := by
  rw [Pl.bat_list, Pl.bat_list, Pl.quoted_list, Lib.size_eq p, List.getElem?_append_right (by omega), show p.data.toList.length + 1 + j - p.data.toList.length = j + 1 by omega,
    List.getElem?_cons_succ, List.getElem?_append_left (by rw [← Lib.size_eq]; exact hj)]
theorem Pl.quoted_close (p v q : ByteArray) : Pl.bat (p ++ { data := #[34] } ++ v ++ { data := #[34] } ++ q) (p.size + 1 + v.size) = 34 := by
  rw [Pl.bat_list, Pl.quoted_list, Lib.size_eq p, List.getElem?_append_right (by omega), show p.data.toList.length + 1 + v.size - p.data.toList.length = v.size + 1 by omega,
    List.getElem?_cons_succ, List.getElem?_append_right (by rw [← Lib.size_eq]; exact Nat.le_refl _), ← Lib.size_eq, Nat.sub_self]
  rfl
theorem Pl.quoted_cut (p v q : ByteArray) : (p ++ { data := #[34] } ++ v ++ { data := #[34] } ++ q).extract (p.size + 1) (p.size + 1 + v.size) = v := by
  rw [Lib.extract_eq, Pl.quoted_list, show p.size + 1 + v.size - (p.size + 1) = v.size by omega, Lib.size_eq p, List.drop_append, List.drop_of_length_le (by omega),
    show p.data.toList.length + 1 - p.data.toList.length = 1 by omega, List.nil_append, List.drop_succ_cons, List.drop_zero, Lib.size_eq v, List.take_append_of_le_length (Nat.le_refl _), List.take_length]

theorem Pl.quoted_res (p v q : ByteArray) (hn : Pl.nq v = true) :
    Pl.res (p ++ { data := #[34] } ++ v ++ { data := #[34] } ++ q) p.size true = if Pl.ap v 0 v.size = true then ⟨v, p.size + v.size + 2, true⟩ else ⟨⟨#[]⟩, p.size + 1, false⟩ := by
  have hsz := Pl.quoted_size p v q
  have ho := Pl.quoted_open p v q
  have hc := Pl.quoted_close p v q
  have hi := Pl.quoted_in p v q
  have hx := Pl.quoted_cut p v q
  generalize p ++ { data := #[34] } ++ v ++ { data := #[34] } ++ q = s at *
  have hss : Pl.ss s p.size = p.size := Pl.wl_stop (fun h => by have := h.2; rw [ho] at this; cases this)
  have hqs : Pl.qs s (p.size + 1) = p.size + 1 + v.size := by
    unfold Pl.qs
    rw [Pl.wl_run v.size (fun j g1 g2 => ⟨by omega, ?_⟩), Pl.wl_stop (fun h => by have := h.2; rw [hc] at this; cases this)]
    have h1 := hi (j - (p.size + 1)) (by omega)
    rw [show p.size + 1 + (j - (p.size + 1)) = j by omega] at h1
    have h2 := (Pl.nq_iff v).1 hn (j - (p.size + 1)) (by omega)
    rw [h1]
    simpa using h2
  have hap : Pl.ap s (p.size + 1) v.size = Pl.ap v 0 v.size := by
    rw [Bool.eq_iff_iff, Pl.ap_iff, Pl.ap_iff]
    constructor
    · intro h j hj
      have := h j hj
      rw [hi j hj] at this
      rw [Nat.zero_add]; exact this
    · intro h j hj
      have := h j hj
      rw [Nat.zero_add] at this
      rw [hi j hj]; exact this
  split
  · rename_i ha
    rw [Pl.res_ok hss (by omega) ho hqs (by omega) (by rw [show p.size + 1 + v.size - (p.size + 1) = v.size by omega, hap]; exact ha), hx, show p.size + 1 + v.size + 1 = p.size + v.size + 2 by omega]
  · rename_i ha
    rw [Pl.res_bad hss (by omega) ho (fun h => ha (by
      have := h.2
      rw [hqs, show p.size + 1 + v.size - (p.size + 1) = v.size by omega, hap] at this; exact this))]

set_option maxHeartbeats 1000000 in
set_option maxRecDepth 100000 in
theorem rt_main (p v q : ByteArray) (d : Int) (w : World) (h1 : p.size ≤ 262144) (h2 : v.size ≤ 262144) (h3 : q.size ≤ 262144) (hn : Pl.nq v = true) :
    Calls Try.prog 4 #[.string p, .string v, .string q, .int .i64 d] w fun e w' => e = .returned (.bool true) ∧ Grown w w' := by
  go_enter Try.func4, Try.ntmps4
  go_wp2_with (first | (go_at_call 11; refine (zzb11_yes _ _ _ _ _ (by omega) (by omega) (by omega) (by omega)).mono ?_; rintro e w' ⟨rfl, rfl⟩) | (go_at_call 12; refine (hasQuote_any v _ (by omega)).mono ?_; rintro e w' ⟨rfl, rfl⟩))
  refine (zzStr_any _ _ p.size true d (by rw [Pl.quoted_size]; omega) (by rw [Pl.quoted_size]; omega)).mono ?_
  rw [Pl.quoted_res p v q hn]
  rintro e w1 ⟨rfl, hG⟩
  cases hap : Pl.ap v 0 v.size with
  | true =>
    rw [if_pos rfl]
    dsimp only
    go_wp2_with (go_at_call 13; refine (allPlain_any v _ (by omega)).mono ?_; rintro e w' ⟨rfl, rfl⟩)
    go_ret
    exact ⟨rfl, hG⟩
  | false =>
    rw [if_neg (by decide)]
    dsimp only
    go_wp2_with (go_at_call 13; refine (allPlain_any v _ (by omega)).mono ?_; rintro e w' ⟨rfl, rfl⟩)
    go_ret
    exact ⟨rfl, hG⟩

end Go.Proofs.Qxb6601645a
