/-
  THE WALK of yToNext.
-/
import Derived.Test.Qxb6601242aMwk
namespace Go.Proofs.Qxb6601242a
open Go.RowKit
set_option linter.unusedVariables false

set_option maxHeartbeats 2000000 in
set_option maxRecDepth 100000 in
theorem yToNext_any (s : ByteArray) (p : Nat) (fl : Int) (ka : Bool) (w : World) (hs : s.size ≤ 1048576) (hp : p ≤ s.size + 4) :
    Calls Try.prog 23 #[.string s, .int .i64 (p : Int), .int .i64 fl, .bool ka] w fun e w' =>
      e = .returned (.tuple #[.int .i64 ((Pl.tn s fl (p, ka)).1 : Int), .bool (Pl.tn s fl (p, ka)).2]) ∧ w' = w := by
  go_enter Try.func23, Try.ntmps23
  go_wp2
  go_loopg [10, 11, 12, 13] (s.size + 8 - p) (fun n a10 a11 _ _ wr => ∃ (q : Nat) (k : Bool), a10 = .int .i64 (q : Int) ∧ a11 = .bool k ∧ q ≤ s.size + 4 ∧ Pl.tn s fl (q, k) = Pl.tn s fl (p, ka) ∧ w = wr ∧ n = s.size + 8 - q)
  case atStart => exact ⟨p, ka, rfl, rfl, hp, rfl, rfl, rfl⟩
  case round =>
    obtain ⟨q, k, rfl, rfl, hq, htn, rfl, hk⟩ := hrel
    have HTN : Hid (Pl.tn s fl (q, k) = Pl.tn s fl (p, ka)) := htn
    have HK : Hid (gk = s.size + 8 - q) := hk
    clear htn hk
    have fin : Aside (Pl.tn s fl (q, k) = (q, k) → Ending.returned (.tuple #[.int .i64 (q : Int), .bool k]) = .returned (.tuple #[.int .i64 ((Pl.tn s fl (p, ka)).1 : Int), .bool (Pl.tn s fl (p, ka)).2])) :=
      fun h => by rw [← HTN.out, h]
    by_cases hlt : q < s.size
    · have EB : Hid (Pl.bat s q = s[q].toNat) := Pl.bat_in hlt
      by_cases h32 : s[q].toNat = 32
      · have t32 : ((s[q].toNat : Int) == 32) = true := bt (by omega)
        have HB : Hid (Pl.bl (Pl.bat s q) fl k = true) := by show _ = _; rw [EB.out, h32]; rfl
        clear h32
        go_wp2_with fail
        go_roundg (s.size + 8 - (q + 1))
        case measure => have := HK.out; omega
        case rel => exact ⟨q + 1, k, by go_num, rfl, by omega, by rw [← HTN.out]; exact (Pl.tn_blank hlt HB.out).symm, rfl, rfl⟩
      have t32 : ((s[q].toNat : Int) == 32) = false := bf (by omega)
      by_cases h9 : s[q].toNat = 9
      · have t9 : ((s[q].toNat : Int) == 9) = true := bt (by omega)
        have t35 : ((s[q].toNat : Int) == 35) = false := bf (by omega)
        by_cases hfl : fl = 0
        · have tfl : (fl == 0) = true := bt hfl
          cases k with
          | true =>
            have HB : Hid (Pl.bl (Pl.bat s q) fl true = false ∧ Pl.bat s q ≠ 35 ∧ Pl.brk s q = 0) := by
              show _ ∧ _ ∧ _
              refine ⟨by rw [EB.out, h9, hfl]; rfl, by rw [EB.out, h9]; decide, Pl.brk_of ?_ ?_ ?_ ?_⟩ <;> rw [EB.out, h9] <;> decide
            have tk : (((Pl.brk s q : Nat) : Int) == 0) = true := bt (by have := HB.out.2.2; omega)
            clear hfl h9 h32
            go_wp2_with (first | (go_at_call 26; refine (yBreakWidth_any s _ _ (by omega) (by omega)).mono ?_; rintro e w' ⟨rfl, rfl⟩))
            go_ret2
            exact ⟨fin.out (Pl.tn_stop (Or.inr HB.out)), rfl⟩
          | false =>
            have HB : Hid (Pl.bl (Pl.bat s q) fl false = true) := by show _ = _; rw [EB.out, h9, hfl]; rfl
            clear hfl h9 h32
            go_wp2_with fail
            go_roundg (s.size + 8 - (q + 1))
            case measure => have := HK.out; omega
            case rel => exact ⟨q + 1, false, by go_num, rfl, by omega, by rw [← HTN.out]; exact (Pl.tn_blank hlt HB.out).symm, rfl, rfl⟩
        · have tfl : (fl == 0) = false := bf hfl
          have HB : Hid (Pl.bl (Pl.bat s q) fl k = true) := by show _ = _; unfold Pl.bl; rw [EB.out, h9, tfl]; rfl
          clear hfl h9 h32
          go_wp2_with fail
          go_roundg (s.size + 8 - (q + 1))
          case measure => have := HK.out; omega
          case rel => exact ⟨q + 1, k, by go_num, rfl, by omega, by rw [← HTN.out]; exact (Pl.tn_blank hlt HB.out).symm, rfl, rfl⟩
      have t9 : ((s[q].toNat : Int) == 9) = false := bf (by omega)
      have HNB : Hid (Pl.bl (Pl.bat s q) fl k = false) := by
        show _ = _
        unfold Pl.bl
        rw [EB.out, beq_eq_false_iff_ne.2 h32, beq_eq_false_iff_ne.2 h9]; rfl
      clear h9 h32
      by_cases h35 : s[q].toNat = 35
      · have t35 : ((s[q].toNat : Int) == 35) = true := bt (by omega)
        have H35 : Hid (Pl.bat s q = 35) := EB.out.trans h35
        clear h35
        have hgt := Pl.cre_gt hlt H35.out
        have hbd := Pl.cre_bd (s := s) (p := q) (by omega)
        go_wp2_with (first | (go_at_call 18; refine (yCommentRunEnd_any s q _ hs hq).mono ?_; rintro e w' ⟨rfl, rfl⟩))
        go_roundg (s.size + 8 - Pl.cre s q)
        case measure => have := HK.out; omega
        case rel => exact ⟨Pl.cre s q, k, rfl, rfl, hbd, by rw [← HTN.out]; exact (Pl.tn_hash hlt H35.out).symm, rfl, rfl⟩
      · have t35 : ((s[q].toNat : Int) == 35) = false := bf (by omega)
        have H35 : Hid (Pl.bat s q ≠ 35) := by show _ ≠ _; rw [EB.out]; exact h35
        clear h35
        have hb3 := Pl.brk_le s q
        by_cases hbk : Pl.brk s q = 0
        · have tk : (((Pl.brk s q : Nat) : Int) == 0) = true := bt (by omega)
          have HBK : Hid (Pl.brk s q = 0) := hbk
          clear hbk
          go_wp2_with (first | (go_at_call 26; refine (yBreakWidth_any s _ _ (by omega) (by omega)).mono ?_; rintro e w' ⟨rfl, rfl⟩))
          go_ret2
          exact ⟨fin.out (Pl.tn_stop (Or.inr ⟨HNB.out, H35.out, HBK.out⟩)), rfl⟩
        · have tk : (((Pl.brk s q : Nat) : Int) == 0) = false := bf (by omega)
          have HBK : Hid (Pl.brk s q ≠ 0) := hbk
          have hbpos : 0 < Pl.brk s q := Nat.pos_of_ne_zero hbk
          clear hbk
          by_cases hfl : fl = 0
          · have tfl : (fl == 0) = true := bt hfl
            have HKB : Hid (Pl.kb fl k = true) := by show _ = _; unfold Pl.kb; rw [if_pos hfl]
            clear hfl
            go_wp2_with (first | (go_at_call 26; refine (yBreakWidth_any s _ _ (by omega) (by omega)).mono ?_; rintro e w' ⟨rfl, rfl⟩))
            go_roundg (s.size + 8 - (q + Pl.brk s q))
            case measure => have := HK.out; omega
            case rel => exact ⟨q + Pl.brk s q, true, by go_num, rfl, by omega, by rw [← HTN.out, Pl.tn_brk HBK.out, HKB.out], rfl, rfl⟩
          · have tfl : (fl == 0) = false := bf hfl
            have HKB : Hid (Pl.kb fl k = k) := by show _ = _; unfold Pl.kb; rw [if_neg hfl]
            clear hfl
            go_wp2_with (first | (go_at_call 26; refine (yBreakWidth_any s _ _ (by omega) (by omega)).mono ?_; rintro e w' ⟨rfl, rfl⟩))
            go_roundg (s.size + 8 - (q + Pl.brk s q))
            case measure => have := HK.out; omega
            case rel => exact ⟨q + Pl.brk s q, k, by go_num, rfl, by omega, by rw [← HTN.out, Pl.tn_brk HBK.out, HKB.out], rfl, rfl⟩
    · go_wp2_with fail
      go_ret2
      exact ⟨fin.out (Pl.tn_stop (Or.inl hlt)), rfl⟩

end Go.Proofs.Qxb6601242a
