/-
  THE WALK of FnToNextTokenStops.
-/
import Derived.Test.Qxb6601242aZz
import Derived.Test.Qxb6601242aYbw
namespace Go.Proofs.Qxb6601242a
open Go.RowKit
set_option linter.unusedVariables false

theorem zzb25_yes (s : ByteArray) (p l c : Int) (k : Bool) (fl : Int) (ka : Bool) (w : World) (hs : s.size ≤ 1048576) :
    Calls Try.prog 25 #[.string s, .int .i64 p, .int .i64 l, .int .i64 c, .bool k, .int .i64 fl, .bool ka] w fun e w' => e = .returned (.bool true) ∧ w' = w := by
  go_enter Try.func25, Try.ntmps25
  go_wp2
  go_ret
  exact ⟨rfl, rfl⟩
theorem zzb25_no (s : ByteArray) (p l c : Int) (k : Bool) (fl : Int) (ka : Bool) (w : World) (hs : 1048576 < s.size) :
    Calls Try.prog 25 #[.string s, .int .i64 p, .int .i64 l, .int .i64 c, .bool k, .int .i64 fl, .bool ka] w fun e w' => e = .returned (.bool false) ∧ w' = w := by
  go_enter Try.func25, Try.ntmps25
  go_wp2
  go_ret
  exact ⟨rfl, rfl⟩

set_option maxHeartbeats 2000000 in
set_option maxRecDepth 100000 in
theorem stops_main (s : ByteArray) (p : Nat) (l c : Int) (k : Bool) (fl : Int) (ka : Bool) (w : World) (hs : s.size ≤ 1048576) (hp : p ≤ s.size)
    (hl0 : 0 ≤ l) (hl1 : l ≤ 1073741824) (hc0 : 0 ≤ c) (hc1 : c ≤ 1073741824) :
    Calls Try.prog 10 #[.string s, .int .i64 (p : Int), .int .i64 l, .int .i64 c, .bool k, .int .i64 fl, .bool ka] w fun e w' => e = .returned (.bool true) ∧ Grown w w' := by
  have hbd : Pl.Bd s ⟨p, l, c, k⟩ := ⟨by show p ≤ _; omega, hl0, by show l ≤ _ + (p : Int); omega, hc0, by show c ≤ _ + (p : Int); omega⟩
  go_enter Try.func10, Try.ntmps10
  go_wp2_with (go_at_call 25; refine (zzb25_yes _ _ _ _ _ _ _ _ hs).mono ?_; rintro e w' ⟨rfl, rfl⟩)
  refine (zzTok_any _ s p l c k fl ka hs hbd).mono ?_
  rintro e w1 ⟨⟨p', l', c', k'⟩, ka', rfl, htn, hR, hG⟩
  have hend := Pl.tn_end s fl (p, ka)
  have hkeep := Pl.tn_keep s fl (p, ka)
  rw [← htn] at hend hkeep
  dsimp only at hend hkeep
  obtain ⟨hpp, hk1, hk2⟩ := hkeep
  have HEND : Aside (p' < s.size → Pl.bl (Pl.bat s p') fl ka' = false ∧ Pl.bat s p' ≠ 35 ∧ Pl.brk s p' = 0) := hend
  have HK1 : Aside (ka = true → ka' = true) := hk1
  have HK2 : Aside (fl ≠ 0 → ka' = ka) := hk2
  have hpb : p' ≤ s.size + 4 := hR.bd.p1
  clear htn hend hk1 hk2 hR hbd
  have hq : ¬ (p' : Int) < (p : Int) := by omega
  by_cases hlt : p' < s.size
  · obtain ⟨b1, b2, b3⟩ := HEND.out hlt
    have EB := Pl.bat_in hlt
    have t32 : ((s[p'].toNat : Int) == 32) = false := bf (fun h => by
      have h' : Pl.bat s p' = 32 := by omega
      rw [h'] at b1; simp [Pl.bl] at b1)
    have t35 : ((s[p'].toNat : Int) == 35) = false := bf (by omega)
    have tk : (((Pl.brk s p' : Nat) : Int) != 0) = false := nf (by omega)
    by_cases h9 : s[p'].toNat = 9
    · have t9 : ((s[p'].toNat : Int) == 9) = true := bt (by omega)
      have h9' : Pl.bat s p' = 9 := by omega
      have hfk : fl = 0 ∧ ka' = true := by
        rw [h9'] at b1
        simp [Pl.bl] at b1
        exact b1
      obtain ⟨hfl, rfl⟩ := hfk
      have tf1 : (fl != 0) = false := nf hfl
      have tf2 : (fl == 0) = true := bt hfl
      clear hfl h9 h9' b1 b2 b3 EB
      cases ka
      all_goals
        go_wp2_with (go_at_call 26; refine (yBreakWidth_any s _ _ (by omega) (by omega)).mono ?_; rintro e w' ⟨rfl, rfl⟩)
        go_ret
        exact ⟨rfl, hG⟩
    · have t9 : ((s[p'].toNat : Int) == 9) = false := bf (by omega)
      clear h9 b1 b2 b3 EB
      by_cases hfl : fl = 0
      · have tf1 : (fl != 0) = false := nf hfl
        have tf2 : (fl == 0) = true := bt hfl
        clear hfl
        cases hka : ka with
        | false =>
          go_wp2_with (go_at_call 26; refine (yBreakWidth_any s _ _ (by omega) (by omega)).mono ?_; rintro e w' ⟨rfl, rfl⟩)
          go_ret
          exact ⟨rfl, hG⟩
        | true =>
          obtain rfl := HK1.out hka
          go_wp2_with (go_at_call 26; refine (yBreakWidth_any s _ _ (by omega) (by omega)).mono ?_; rintro e w' ⟨rfl, rfl⟩)
          go_ret
          exact ⟨rfl, hG⟩
      · have tf1 : (fl != 0) = true := nt hfl
        have tf2 : (fl == 0) = false := bf hfl
        obtain rfl := HK2.out hfl
        clear hfl
        cases ka'
        all_goals
          go_wp2_with (go_at_call 26; refine (yBreakWidth_any s _ _ (by omega) (by omega)).mono ?_; rintro e w' ⟨rfl, rfl⟩)
          go_ret
          exact ⟨rfl, hG⟩
  · by_cases hfl : fl = 0
    · have tf1 : (fl != 0) = false := nf hfl
      clear hfl
      cases hka : ka with
      | false =>
        go_wp2_with fail
        go_ret
        exact ⟨rfl, hG⟩
      | true =>
        obtain rfl := HK1.out hka
        go_wp2_with fail
        go_ret
        exact ⟨rfl, hG⟩
    · have tf1 : (fl != 0) = true := nt hfl
      obtain rfl := HK2.out hfl
      clear hfl
      cases ka'
      all_goals
        go_wp2_with fail
        go_ret
        exact ⟨rfl, hG⟩

end Go.Proofs.Qxb6601242a
