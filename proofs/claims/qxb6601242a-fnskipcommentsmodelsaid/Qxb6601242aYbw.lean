/-
  THE WALK of yBreakWidth, a theorem a first byte.
-/
import Derived.Test.Qxb6601242aSkip
namespace Go.Proofs.Qxb6601242a
open Go.RowKit
set_option linter.unusedVariables false

theorem ybw_out (s : ByteArray) (n : Nat) (w : World) (hlt : s.size ≤ n) :
    Calls Try.prog 26 #[.string s, .int .i64 (n : Int)] w fun e w' => e = .returned (.int .i64 0) ∧ w' = w := by
  go_enter Try.func26, Try.ntmps26
  go_wp2
  go_ret
  exact ⟨rfl, rfl⟩

theorem ybw_10 (s : ByteArray) (n : Nat) (w : World) (hs : s.size ≤ 140737488351232) (hlt : n < s.size) (t0 : ((s[n].toNat : Int) == 10) = true) :
    Calls Try.prog 26 #[.string s, .int .i64 (n : Int)] w fun e w' => e = .returned (.int .i64 1) ∧ w' = w := by
  go_enter Try.func26, Try.ntmps26
  go_wp2
  go_ret
  exact ⟨rfl, rfl⟩

theorem ybw_other (s : ByteArray) (n : Nat) (w : World) (hs : s.size ≤ 140737488351232) (hlt : n < s.size) (t0 : ((s[n].toNat : Int) == 10) = false)
    (t1 : ((s[n].toNat : Int) == 13) = false) (t2 : ((s[n].toNat : Int) == 194) = false) (t3 : ((s[n].toNat : Int) == 226) = false) :
    Calls Try.prog 26 #[.string s, .int .i64 (n : Int)] w fun e w' => e = .returned (.int .i64 0) ∧ w' = w := by
  go_enter Try.func26, Try.ntmps26
  go_wp2
  go_ret
  exact ⟨rfl, rfl⟩

theorem ybw_13y (s : ByteArray) (n : Nat) (w : World) (hs : s.size ≤ 140737488351232) (hlt : n + 1 < s.size) (t0 : ((s[n].toNat : Int) == 10) = false) (t1 : ((s[n].toNat : Int) == 13) = true) (u : ((s[n + 1].toNat : Int) == 10) = true) :
    Calls Try.prog 26 #[.string s, .int .i64 (n : Int)] w fun e w' => e = .returned (.int .i64 2) ∧ w' = w := by
  go_enter Try.func26, Try.ntmps26
  go_wp2
  go_ret
  exact ⟨rfl, rfl⟩

theorem ybw_13n (s : ByteArray) (n : Nat) (w : World) (hs : s.size ≤ 140737488351232) (hlt : n + 1 < s.size) (t0 : ((s[n].toNat : Int) == 10) = false) (t1 : ((s[n].toNat : Int) == 13) = true) (u : ((s[n + 1].toNat : Int) == 10) = false) :
    Calls Try.prog 26 #[.string s, .int .i64 (n : Int)] w fun e w' => e = .returned (.int .i64 1) ∧ w' = w := by
  go_enter Try.func26, Try.ntmps26
  go_wp2
  go_ret
  exact ⟨rfl, rfl⟩

theorem ybw_13o (s : ByteArray) (n : Nat) (w : World) (hs : s.size ≤ 140737488351232) (hlt : n < s.size) (hge : s.size ≤ n + 1) (t0 : ((s[n].toNat : Int) == 10) = false) (t1 : ((s[n].toNat : Int) == 13) = true) :
    Calls Try.prog 26 #[.string s, .int .i64 (n : Int)] w fun e w' => e = .returned (.int .i64 1) ∧ w' = w := by
  go_enter Try.func26, Try.ntmps26
  go_wp2
  go_ret
  exact ⟨rfl, rfl⟩

theorem ybw_194y (s : ByteArray) (n : Nat) (w : World) (hs : s.size ≤ 140737488351232) (hlt : n + 1 < s.size) (t0 : ((s[n].toNat : Int) == 10) = false) (t1 : ((s[n].toNat : Int) == 13) = false) (t2 : ((s[n].toNat : Int) == 194) = true) (t3 : ((s[n].toNat : Int) == 226) = false) (u : ((s[n + 1].toNat : Int) == 133) = true) :
    Calls Try.prog 26 #[.string s, .int .i64 (n : Int)] w fun e w' => e = .returned (.int .i64 2) ∧ w' = w := by
  go_enter Try.func26, Try.ntmps26
  go_wp2
  go_ret
  exact ⟨rfl, rfl⟩

theorem ybw_194n (s : ByteArray) (n : Nat) (w : World) (hs : s.size ≤ 140737488351232) (hlt : n + 1 < s.size) (t0 : ((s[n].toNat : Int) == 10) = false) (t1 : ((s[n].toNat : Int) == 13) = false) (t2 : ((s[n].toNat : Int) == 194) = true) (t3 : ((s[n].toNat : Int) == 226) = false) (u : ((s[n + 1].toNat : Int) == 133) = false) :
    Calls Try.prog 26 #[.string s, .int .i64 (n : Int)] w fun e w' => e = .returned (.int .i64 0) ∧ w' = w := by
  go_enter Try.func26, Try.ntmps26
  go_wp2
  go_ret
  exact ⟨rfl, rfl⟩

theorem ybw_194o (s : ByteArray) (n : Nat) (w : World) (hs : s.size ≤ 140737488351232) (hlt : n < s.size) (hge : s.size ≤ n + 1) (t0 : ((s[n].toNat : Int) == 10) = false) (t1 : ((s[n].toNat : Int) == 13) = false) (t2 : ((s[n].toNat : Int) == 194) = true) (t3 : ((s[n].toNat : Int) == 226) = false) :
    Calls Try.prog 26 #[.string s, .int .i64 (n : Int)] w fun e w' => e = .returned (.int .i64 0) ∧ w' = w := by
  go_enter Try.func26, Try.ntmps26
  go_wp2
  go_ret
  exact ⟨rfl, rfl⟩

theorem ybw_226n (s : ByteArray) (n : Nat) (w : World) (hs : s.size ≤ 140737488351232) (hlt : n + 2 < s.size) (t0 : ((s[n].toNat : Int) == 10) = false) (t1 : ((s[n].toNat : Int) == 13) = false) (t2 : ((s[n].toNat : Int) == 194) = false) (t3 : ((s[n].toNat : Int) == 226) = true) (u : ((s[n + 1].toNat : Int) == 128) = false) :
    Calls Try.prog 26 #[.string s, .int .i64 (n : Int)] w fun e w' => e = .returned (.int .i64 0) ∧ w' = w := by
  go_enter Try.func26, Try.ntmps26
  go_wp2
  go_ret
  exact ⟨rfl, rfl⟩

theorem ybw_226a (s : ByteArray) (n : Nat) (w : World) (hs : s.size ≤ 140737488351232) (hlt : n + 2 < s.size) (t0 : ((s[n].toNat : Int) == 10) = false) (t1 : ((s[n].toNat : Int) == 13) = false) (t2 : ((s[n].toNat : Int) == 194) = false) (t3 : ((s[n].toNat : Int) == 226) = true) (u : ((s[n + 1].toNat : Int) == 128) = true) (v : ((s[n + 2].toNat : Int) == 168) = true) :
    Calls Try.prog 26 #[.string s, .int .i64 (n : Int)] w fun e w' => e = .returned (.int .i64 3) ∧ w' = w := by
  go_enter Try.func26, Try.ntmps26
  go_wp2
  go_ret
  exact ⟨rfl, rfl⟩

theorem ybw_226b (s : ByteArray) (n : Nat) (w : World) (hs : s.size ≤ 140737488351232) (hlt : n + 2 < s.size) (t0 : ((s[n].toNat : Int) == 10) = false) (t1 : ((s[n].toNat : Int) == 13) = false) (t2 : ((s[n].toNat : Int) == 194) = false) (t3 : ((s[n].toNat : Int) == 226) = true) (u : ((s[n + 1].toNat : Int) == 128) = true) (v : ((s[n + 2].toNat : Int) == 168) = false) (v2 : ((s[n + 2].toNat : Int) == 169) = true) :
    Calls Try.prog 26 #[.string s, .int .i64 (n : Int)] w fun e w' => e = .returned (.int .i64 3) ∧ w' = w := by
  go_enter Try.func26, Try.ntmps26
  go_wp2
  go_ret
  exact ⟨rfl, rfl⟩

theorem ybw_226c (s : ByteArray) (n : Nat) (w : World) (hs : s.size ≤ 140737488351232) (hlt : n + 2 < s.size) (t0 : ((s[n].toNat : Int) == 10) = false) (t1 : ((s[n].toNat : Int) == 13) = false) (t2 : ((s[n].toNat : Int) == 194) = false) (t3 : ((s[n].toNat : Int) == 226) = true) (u : ((s[n + 1].toNat : Int) == 128) = true) (v : ((s[n + 2].toNat : Int) == 168) = false) (v2 : ((s[n + 2].toNat : Int) == 169) = false) :
    Calls Try.prog 26 #[.string s, .int .i64 (n : Int)] w fun e w' => e = .returned (.int .i64 0) ∧ w' = w := by
  go_enter Try.func26, Try.ntmps26
  go_wp2
  go_ret
  exact ⟨rfl, rfl⟩

theorem ybw_226o (s : ByteArray) (n : Nat) (w : World) (hs : s.size ≤ 140737488351232) (hlt : n < s.size) (hge : s.size ≤ n + 2) (t0 : ((s[n].toNat : Int) == 10) = false) (t1 : ((s[n].toNat : Int) == 13) = false) (t2 : ((s[n].toNat : Int) == 194) = false) (t3 : ((s[n].toNat : Int) == 226) = true) :
    Calls Try.prog 26 #[.string s, .int .i64 (n : Int)] w fun e w' => e = .returned (.int .i64 0) ∧ w' = w := by
  go_enter Try.func26, Try.ntmps26
  go_wp2
  go_ret
  exact ⟨rfl, rfl⟩

theorem ybw_fit {s : ByteArray} {n k : Nat} {z : Int} {w : World} (hb : Pl.brk s n = k) (hz : z = (k : Int)) (h : Calls Try.prog 26 #[.string s, .int .i64 (n : Int)] w fun e w' => e = .returned (.int .i64 z) ∧ w' = w) :
    Calls Try.prog 26 #[.string s, .int .i64 (n : Int)] w fun e w' => e = .returned (.int .i64 (Pl.brk s n : Nat)) ∧ w' = w :=
  h.mono fun e w' ⟨he, hw⟩ => ⟨he.trans (ret_int (by rw [hb, hz])), hw⟩


theorem yBreakWidth_any (s : ByteArray) (p : Int) (w : World) (hs : s.size ≤ 140737488351232) (h0 : 0 ≤ p) :
    Calls Try.prog 26 #[.string s, .int .i64 p] w fun e w' => e = .returned (.int .i64 (Pl.brk s p.toNat : Nat)) ∧ w' = w := by
  obtain ⟨n, rfl⟩ := Int.eq_ofNat_of_zero_le h0
  rw [Int.toNat_natCast]
  by_cases hlt : n < s.size
  · have E0 := Pl.bat_in hlt
    by_cases a0 : s[n].toNat = 10
    · exact ybw_fit (k := 1) (by simp [Pl.brk, E0, a0]) rfl (ybw_10 s n w hs hlt (bt (by omega)))
    by_cases a1 : s[n].toNat = 13
    · by_cases h1 : n + 1 < s.size
      · have E1 := Pl.bat_in h1
        by_cases b : s[n + 1].toNat = 10
        · exact ybw_fit (k := 2) (by simp [Pl.brk, E0, E1, a1, b]) rfl (ybw_13y s n w hs h1 (bf (by omega)) (bt (by omega)) (bt (by omega)))
        · exact ybw_fit (k := 1) (by simp [Pl.brk, E0, E1, a1, b]) rfl (ybw_13n s n w hs h1 (bf (by omega)) (bt (by omega)) (bf (by omega)))
      · have E1 := Pl.bat_out (s := s) (p := n + 1) (by omega)
        exact ybw_fit (k := 1) (by simp [Pl.brk, E0, E1, a1]) rfl (ybw_13o s n w hs hlt (by omega) (bf (by omega)) (bt (by omega)))
    by_cases a2 : s[n].toNat = 194
    · by_cases h1 : n + 1 < s.size
      · have E1 := Pl.bat_in h1
        by_cases b : s[n + 1].toNat = 133
        · exact ybw_fit (k := 2) (by simp [Pl.brk, E0, E1, a2, b]) rfl (ybw_194y s n w hs h1 (bf (by omega)) (bf (by omega)) (bt (by omega)) (bf (by omega)) (bt (by omega)))
        · exact ybw_fit (k := 0) (by simp [Pl.brk, E0, E1, a2, b]) rfl (ybw_194n s n w hs h1 (bf (by omega)) (bf (by omega)) (bt (by omega)) (bf (by omega)) (bf (by omega)))
      · have E1 := Pl.bat_out (s := s) (p := n + 1) (by omega)
        exact ybw_fit (k := 0) (by simp [Pl.brk, E0, E1, a2]) rfl (ybw_194o s n w hs hlt (by omega) (bf (by omega)) (bf (by omega)) (bt (by omega)) (bf (by omega)))
    by_cases a3 : s[n].toNat = 226
    · by_cases h2 : n + 2 < s.size
      · have h1 : n + 1 < s.size := by omega
        have E1 := Pl.bat_in h1
        have E2 := Pl.bat_in h2
        by_cases b : s[n + 1].toNat = 128
        · by_cases c : s[n + 2].toNat = 168
          · exact ybw_fit (k := 3) (by simp [Pl.brk, E0, E1, E2, a3, b, c]) rfl (ybw_226a s n w hs h2 (bf (by omega)) (bf (by omega)) (bf (by omega)) (bt (by omega)) (bt (by omega)) (bt (by omega)))
          by_cases d : s[n + 2].toNat = 169
          · exact ybw_fit (k := 3) (by simp [Pl.brk, E0, E1, E2, a3, b, d]) rfl (ybw_226b s n w hs h2 (bf (by omega)) (bf (by omega)) (bf (by omega)) (bt (by omega)) (bt (by omega)) (bf (by omega)) (bt (by omega)))
          · exact ybw_fit (k := 0) (by simp [Pl.brk, E0, E1, E2, a3, b, c, d]) rfl (ybw_226c s n w hs h2 (bf (by omega)) (bf (by omega)) (bf (by omega)) (bt (by omega)) (bt (by omega)) (bf (by omega)) (bf (by omega)))
        · exact ybw_fit (k := 0) (by simp [Pl.brk, E0, E1, a3, b]) rfl (ybw_226n s n w hs h2 (bf (by omega)) (bf (by omega)) (bf (by omega)) (bt (by omega)) (bf (by omega)))
      · have E2 := Pl.bat_out (s := s) (p := n + 2) (by omega)
        exact ybw_fit (k := 0) (by simp [Pl.brk, E0, E2, a3]) rfl (ybw_226o s n w hs hlt (by omega) (bf (by omega)) (bf (by omega)) (bf (by omega)) (bt (by omega)))
    · exact ybw_fit (k := 0) (by simp [Pl.brk, E0, a0, a1, a2, a3]) rfl (ybw_other s n w hs hlt (bf (by omega)) (bf (by omega)) (bf (by omega)) (bf (by omega)))
  · exact ybw_fit (k := 0) (Pl.brk_out (by omega)) rfl (ybw_out s n w (by omega))

end Go.Proofs.Qxb6601242a
