/-
  THE WALK of FnFormatTagsCutBack.
-/
import Derived.Test.Qxb6602065aDoorTags
import Derived.Laws.CopyOwn
import Derived.Laws.Cover3
namespace Go.Proofs.Qxb6602065aDoor
open Go.RowKit
set_option linter.unusedVariables false

theorem zzb12_yes (a : Option Addr) (n c : Nat) (w : World) (hs : n ≤ 1048576) :
    Calls Tryd.prog 12 #[.slice a n c] w fun e w' => e = .returned (.bool true) ∧ w' = w := by
  go_enter Tryd.func12, Tryd.ntmps12
  go_wp2
  go_ret
  exact ⟨rfl, rfl⟩
theorem zzb12_no (a : Option Addr) (n c : Nat) (w : World) (hs : 1048576 < n) :
    Calls Tryd.prog 12 #[.slice a n c] w fun e w' => e = .returned (.bool false) ∧ w' = w := by
  go_enter Tryd.func12, Tryd.ntmps12
  go_wp2
  go_ret
  exact ⟨rfl, rfl⟩

theorem far5 (a : Option Addr) (n c : Nat) (w : World) (h : 131072 < n) :
    Calls Tryd.prog 5 #[.slice a n c] w fun e w' => e = .returned (.bool true) ∧ Below w.heap.size w w' := by
  by_cases hs : n ≤ 1048576
  · go_enter Tryd.func5, Tryd.ntmps5
    go_wp2_with (go_at_call 12; refine (zzb12_yes _ _ _ _ hs).mono ?_; rintro e w' ⟨rfl, rfl⟩)
    go_ret
    exact ⟨rfl, Below.refl _ _⟩
  · have hs' : 1048576 < n := by omega
    go_enter Tryd.func5, Tryd.ntmps5
    go_wp2_with (go_at_call 12; refine (zzb12_no _ _ _ _ hs').mono ?_; rintro e w' ⟨rfl, rfl⟩)
    go_ret
    exact ⟨rfl, Below.refl _ _⟩

/-- The empty tag, cut. -/
theorem cut_empty (w : World) : Calls Tryd.prog 8 #[.string ⟨#[34, 34]⟩] w fun e w' => e = .returned (.tuple #[.string ⟨#[34, 34]⟩, .bool false, .string ⟨#[]⟩, .bool true]) ∧ Below w.heap.size w w' :=
  zzcut_any ⟨#[34, 34]⟩ false [] [] w rfl (by simp) (fun b hb => by cases hb)

set_option maxHeartbeats 4000000 in
set_option maxRecDepth 100000 in
theorem nil5 (w : World) :
    Calls Tryd.prog 5 #[.slice none 0 0] w fun e w' => e = .returned (.bool true) ∧ Below w.heap.size w w' := by
  have q : ∀ W, (binOp .neq 27 (.slice none 0 0) (.slice none 0 0)).run Tryd.prog W = .ok (.bool false) W := fun W => run_neq_slice_nil (P := Tryd.prog) W 27 22 none 0 0 Tryd.underlying27
  have HF := aside_of (fun W => fmt_none none 0 W)
  go_enter Tryd.func5, Tryd.ntmps5
  go_wp2_with (go_at_call 12; refine (zzb12_yes _ _ _ _ (by omega)).mono ?_; rintro e w' ⟨rfl, rfl⟩)
  refine (HF.out _).mono ?_
  rintro e w1 ⟨rfl, hb1⟩
  have HB1 := aside_of hb1
  clear hb1
  go_wp2_with fail
  refine (cut_empty _).mono ?_
  rintro e w2 ⟨rfl, hb2⟩
  have HB2 := aside_of (HB1.out.trans (hb2.mono HB1.out.size))
  clear hb2
  go_wp2_with fail
  go_ret
  exact ⟨rfl, HB2.out⟩

/-- 'copy' into the row that 'make' laid: the versions lie there. -/
theorem copied {w1 : World} {base g N c : Nat} {x : Addr} {vs : List Nat} {zs : List Value} (hown : w1.ownsRow base 22 1 (.slice (some ⟨g, 0, none⟩) N N) N zs) (hN : N = vs.length)
    (hsrc : ∀ (j v : Nat), vs[j]? = some v → w1.cell? (x.add j) = some (.int .u64 (v : Int))) :
    ∃ w2, (∀ ty, (Builtin.copy_ #[27, 27] ty #[.slice (some ⟨g, 0, none⟩) N N, .slice (some x) N c]).run Tryd.prog w1 = .ok (goInt N) w2) ∧
      (∀ (j v : Nat), vs[j]? = some v → w2.cell? ⟨g, j, none⟩ = some (.int .u64 (v : Int))) ∧ Below g w1 w2 ∧ g < w2.heap.size := by
  have hlt := (hown.lt _ rfl).2
  rcases hown.2 with ⟨h', _⟩ | ⟨g', cap', cur, h', _, hg, _, _, hsz, htake⟩
  · simp at h'
  · simp only [Value.slice.injEq, Option.some.injEq, Addr.mk.injEq, and_true, true_and] at h'
    obtain ⟨rfl, rfl⟩ := h'
    have hr := fun ty => run_copy_row (P := Tryd.prog) w1 27 27 ty 22 g 0 N N x N c cur 22 (vs.map fun (v : Nat) => Value.int .u64 (v : Int)) Tryd.underlying27 (by kernel_rfl) hg (by simp [hN])
      (fun j v hv => by
        rw [List.getElem?_map] at hv
        obtain ⟨u, hu, rfl⟩ := Option.map_eq_some_iff.1 hv
        exact hsrc j u hu) (by simp; omega) (fun v hv => by obtain ⟨u, _, rfl⟩ := List.mem_map.1 hv; rfl)
    rw [List.length_map, ← hN] at hr
    refine ⟨_, hr, fun j v hv => ?_, ⟨rfl, rfl, rfl, by simp [World.setRow], fun k hk => setRow_other _ _ _ _ (by omega)⟩, by simpa [World.setRow] using hlt⟩
    rw [cell_setRow_same _ _ _ _ _ _ _ hg]
    obtain ⟨hj, rfl⟩ := List.getElem?_eq_some_iff.1 hv
    simp [List.getElem?_append, hj]

/-- What is left ahead of round k. -/
def restAt (vs : List Nat) (k : Nat) : List UInt8 := if k = 0 then tl vs else after (vs.drop k)

theorem drop_at (vs : List Nat) (k u : Nat) (h : vs[k]? = some u) : vs.drop k = u :: vs.drop (k + 1) := by
  obtain ⟨hk, rfl⟩ := List.getElem?_eq_some_iff.1 h
  exact List.drop_eq_getElem_cons hk

theorem rest_zero (vs : List Nat) (u : Nat) (h : vs[0]? = some u) : restAt vs 0 = tb u ++ restAt vs 1 := by
  have := drop_at vs 0 u h
  rw [List.drop_zero] at this
  unfold restAt
  rw [if_pos rfl, if_neg (by omega), this, tl_cons]
  rfl
theorem rest_succ (vs : List Nat) (k u : Nat) (hk : 0 < k) (h : vs[k]? = some u) : restAt vs k = 44 :: (tb u ++ restAt vs (k + 1)) := by
  unfold restAt
  rw [if_neg (by omega), if_neg (by omega), drop_at vs k u h, after_cons]
theorem rest_end (vs : List Nat) (h : 0 < vs.length) : restAt vs vs.length = [] := by
  unfold restAt
  rw [if_neg (by omega), List.drop_length]; rfl
theorem rest_len (vs : List Nat) (h : ∀ v ∈ vs, v < 18446744073709551616) (k : Nat) : (restAt vs k).length ≤ 23 * vs.length := by
  unfold restAt
  split
  · exact tl_len vs h
  · have := after_len (vs.drop k) (fun v hv => h v (List.mem_of_mem_drop hv))
    rw [List.length_drop] at this
    omega

theorem cut_tag (u : Nat) (R : List UInt8) (hR : R.length ≤ 1073741000) (hu : u < 18446744073709551616) (W : World) (S : ByteArray) (h : S.data.toList = tb u ++ R) :
    Calls Tryd.prog 8 #[.string S] W fun e w' => e = .returned (.tuple #[.string (tag u), .bool false, .string ⟨R.toArray⟩, .bool true]) ∧ Below W.heap.size W w' :=
  (zzcut_any S false (Lib.decDigits u) R W (by rw [h]; simp [marked, tb]) (by have := dec_len u hu; omega) (dec_ok u u (Nat.le_refl _))).mono fun e w' ⟨he, hb⟩ => ⟨by rw [he, of_list (tag u) _ (tag_list u)], hb⟩

set_option maxHeartbeats 4000000 in
set_option maxRecDepth 100000 in
theorem empty5 (x : Addr) (c : Nat) (w : World) :
    Calls Tryd.prog 5 #[.slice (some x) 0 c] w fun e w' => e = .returned (.bool true) ∧ Below w.heap.size w w' := by
  have q : ∀ W, (binOp .neq 27 (.slice (some x) 0 c) (.slice none 0 0)).run Tryd.prog W = .ok (.bool true) W := fun W => run_neq_slice_nil (P := Tryd.prog) W 27 22 (some x) 0 c Tryd.underlying27
  obtain ⟨i, hi, hz, hs, hby⟩ := info_parts info22
  have HF := aside_of (fun b W => fmt_none (some ⟨b, 0, none⟩) 0 W)
  go_enter Tryd.func5, Tryd.ntmps5
  go_wp2_with (first | (go_at_call 12; refine (zzb12_yes _ _ _ _ (by omega)).mono ?_; rintro e w' ⟨rfl, hw⟩; obtain rfl := hw.symm; clear hw) | (at_make; refine wpList_make_full _ rfl _ _ 27 rfl w.heap.size 22 i _ 1 Tryd.underlying27 hi hz hs _ _ _ _ 0 rfl rfl rfl rfl (by simp) (by simp [maxLen]) (Nat.le_refl _) ?_; intro w1 hown hgr; have HB1 := aside_of (Below.grown (Below.refl w.heap.size w) hgr (Nat.le_refl _) (fun k e => by cases e)); obtain ⟨w2, hcp, _, hb2, _⟩ := copied (c := c) (x := x) (vs := []) hown rfl (fun j v h => by cases h); have HB2 := aside_of (HB1.out.trans hb2); clear hown hgr hb2))
  refine (HF.out _ _).mono ?_
  rintro e w3 ⟨rfl, hb1⟩
  have HB3 := aside_of (HB2.out.trans (hb1.mono HB2.out.size))
  clear hb1
  go_wp2_with fail
  refine (cut_empty _).mono ?_
  rintro e w4 ⟨rfl, hb2⟩
  have HB4 := aside_of (HB3.out.trans (hb2.mono HB3.out.size))
  clear hb2
  go_wp2_with fail
  go_ret
  exact ⟨rfl, HB4.out⟩

set_option maxHeartbeats 8000000 in
set_option maxRecDepth 100000 in
theorem main5 (x : Addr) (c : Nat) (vs : List Nat) (hvs : ∀ v ∈ vs, v < 18446744073709551616) (hne : 0 < vs.length) (hlen : vs.length ≤ 131072) (w : World) (htab : Tab w)
    (hsrc : ∀ (j v : Nat), vs[j]? = some v → w.cell? (x.add j) = some (.int .u64 (v : Int))) :
    Calls Tryd.prog 5 #[.slice (some x) vs.length c] w fun e w' => e = .returned (.bool true) ∧ Below w.heap.size w w' := by
  have q : ∀ W, (binOp .neq 27 (.slice (some x) vs.length c) (.slice none 0 0)).run Tryd.prog W = .ok (.bool true) W := fun W => run_neq_slice_nil (P := Tryd.prog) W 27 22 (some x) vs.length c Tryd.underlying27
  obtain ⟨i, hi, hz, hs, hby⟩ := info_parts info22
  have HF : Aside (∀ (b : Nat) (W : World), Tab W → (∀ (j v : Nat), vs[j]? = some v → W.cell? ⟨b, j, none⟩ = some (.int .u64 (v : Int))) → Calls Tryd.prog 10 #[.bool false, .slice (some ⟨b, 0, none⟩) vs.length vs.length] W fun e w' => e = .returned (.string ⟨(restAt vs 0).toArray⟩) ∧ Below W.heap.size W w') :=
    fun b W h1 h2 => fmt_any b vs hvs hne hlen W h1 h2
  have HV := aside_of hvs
  have HS := aside_of hsrc
  have HRL := aside_of (rest_len vs hvs)
  have HRE := aside_of (rest_end vs hne)
  have hn0 : ((vs.length : Int) == 0) = false := bf (by omega)
  obtain ⟨N, hN⟩ : ∃ N, N = vs.length := ⟨_, rfl⟩
  have HN : Hid (N = vs.length) := hN
  rw [← hN] at hn0 hlen hne q HF ⊢
  clear hvs hsrc hN
  have hb1 : i.bytes * N ≤ 281474976710656 := by rw [hby]; omega
  have hb2 : N ≤ maxLen := by simp [maxLen]; omega
  have hN1 : N ≤ 1048576 := by omega
  clear hby
  go_enter Tryd.func5, Tryd.ntmps5
  go_wp2_with (first | (go_at_call 12; refine (zzb12_yes _ _ _ _ hN1).mono ?_; rintro e w' ⟨rfl, hw⟩; obtain rfl := hw.symm; clear hw) | (at_make; refine wpList_make_full _ rfl _ _ 27 rfl w.heap.size 22 i _ 1 Tryd.underlying27 hi hz hs _ _ _ _ N rfl rfl rfl rfl hb1 hb2 (Nat.le_refl _) ?_; intro w1 hown hgr; have HB1 := aside_of (Below.grown (Below.refl w.heap.size w) hgr (Nat.le_refl _) (fun k e => by cases e)); obtain ⟨w2, hcp, hcell2, hb2', hg2⟩ := copied (c := c) (x := x) (vs := vs) hown HN.out (fun j v h => by have := HS.out j v h; exact (World.grownBy.cell hgr this (by simp))); have HC2 := aside_of hcell2; have HB2 := aside_of (HB1.out.trans hb2'); clear hown hgr hb2' hcell2))
  refine (HF.out _ _ (htab.below HB2.out) HC2.out).mono ?_
  rintro e w3 ⟨rfl, hb3⟩
  have HB3 := aside_of hb3
  clear hb3
  have hgl : w.heap.size < w2.heap.size := hg2
  obtain ⟨S0, hS0⟩ : ∃ S0 : ByteArray, S0 = ⟨(restAt vs 0).toArray⟩ := ⟨_, rfl⟩
  rw [← hS0]
  have HS0 := aside_of hS0
  clear hS0 hg2
  go_wp2_with fail
  go_loopg [9, 10] (N + 8) (fun n a9 a10 wr => ∃ (k : Nat) (S : ByteArray), a10 = .int .i64 (k : Int) ∧ a9 = .string S ∧ Aside (S = ⟨(restAt vs k).toArray⟩) ∧ k ≤ N ∧ Below w2.heap.size w2 wr ∧ n = N + 8 - k)
  case atStart => exact ⟨0, S0, rfl, rfl, HS0, Nat.zero_le _, HB3.out, rfl⟩
  case round =>
    obtain ⟨k, S, rfl, rfl, HSk, hkN, hB, hgk⟩ := hrel
    have HGK : Hid (gk = N + 8 - k) := hgk
    have HBW := aside_of hB
    clear hgk hB
    by_cases hlt : k < N
    · obtain ⟨u, hu⟩ : ∃ u, vs[k]? = some u := ⟨_, List.getElem?_eq_getElem (by rw [← HN.out]; exact hlt)⟩
      have hu64 : u < 18446744073709551616 := HV.out u (List.mem_of_getElem? hu)
      have hc2 : w2.cell? ⟨w.heap.size, k, none⟩ = some (.int .u64 (u : Int)) := HC2.out k u hu
      have CUT := aside_of (fun W S' h => cut_tag u (restAt vs (k + 1)) (by have := HRL.out (k + 1); rw [← HN.out] at this; omega) hu64 W S' h)
      have ET := aside_of (fun W h => etag_any u hu64 W h)
      obtain ⟨R, hR⟩ : ∃ R : ByteArray, R = ⟨(restAt vs (k + 1)).toArray⟩ := ⟨_, rfl⟩
      have HR := aside_of hR
      rw [← hR] at CUT
      clear hR
      have HC3 := aside_of hc2
      clear hc2
      by_cases hk0 : k = 0
      · subst hk0
        have HSL : Aside (S.data.toList = tb u ++ restAt vs (0 + 1)) := by
          show S.data.toList = _
          rw [HSk.out]; exact rest_zero vs u hu
        clear hu
        generalize tag u = T at *
        go_wp2_with fail
        refine (CUT.out _ _ HSL.out).mono ?_
        rintro e w4 ⟨rfl, hb4⟩
        have HB4 := aside_of (HBW.out.trans (hb4.mono HBW.out.size))
        have hc4 : w4.cell? ⟨w.heap.size, 0, none⟩ = some (.int .u64 (u : Int)) := (HB4.out.cell (p := ⟨w.heap.size, 0, none⟩) hgl).trans HC3.out
        clear hb4
        go_wp2_with fail
        refine (ET.out _ (htab.below (HB2.out.trans (HB4.out.mono (Nat.le_of_lt hgl))))).mono ?_
        rintro e w5 ⟨rfl, hb5⟩
        have HB5 := aside_of (HB4.out.trans (hb5.mono HB4.out.size))
        clear hb5
        go_wp2_with fail
        go_roundg (N + 8 - (0 + 1))
        case measure => have := HGK.out; omega
        case rel => exact ⟨0 + 1, R, by go_num, rfl, HR, hlt, HB5.out, rfl⟩
      · have hl : S.data.toList = 44 :: (tb u ++ restAt vs (k + 1)) := by rw [HSk.out]; exact rest_succ vs k u (by omega) hu
        have hsz : 0 < S.size := by rw [Lib.size_eq, hl]; simp
        have hnz : ((S.size : Int) == 0) = false := bf (by omega)
        have hb0 : S[0] = 44 := by
          have h : S.data.toList[0]? = some S[0] := by
            show S.data.toList[0]? = some (S.data[0]'hsz)
            rw [Array.getElem?_toList, Array.getElem?_eq_getElem]
          rw [hl] at h
          exact (Option.some.inj h).symm
        have HSL : Aside ((S.extract 1 S.size).data.toList = tb u ++ restAt vs (k + 1)) := by
          show (S.extract 1 S.size).data.toList = _
          rw [Lib.extract_to_end, hl]; rfl
        clear hu hl
        generalize tag u = T at *
        go_wp2_with fail
        refine (CUT.out _ _ HSL.out).mono ?_
        rintro e w4 ⟨rfl, hb4⟩
        have HB4 := aside_of (HBW.out.trans (hb4.mono HBW.out.size))
        have hc4 : w4.cell? ⟨w.heap.size, k, none⟩ = some (.int .u64 (u : Int)) := (HB4.out.cell (p := ⟨w.heap.size, k, none⟩) hgl).trans HC3.out
        clear hb4
        go_wp2_with fail
        refine (ET.out _ (htab.below (HB2.out.trans (HB4.out.mono (Nat.le_of_lt hgl))))).mono ?_
        rintro e w5 ⟨rfl, hb5⟩
        have HB5 := aside_of (HB4.out.trans (hb5.mono HB4.out.size))
        clear hb5
        go_wp2_with fail
        go_roundg (N + 8 - (k + 1))
        case measure => have := HGK.out; omega
        case rel => exact ⟨k + 1, R, by go_num, rfl, HR, hlt, HB5.out, rfl⟩
    · obtain rfl : k = N := by omega
      have hSe : S = ⟨#[]⟩ := by rw [HSk.out, HN.out, HRE.out]
      subst hSe
      clear HSk
      have HE := aside_of (HB2.out.trans (HBW.out.mono (Nat.le_of_lt hgl)))
      go_wp2_with fail
      go_ret
      exact ⟨rfl, HE.out⟩

end Go.Proofs.Qxb6602065aDoor
