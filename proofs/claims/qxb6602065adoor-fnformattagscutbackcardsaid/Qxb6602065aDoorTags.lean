/-
  THE WALK of formatTags and ZZformatTags on a list of versions; the plain facts of the joined text.
-/
import Derived.Test.Qxb6602065aDoorLaw3
import Derived.Test.Qxb6602065aDoorLaid
import Derived.OwnWalk
import Derived.Laws.OwnMore
import Derived.Lib.Join
namespace Go.Proofs.Qxb6602065aDoor
open Go.RowKit
set_option linter.unusedVariables false

/-- The bytes of the tag of version v. -/
def tb (v : Nat) : List UInt8 := 34 :: (Lib.decDigits v ++ [34])
/-- The tags behind the first: a comma ahead of each. -/
def after (vs : List Nat) : List UInt8 := Lib.joinTail [44] (vs.map tb)
/-- The whole text. -/
def tl (vs : List Nat) : List UInt8 := Lib.join (vs.map tb) [44]

theorem after_nil : after [] = [] := rfl
theorem after_cons (v : Nat) (vs : List Nat) : after (v :: vs) = 44 :: (tb v ++ after vs) := by simp [after, Lib.joinTail]
theorem tl_cons (v : Nat) (vs : List Nat) : tl (v :: vs) = tb v ++ after vs := by
  unfold tl; rw [List.map_cons, Lib.join_cons]; rfl
theorem tb_len (v : Nat) (h : v < 18446744073709551616) : (tb v).length ≤ 22 := by
  have := dec_len v h; simp [tb]; omega
theorem after_len : ∀ (vs : List Nat), (∀ v ∈ vs, v < 18446744073709551616) → (after vs).length ≤ 23 * vs.length
  | [], _ => by simp [after_nil]
  | v :: vs, h => by
    have h1 := tb_len v (h v (by simp))
    have h2 := after_len vs (fun x hx => h x (by simp [hx]))
    rw [after_cons]; simp; omega
theorem tl_len (vs : List Nat) (h : ∀ v ∈ vs, v < 18446744073709551616) : (tl vs).length ≤ 23 * vs.length := by
  cases vs with
  | nil => simp [tl, Lib.join_nil]
  | cons v vs =>
    have h1 := tb_len v (h v (by simp))
    have h2 := after_len vs (fun x hx => h x (by simp [hx]))
    rw [tl_cons]; simp; omega

/-- The row of tags when k are laid. -/
def trow (vs : List Nat) (k : Nat) : List Value := (vs.take k).map (fun v => .string (tag v)) ++ List.replicate (vs.length - k) (.string ⟨#[]⟩)
theorem trow_zero (vs : List Nat) : trow vs 0 = List.replicate vs.length (.string ⟨#[]⟩) := by simp [trow]
theorem trow_at (vs : List Nat) (k : Nat) (h : k < vs.length) : (trow vs k)[k]? = some (.string ⟨#[]⟩) := by
  unfold trow
  rw [List.getElem?_append_right (by simp; omega), List.length_map, List.length_take, show min k vs.length = k by omega, Nat.sub_self, List.getElem?_replicate, if_pos (by omega)]
theorem trow_done (vs : List Nat) (j v : Nat) (h : vs[j]? = some v) : (trow vs vs.length)[j]? = some (.string (tag v)) := by
  unfold trow
  simp [h]
theorem trow_step (vs : List Nat) (k v : Nat) (h : vs[k]? = some v) : (trow vs k).set k (.string (tag v)) = trow vs (k + 1) := by
  have hk : k < vs.length := (List.getElem?_eq_some_iff.1 h).1
  unfold trow
  rw [List.set_append_right _ _ (by simp; omega), List.take_add_one, h]
  simp only [List.length_map, List.length_take, show min k vs.length = k by omega, Nat.sub_self]
  rw [show vs.length - k = (vs.length - (k + 1)) + 1 by omega, List.replicate_succ]
  simp

theorem info9 : (Tryd.prog.info? 9).map (fun i => (i.zero, i.size, i.bytes)) = some (some (.string ⟨#[]⟩), 1, 16) := by kernel_rfl
theorem info22 : (Tryd.prog.info? 22).map (fun i => (i.zero, i.size, i.bytes)) = some (some (.int .u64 0), 1, 8) := by kernel_rfl

set_option maxHeartbeats 4000000 in
set_option maxRecDepth 100000 in
theorem tags15_none (p : Nat) (a : Option Addr) (c : Nat) (w : World) (hp0 : w.cell? ⟨p, 0, none⟩ = some (.bool false)) (hp1 : w.cell? ⟨p, 1, none⟩ = some (.slice a 0 c)) :
    Calls Tryd.prog 15 #[.pointer (some ⟨p, 0, none⟩)] w fun e w' => e = .returned (.string ⟨#[34, 34]⟩) ∧ w' = w := by
  go_enter Tryd.func15, Tryd.ntmps15
  go_wp2_with fail
  go_ret
  exact ⟨rfl, rfl⟩

set_option maxHeartbeats 4000000 in
set_option maxRecDepth 100000 in
theorem tags15_any (p b : Nat) (vs : List Nat) (hvs : ∀ v ∈ vs, v < 18446744073709551616) (hne : 0 < vs.length) (hlen : vs.length ≤ 131072) (w : World) (htab : Tab w)
    (hp0 : w.cell? ⟨p, 0, none⟩ = some (.bool false)) (hp1 : w.cell? ⟨p, 1, none⟩ = some (.slice (some ⟨b, 0, none⟩) vs.length vs.length))
    (hc : ∀ (j v : Nat), vs[j]? = some v → w.cell? ⟨b, j, none⟩ = some (.int .u64 (v : Int))) :
    Calls Tryd.prog 15 #[.pointer (some ⟨p, 0, none⟩)] w fun e w' => e = .returned (.string ⟨(tl vs).toArray⟩) ∧ Below w.heap.size w w' := by
  obtain ⟨i, hi, hz, hs, hby⟩ := info_parts info9
  have hn0 : ((vs.length : Int) == 0) = false := bf (by omega)
  have HC : Aside (∀ (j v : Nat), vs[j]? = some v → w.cell? ⟨b, j, none⟩ = some (.int .u64 (v : Int))) := hc
  have HV : Aside (∀ v ∈ vs, v < 18446744073709551616) := hvs
  have HP1 := aside_of hp1
  have HTL := aside_of (tl_len vs hvs)
  obtain ⟨N, hN⟩ : ∃ N, N = vs.length := ⟨_, rfl⟩
  rw [← hN] at hn0 hp1 hlen hne
  have HN : Hid (N = vs.length) := hN
  clear hc hvs hN
  have hb1 : i.bytes * N ≤ 281474976710656 := by rw [hby]; omega
  have hb2 : N ≤ maxLen := by simp [maxLen]; omega
  have hrow : (madeCells (Value.string ⟨#[]⟩).cells (N * 1)).toList = trow vs 0 := by
    rw [trow_zero, ← HN.out, Nat.mul_one]; exact toList_madeCells_one _ _
  have HROW := aside_of hrow
  clear hrow hby
  go_enter Tryd.func15, Tryd.ntmps15
  go_wp2_with (at_make; refine wpList_make_full _ rfl _ _ 42 rfl w.heap.size 9 i _ 1 Tryd.underlying42 hi hz hs _ _ _ _ N rfl rfl rfl rfl hb1 hb2 (Nat.le_refl _) ?_; intro w1 hown hgr; rw [HROW.out] at hown; have hp1' := (World.grownBy.cell hgr hp1 (by simp)); have HO := aside_of hown; have HG := aside_of hgr; clear hown hgr)
  have hB1 : Below w.heap.size w w1 := Below.grown (Below.refl _ _) HG.out (Nat.le_refl _) (fun k e => by cases e)
  go_loopg [27] (N + 8) (fun n a27 wr => ∃ k : Nat, a27 = .int .i64 (k : Int) ∧ k ≤ N ∧ Below w.heap.size w wr ∧ wr.ownsRow w.heap.size 9 1 (.slice (some ⟨w.heap.size, 0, none⟩) N N) N (trow vs k) ∧ n = N + 8 - k)
  case atStart => exact ⟨0, rfl, Nat.zero_le _, hB1, HO.out, rfl⟩
  case round =>
    obtain ⟨k, rfl, hkN, hB, hown, hgk⟩ := hrel
    have HGK : Hid (gk = N + 8 - k) := hgk
    have HOW := aside_of hown
    have HBW := aside_of hB
    clear hgk hown hB
    by_cases hlt : k < N
    · obtain ⟨u, hu⟩ : ∃ u, vs[k]? = some u := ⟨_, List.getElem?_eq_getElem (by rw [← HN.out]; exact hlt)⟩
      have HU : Hid (vs[k]? = some u) := hu
      have hu64 : u < 18446744073709551616 := HV.out u (List.mem_of_getElem? hu)
      have hbw : w.cell? ⟨b, k, none⟩ = some (.int .u64 (u : Int)) := HC.out k u hu
      have hbl : b < w.heap.size := World.block_lt_of_cell? _ _ hbw
      have hcell : wr.cell? ⟨b, k, none⟩ = some (.int .u64 (u : Int)) := (HBW.out.cell (p := ⟨b, k, none⟩) hbl).trans hbw
      have HET := aside_of (etag_any u hu64 wr (htab.below HBW.out))
      clear hu hbw
      go_wp2_with fail
      refine HET.out.mono ?_
      rintro e w2 ⟨rfl, hb2'⟩
      have hgl : w.heap.size < wr.heap.size := (HOW.out.lt _ rfl).2
      have hown2 : w2.ownsRow w.heap.size 9 1 (.slice (some ⟨w.heap.size, 0, none⟩) N N) N (trow vs k) :=
        HOW.out.kept (row := none) ⟨hb2'.os, hb2'.tape, hb2'.output, hb2'.size, fun j hj _ => hb2'.block j hj⟩ (Or.inr (by simp [Value.ownBlock]))
      have hcs : w2.cell? ⟨w.heap.size, k, none⟩ = some (.string ⟨#[]⟩) := (hown2.cellAt k (by omega)).trans (trow_at vs k (by rw [← HN.out]; exact hlt))
      have hfs := hown2.frozenAt k
      have HST := aside_of (hown2.stored k (.string (tag u)))
      have HB2 := aside_of (Below.setCell (HBW.out.trans (hb2'.mono (Nat.le_of_lt hgl))) (p := ⟨w.heap.size, k, none⟩) (Nat.le_refl _) (.string (tag u)))
      clear hown2 hb2'
      go_wp2_with fail
      go_roundg (N + 8 - (k + 1))
      case measure => have := HGK.out; omega
      case rel => exact ⟨k + 1, by go_num, hlt, HB2.out, by rw [← trow_step vs k u HU.out]; exact HST.out.1, rfl⟩
    · obtain rfl : k = N := by omega
      have hmap : (vs.map tag).map (fun x => x.data.toList) = vs.map tb := by
        rw [List.map_map]; exact List.map_congr_left (fun v _ => tag_list v)
      have hj : Calls Tryd.prog 20 #[.slice (some ⟨w.heap.size, 0, none⟩) k k, .string ⟨#[44]⟩] wr fun e w' => e = .returned (.string ⟨(tl vs).toArray⟩) ∧ Below wr.heap.size wr w' := by
        have h := Tryd.strings_Join w.heap.size 0 k (vs.map tag) ⟨#[44]⟩ wr (fun j x hx => by
          rw [List.getElem?_map] at hx
          obtain ⟨v, hv, rfl⟩ := Option.map_eq_some_iff.1 hx
          have hjk : j < k := by rw [HN.out]; exact (List.getElem?_eq_some_iff.1 hv).1
          have h0 := HOW.out.cellAt j (by omega)
          rw [Nat.zero_add, h0, HN.out]
          exact trow_done vs j v hv) (HOW.out.lt _ rfl).2 (by rw [List.length_map, ← HN.out]; omega) (by rw [List.length_map, ← HN.out]; exact Nat.le_refl _) (by rw [hmap]; have := HTL.out; rw [← HN.out] at this; show (tl vs).length ≤ _; omega)
        rw [hmap, List.length_map, ← HN.out] at h
        exact h
      have HJ := aside_of hj
      have hgl : w.heap.size < wr.heap.size := (HOW.out.lt _ rfl).2
      clear hj hmap
      go_wp2_with fail
      refine HJ.out.mono ?_
      rintro e w2 ⟨rfl, hb2'⟩
      have HB2 := aside_of (HBW.out.trans (hb2'.mono (Nat.le_of_lt hgl)))
      clear hb2'
      go_wp2_with fail
      go_ret
      exact ⟨rfl, HB2.out⟩

theorem box0 (w : World) (v u : Value) : (w.alloc (.cells #[v, u] 37)).cell? ⟨w.heap.size, 0, none⟩ = some v := cell_of_row _ _ _ _ _ _ (heap_alloc_new w _)
theorem box1 (w : World) (v u : Value) : (w.alloc (.cells #[v, u] 37)).cell? ⟨w.heap.size, 1, none⟩ = some u := cell_of_row _ _ _ _ _ _ (heap_alloc_new w _)

set_option maxHeartbeats 1000000 in
theorem fmt_none (a : Option Addr) (c : Nat) (w : World) :
    Calls Tryd.prog 10 #[.bool false, .slice a 0 c] w fun e w' => e = .returned (.string ⟨#[34, 34]⟩) ∧ Below w.heap.size w w' := by
  have HC := aside_of (tags15_none w.heap.size a c _ (box0 w (.bool false) (.slice a 0 c)) (box1 w (.bool false) (.slice a 0 c)))
  have HB := aside_of (Below.alloc (Below.refl w.heap.size w) (Nat.le_refl _) (.cells #[.bool false, .slice a 0 c] 37))
  go_enter Tryd.func10, Tryd.ntmps10
  go_wp2_with fail
  refine HC.out.mono ?_
  rintro e w2 ⟨rfl, rfl⟩
  go_wp2_with fail
  go_ret
  exact ⟨rfl, HB.out⟩

set_option maxHeartbeats 1000000 in
theorem fmt_any (b : Nat) (vs : List Nat) (hvs : ∀ v ∈ vs, v < 18446744073709551616) (hne : 0 < vs.length) (hlen : vs.length ≤ 131072) (w : World) (htab : Tab w)
    (hc : ∀ (j v : Nat), vs[j]? = some v → w.cell? ⟨b, j, none⟩ = some (.int .u64 (v : Int))) :
    Calls Tryd.prog 10 #[.bool false, .slice (some ⟨b, 0, none⟩) vs.length vs.length] w fun e w' => e = .returned (.string ⟨(tl vs).toArray⟩) ∧ Below w.heap.size w w' := by
  have hB := Below.alloc (Below.refl w.heap.size w) (Nat.le_refl _) (.cells #[.bool false, .slice (some ⟨b, 0, none⟩) vs.length vs.length] 37)
  have HB := aside_of hB
  have HC := aside_of (tags15_any w.heap.size b vs hvs hne hlen _ (htab.below hB) (box0 w (.bool false) (.slice (some ⟨b, 0, none⟩) vs.length vs.length)) (box1 w (.bool false) (.slice (some ⟨b, 0, none⟩) vs.length vs.length))
    (fun j v h => by have := hc j v h; exact (hB.cell (p := ⟨b, j, none⟩) (World.block_lt_of_cell? _ _ this)).trans this))
  clear hB hc hvs
  go_enter Tryd.func10, Tryd.ntmps10
  go_wp2_with fail
  refine HC.out.mono ?_
  rintro e w2 ⟨rfl, hb2⟩
  have HB2 := aside_of (HB.out.trans (hb2.mono HB.out.size))
  clear hb2
  go_wp2_with fail
  go_ret
  exact ⟨rfl, HB2.out⟩

end Go.Proofs.Qxb6602065aDoor
