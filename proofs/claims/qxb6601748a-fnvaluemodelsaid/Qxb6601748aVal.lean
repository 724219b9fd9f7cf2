/-
  THE WALKS of value and ZZValue.
-/
import Derived.Test.Qxb6601748aTok
namespace Go.Proofs.Qxb6601748a
open Go.RowKit
set_option linter.unusedVariables false

/-- A builder stays one while a cell below it is written. -/
theorem isB_set {B : Nat} {bs : List Value} {w : World} (h : Lib.IsBuilder 58 5 B B bs w) {a : Addr} (ha : a.block < B) (u : Value) : Lib.IsBuilder 58 5 B B bs (w.setCell a u) := by
  have key : ∀ p, Lib.BuilderAt 58 5 B B p bs w → Lib.BuilderAt 58 5 B B p bs (w.setCell a u) := by
    rintro p ⟨hB, v, hb, hown, hne⟩
    exact ⟨hB, v, by rw [Below.heap_setCell _ _ _ _ (by omega)]; exact hb, ownsRow_setCell_below hown ha u, hne⟩
  rcases h with h | h
  · exact Or.inl (key _ h)
  · exact Or.inr (key _ h)
theorem isB_drewN {B : Nat} {bs : List Value} {w : World} (h : Lib.IsBuilder 58 5 B B bs w) (n : Nat) : Lib.IsBuilder 58 5 B B bs (w.drewN n) := h
theorem isB_drew {B : Nat} {bs : List Value} {w : World} (h : Lib.IsBuilder 58 5 B B bs w) : Lib.IsBuilder 58 5 B B bs w.drew := h
theorem isB_new (w : World) : Lib.IsBuilder 58 5 w.heap.size w.heap.size (Lib.byteCells []) (w.alloc (.cells #[.pointer none, .slice none 0 0] 58)) :=
  Or.inl ⟨Nat.le_refl _, .slice none 0 0, (MapKept.heap_alloc w _).1, World.ownsRow_nil _ _ _ _, by simp [Value.ownBlock]⟩

theorem size_set (w : World) (a : Addr) (u : Value) : (w.setCell a u).heap.size = w.heap.size := by simp [World.setCell]

set_option maxHeartbeats 1000000 in
set_option maxRecDepth 100000 in
theorem value_tok (w : World) (b : Nat) (s : ByteArray) (p : Nat) (hh : Hp w b s p) (hs : s.size ≤ 1048576) (hp : p ≤ s.size) (hq : Aside (¬ (p < s.size ∧ Pl.bu s p = 34))) :
    Calls Try.prog 25 #[.pointer (some ⟨b, 0, none⟩)] w fun e w' => e = .returned (.string (s.extract p (Pl.tend s p))) ∧ Hp w' b s (Pl.tend s p) ∧ Below b w w' := by
  go_enter Try.func25, Try.ntmps25
  go_wp2_with fail
  refine (next_no _ b s p hh hs hq).mono ?_
  rintro e w1 ⟨rfl, h1, b1⟩
  go_wp2_with fail
  refine (token_any _ b s p h1 hs hp).mono ?_
  rintro e w2 ⟨rfl, h2, b2⟩
  go_wp2_with fail
  go_ret
  exact ⟨rfl, h2, b1.trans b2⟩

set_option maxHeartbeats 2000000 in
set_option maxRecDepth 100000 in
theorem value_quoted (w : World) (b : Nat) (s : ByteArray) (p : Nat) (hh : Hp w b s p) (hs : s.size ≤ 1048576) (hp : p < s.size) (hq : Hid (Pl.bu s p = 34)) (hbw : b < w.heap.size) :
    Calls Try.prog 25 #[.pointer (some ⟨b, 0, none⟩)] w fun e w' => e = .returned (.string ⟨(Pl.va s (p + 1)).1.toArray⟩) ∧ Hp w' b s (Pl.va s (p + 1)).2 ∧ Below b w w' := by
  go_enter Try.func25, Try.ntmps25
  go_wp2_with fail
  refine (next_yes _ b s p hh hs hp (by have := hq.out; rw [Pl.bu_in hp] at this; rw [this]; rfl)).mono ?_
  rintro e w1 ⟨rfl, h1, b1⟩
  have hb1 : b < w1.heap.size := Nat.lt_of_lt_of_le hbw b1.size
  clear hh
  go_wp2_with fail
  go_loopg [] (s.size + 8 - (p + 1)) (fun n wr => ∃ (q : Nat) (acc : List UInt8), Hp wr b s q ∧ Lib.IsBuilder 58 5 w1.heap.size w1.heap.size (Lib.byteCells acc) wr ∧ Pl.Acc s (p + 1) acc q ∧ q ≤ s.size ∧ acc.length ≤ q ∧ Below b w wr ∧ w1.heap.size ≤ wr.heap.size ∧ n = s.size + 8 - q)
  case atStart => exact ⟨p + 1, [], h1.below ((Below.refl w1.heap.size w1).alloc (Nat.le_refl _) _) hb1, isB_new w1, Pl.Acc.start s _, hp, Nat.zero_le _, b1.alloc (by omega) _, by simp, rfl⟩
  case round =>
    obtain ⟨q, acc, hhp, hB, hacc, hqs, hlen, hbe, hsz, hk⟩ := hrel
    have HK : Hid (gk = s.size + 8 - q) := hk
    clear hk h1 b1
    obtain ⟨c0, c1, f1⟩ := hhp
    have H : Hp wr b s q := ⟨c0, c1, f1⟩
    have hcl := Lib.byteCells_length acc
    by_cases hlt : q < s.size
    · have EB : Hid (Pl.bu s q = s[q]) := Pl.bu_in hlt
      go_wp2
      go_quiet (fail)
      revert nq
      intro nA
      go_wp2
      go_quiet (fail)
      by_cases h34 : s[q].toNat = 34
      · have t1 : ((s[q].toNat : Int) == 34) = true := bt (by omega)
        have HQ : Hid (Pl.bu s q = 34) := by show _ = _; rw [EB.out]; exact UInt8.toNat_inj.1 h34
        clear h34
        go_wp2_with fail
        refine (Try.Builder_String_any w1.heap.size w1.heap.size acc _ (isB_set (isB_drewN hB _) (a := ⟨b, 1, none⟩) hb1 _) (by rw [size_set]; exact hsz)).mono ?_
        rintro e w2 ⟨rfl, b2⟩
        go_wp2_with fail
        go_ret
        have hfin := hacc.quote hlt HQ.out
        refine ⟨ret_str (by rw [hfin.1]), ?_, ?_⟩
        · rw [← hfin.2]
          exact ((H.drewN _).setP (q + 1) (by omega)).below b2 hb1
        · exact ((below_drewN hbe _).setCell (p := ⟨b, 1, none⟩) (Nat.le_refl _) _).trans (b2.mono (by omega))
      have t1 : ((s[q].toNat : Int) == 34) = false := bf (by omega)
      have H34 : Hid (Pl.bu s q ≠ 34) := by show _ ≠ _; rw [EB.out]; exact fun e => h34 (by rw [e]; rfl)
      clear h34
      by_cases h92 : s[q].toNat = 92
      · have t2 : ((s[q].toNat : Int) == 92) = true := bt (by omega)
        have H92 : Hid (Pl.bu s q = 92) := by show _ = _; rw [EB.out]; exact UInt8.toNat_inj.1 h92
        clear h92
        by_cases hq1 : q + 1 < s.size
        · have EB1 : Hid (Pl.bu s (q + 1) = s[q + 1]) := Pl.bu_in hq1
          go_wp2_with fail
          have HP2 : Hp ((wr.drewN (nA + nq)).setCell ⟨b, 1, none⟩ (.int .i64 ((q : Int) + 1))) b s (q + 1) := (H.drewN _).setP (q + 1) (by omega)
          have HB2 : Lib.IsBuilder 58 5 w1.heap.size w1.heap.size (Lib.byteCells acc) ((wr.drewN (nA + nq)).setCell ⟨b, 1, none⟩ (.int .i64 ((q : Int) + 1))) := isB_set (isB_drewN hB _) hb1 _
          have hbe2 : Below b w ((wr.drewN (nA + nq)).setCell ⟨b, 1, none⟩ (.int .i64 ((q : Int) + 1))) := (below_drewN hbe _).setCell (p := ⟨b, 1, none⟩) (Nat.le_refl _) _
          have hsz2 : w1.heap.size ≤ ((wr.drewN (nA + nq)).setCell ⟨b, 1, none⟩ (.int .i64 ((q : Int) + 1))).heap.size := by rw [size_set]; exact hsz
          generalize (wr.drewN (nA + nq)).setCell ⟨b, 1, none⟩ (.int .i64 ((q : Int) + 1)) = W at *
          clear c0 c1 f1 H hB hbe hsz
          obtain ⟨c0, c1, f1⟩ := HP2
          have HP2 : Hp W b s (q + 1) := ⟨c0, c1, f1⟩
          go_quiet (fail)
          go_wp2_with fail
          go_region_with (go_at_call 31; refine (writeByte_any w1.heap.size w1.heap.size (Lib.byteCells acc) _ _ (by exact HB2) (by omega) (by exact hsz2)).mono ?_; rintro e w2 ⟨rfl, hB3, b3⟩)
          all_goals
            have HP3 : Hp w2 b s (q + 1) := Hp.below (w := (W.drewN nq).drew) (HP2.drewN nq).drew b3 hb1
            have HB3 : Lib.IsBuilder 58 5 w1.heap.size w1.heap.size (Lib.byteCells (acc ++ [Pl.bu s (q + 1)])) w2 := by rw [Pl.byteCells_snoc, EB1.out]; exact Or.inr hB3
            have hbe3 : Below b w w2 := ((below_drewN hbe2 nq).drew).trans (b3.mono (by omega))
            have hsz3 : w1.heap.size ≤ w2.heap.size := Nat.le_trans hsz2 b3.size
            clear c0 c1 f1 b3 hB3 HP2
            obtain ⟨c0, c1, f1⟩ := HP3
            have HP3 : Hp w2 b s (q + 1) := ⟨c0, c1, f1⟩
            go_wp2_with fail
            go_roundg (s.size + 8 - (q + 2))
            case measure => have := HK.out; omega
            case rel => exact ⟨q + 2, acc ++ [Pl.bu s (q + 1)], HP3.setP (q + 2) (by omega), isB_set HB3 hb1 _, hacc.esc hq1 H92.out, by omega, by simp; omega, hbe3.setCell (p := ⟨b, 1, none⟩) (Nat.le_refl _) _, by rw [size_set]; exact hsz3, rfl⟩
        · have hd : decide ((q : Int) + 1 < (s.size : Int)) = false := by simp; omega
          go_wp2_with fail
          have HP2 : Hp ((wr.drewN (nA + nq)).setCell ⟨b, 1, none⟩ (.int .i64 ((q : Int) + 1))) b s (q + 1) := (H.drewN _).setP (q + 1) (by omega)
          have HB2 : Lib.IsBuilder 58 5 w1.heap.size w1.heap.size (Lib.byteCells acc) ((wr.drewN (nA + nq)).setCell ⟨b, 1, none⟩ (.int .i64 ((q : Int) + 1))) := isB_set (isB_drewN hB _) hb1 _
          have hbe2 : Below b w ((wr.drewN (nA + nq)).setCell ⟨b, 1, none⟩ (.int .i64 ((q : Int) + 1))) := (below_drewN hbe _).setCell (p := ⟨b, 1, none⟩) (Nat.le_refl _) _
          have hsz2 : w1.heap.size ≤ ((wr.drewN (nA + nq)).setCell ⟨b, 1, none⟩ (.int .i64 ((q : Int) + 1))).heap.size := by rw [size_set]; exact hsz
          generalize (wr.drewN (nA + nq)).setCell ⟨b, 1, none⟩ (.int .i64 ((q : Int) + 1)) = W at *
          clear c0 c1 f1 H hB hbe hsz
          obtain ⟨c0, c1, f1⟩ := HP2
          have HP2 : Hp W b s (q + 1) := ⟨c0, c1, f1⟩
          go_quiet (fail)
          go_wp2_with fail
          refine (writeByte_any w1.heap.size w1.heap.size (Lib.byteCells acc) _ _ (isB_drewN HB2 _) (by omega) hsz2).mono ?_
          rintro e w2 ⟨rfl, hB3, b3⟩
          go_wp2_with fail
          go_roundg (s.size + 8 - (q + 1))
          case measure => have := HK.out; omega
          case rel => exact ⟨q + 1, acc ++ [Pl.bu s q], (HP2.drewN _).below b3 hb1, by rw [Pl.byteCells_snoc, EB.out]; exact Or.inr hB3, hacc.lit hlt H34.out (fun h => by omega), by omega, by simp; omega, (below_drewN hbe2 _).trans (b3.mono (by omega)), Nat.le_trans hsz2 b3.size, rfl⟩
      · have t2 : ((s[q].toNat : Int) == 92) = false := bf (by omega)
        have H92 : Hid (Pl.bu s q ≠ 92) := by show _ ≠ _; rw [EB.out]; exact fun e => h92 (by rw [e]; rfl)
        clear h92
        go_wp2_with fail
        have HP2 : Hp ((wr.drewN (nA + nq)).setCell ⟨b, 1, none⟩ (.int .i64 ((q : Int) + 1))) b s (q + 1) := (H.drewN _).setP (q + 1) (by omega)
        have HB2 : Lib.IsBuilder 58 5 w1.heap.size w1.heap.size (Lib.byteCells acc) ((wr.drewN (nA + nq)).setCell ⟨b, 1, none⟩ (.int .i64 ((q : Int) + 1))) := isB_set (isB_drewN hB _) hb1 _
        have hbe2 : Below b w ((wr.drewN (nA + nq)).setCell ⟨b, 1, none⟩ (.int .i64 ((q : Int) + 1))) := (below_drewN hbe _).setCell (p := ⟨b, 1, none⟩) (Nat.le_refl _) _
        have hsz2 : w1.heap.size ≤ ((wr.drewN (nA + nq)).setCell ⟨b, 1, none⟩ (.int .i64 ((q : Int) + 1))).heap.size := by rw [size_set]; exact hsz
        generalize (wr.drewN (nA + nq)).setCell ⟨b, 1, none⟩ (.int .i64 ((q : Int) + 1)) = W at *
        clear c0 c1 f1 H hB hbe hsz
        obtain ⟨c0, c1, f1⟩ := HP2
        have HP2 : Hp W b s (q + 1) := ⟨c0, c1, f1⟩
        go_quiet (fail)
        go_wp2_with fail
        refine (writeByte_any w1.heap.size w1.heap.size (Lib.byteCells acc) _ _ (isB_drewN HB2 _) (by omega) hsz2).mono ?_
        rintro e w2 ⟨rfl, hB3, b3⟩
        go_wp2_with fail
        go_roundg (s.size + 8 - (q + 1))
        case measure => have := HK.out; omega
        case rel => exact ⟨q + 1, acc ++ [Pl.bu s q], (HP2.drewN _).below b3 hb1, by rw [Pl.byteCells_snoc, EB.out]; exact Or.inr hB3, hacc.lit hlt H34.out (fun h => H92.out h.1), by omega, by simp; omega, (below_drewN hbe2 _).trans (b3.mono (by omega)), Nat.le_trans hsz2 b3.size, rfl⟩
    · have hd : decide (q < s.size) = false := by simpa using hlt
      go_wp2
      go_quiet (fail)
      go_wp2_with fail
      refine (Try.Builder_String_any w1.heap.size w1.heap.size acc _ (isB_drewN hB _) hsz).mono ?_
      rintro e w2 ⟨rfl, b2⟩
      go_wp2_with fail
      go_ret
      have hfin := hacc.done (by omega)
      refine ⟨ret_str (by rw [hfin.1]), ?_, ?_⟩
      · rw [← hfin.2]
        exact (H.drewN _).below b2 hb1
      · exact (below_drewN hbe _).trans (b2.mono (by omega))

end Go.Proofs.Qxb6601748a
