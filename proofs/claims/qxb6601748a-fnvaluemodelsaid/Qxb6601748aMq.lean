/-
  THE WALK of the model's quoted text.
-/
import Derived.Test.Qxb6601748aMod
namespace Go.Proofs.Qxb6601748a
open Go.RowKit
set_option linter.unusedVariables false

/-- 'string(out)' of a row that the call owns. -/
theorem conv_own {w : World} {B : Nat} {v : Value} {l : List UInt8} (h : w.ownsRow B 5 1 v l.length (Lib.byteCells l)) : (convert 43 9 v).run Try.prog w = .ok (.string ⟨l.toArray⟩) w := by
  rcases h.2 with ⟨rfl, h0⟩ | ⟨g, cap, cur, rfl, _, hg, _, _, _, ht⟩
  · obtain rfl : l = [] := List.length_eq_zero_iff.1 h0
    exact Lib.run_convert_nil_bytes w 43 9 5 0 Try.underlying43 Try.underlying5 Try.underlying9
  · exact run_convert_bytes_back w 43 9 5 ⟨g, 0, none⟩ cap l Try.underlying43 Try.underlying5 Try.underlying9 (Lib.bytes_of_row hg (by simpa using ht))

/-- An append of one byte. -/
theorem step_own {w wr w2 : World} {B : Nat} {v v' : Value} {acc : List UInt8} {x : UInt8} {z : Int} {m : Nat} {o : Obj} (hz : z = (x.toNat : Int)) (hm : m = acc.length + 1) (hB : B ≤ wr.heap.size) (hown : wr.ownsRow B 5 1 v acc.length (Lib.byteCells acc)) (hbe : Below B w wr)
    (hown' : w2.ownsRow B 5 1 v' m (Lib.byteCells acc ++ [.int .u8 z])) (hg : (wr.alloc o).grownBy w2 v.ownBlock) :
    w2.ownsRow B 5 1 v' (acc ++ [x]).length (Lib.byteCells (acc ++ [x])) ∧ Below B w w2 := by
  subst hz hm
  refine ⟨by rw [Pl.byteCells_snoc, List.length_append]; exact hown', (hbe.alloc hB _).grown hg (by simp; omega) (fun k hk => (hown.lt k hk).1)⟩

theorem aside_of {p : Prop} (h : p) : Aside p := h

/-- What the search for the backslashes' end has seen. -/
structure Bs (s : ByteArray) (i j : Nat) : Prop where
  lo : i ≤ j
  hi : j ≤ s.size
  all : ∀ x, i ≤ x → x < j → Pl.bu s x = 92

theorem run_even {s : ByteArray} {p0 i j : Nat} {acc : List UInt8} (h : Pl.Acc s p0 acc i) (hb : Bs s i j) (he : (j - i) % 2 = 0) : Pl.Acc s p0 (acc ++ List.replicate ((j - i) / 2) 92) j := by
  have h1 := hb.lo
  have h2 := hb.hi
  have h3 := h.run ((j - i) / 2) (by omega) (fun x g1 g2 => hb.all x g1 (by omega))
  rw [show i + 2 * ((j - i) / 2) = j by omega] at h3
  exact h3
theorem run_odd {s : ByteArray} {p0 i j : Nat} {acc : List UInt8} (h : Pl.Acc s p0 acc i) (hb : Bs s i j) (he : (j - i) % 2 = 1) : Pl.Acc s p0 (acc ++ List.replicate ((j - i) / 2) 92) (j - 1) ∧ Pl.bu s (j - 1) = 92 := by
  have h1 := hb.lo
  have h2 := hb.hi
  have h3 := h.run ((j - i) / 2) (by omega) (fun x g1 g2 => hb.all x g1 (by omega))
  rw [show i + 2 * ((j - i) / 2) = j - 1 by omega] at h3
  exact ⟨h3, hb.all (j - 1) (by omega) (by omega)⟩
/-- An odd run takes the byte behind it. -/
theorem odd_byte {s : ByteArray} {p0 i j : Nat} {acc : List UInt8} (h : Pl.Acc s p0 acc i) (hb : Bs s i j) (he : (j - i) % 2 = 1) (hj : j < s.size) : Pl.Acc s p0 ((acc ++ List.replicate ((j - i) / 2) 92) ++ [Pl.bu s j]) (j + 1) := by
  obtain ⟨h1, h2⟩ := run_odd h hb he
  have h3 := h1.esc (by omega) h2
  rw [show j - 1 + 1 = j by omega, show j - 1 + 2 = j + 1 by omega] at h3
  exact h3
/-- An odd run at the end: a lone backslash. -/
theorem odd_end {s : ByteArray} {p0 i j : Nat} {acc : List UInt8} (h : Pl.Acc s p0 acc i) (hb : Bs s i j) (he : (j - i) % 2 = 1) (hj : j = s.size) : Pl.Acc s p0 ((acc ++ List.replicate ((j - i) / 2) 92) ++ [92]) j := by
  obtain ⟨h1, h2⟩ := run_odd h hb he
  have h3 := h1.lit (by omega) (by rw [h2]; decide) (by omega)
  rw [h2, show j - 1 + 1 = j by omega] at h3
  exact h3
theorem rep_snoc (acc : List UInt8) (k : Nat) : (acc ++ List.replicate k 92) ++ [92] = acc ++ List.replicate (k + 1) 92 := by
  rw [List.append_assoc, ← List.replicate_succ']

set_option maxHeartbeats 4000000 in
set_option maxRecDepth 100000 in
theorem model_quoted (w : World) (s : ByteArray) (p : Nat) (hs : s.size ≤ 1048576) (hp : p < s.size) (hq : s[p].toNat = 34) :
    Calls Try.prog 19 #[.string s, .int .i64 (p : Int)] w fun e w' => e = .returned (.tuple #[.string ⟨(Pl.va s (p + 1)).1.toArray⟩, .int .i64 ((Pl.va s (p + 1)).2 : Int)]) ∧ Below w.heap.size w w' := by
  obtain ⟨i0, hi, hz0, hz1, hz2⟩ := info_parts infoByte
  have t0 : ((s[p].toNat : Int) != 34) = false := nf (by omega)
  clear hq
  go_enter Try.func19, Try.ntmps19
  go_wp2_with (at_make; refine wpList_make_own _ rfl _ _ 43 rfl w.heap.size 5 i0 (.int .u8 0) 1 Try.underlying43 hi hz0 hz1 _ _ _ (s.size - p) rfl rfl (by omega) ?b2 ?b3 (Nat.le_refl _) ?_)
  case b2 => rw [hz2]; omega
  case b3 => unfold maxLen; omega
  intro w0 hown0 hgrow0
  have hbe0 : Below w.heap.size w w0 := (Below.refl _ _).grown hgrow0 (Nat.le_refl _) (fun k h => by cases h)
  clear hgrow0
  go_wp2_with fail
  go_loopg [7, 8] (s.size + 8 - (p + 1)) (fun n a7 a8 wr => ∃ (i : Nat) (acc : List UInt8), a8 = .int .i64 (i : Int) ∧ wr.ownsRow w.heap.size 5 1 a7 acc.length (Lib.byteCells acc) ∧ Pl.Acc s (p + 1) acc i ∧ i ≤ s.size ∧ acc.length ≤ i ∧ Below w.heap.size w wr ∧ n = s.size + 8 - i)
  case atStart => exact ⟨p + 1, [], by go_num, hown0, Pl.Acc.start s _, hp, Nat.zero_le _, hbe0, rfl⟩
  case round =>
    obtain ⟨i, acc, rfl, hown, hacc, his, hlen, hbe, hk⟩ := hrel
    have HK : Hid (gk = s.size + 8 - i) := hk
    clear hk hown0 hbe0
    have hwB := hbe.size
    by_cases hlt : i < s.size
    · go_wp2_with fail
      go_loopg [9] (s.size + 8 - i) (fun n a9 wj => ∃ j : Nat, a9 = .int .i64 (j : Int) ∧ Bs s i j ∧ wr = wj ∧ n = s.size + 8 - j)
      case atStart => exact ⟨i, rfl, ⟨Nat.le_refl _, his, fun x h1 h2 => by omega⟩, rfl, rfl⟩
      case round =>
        obtain ⟨j, rfl, hbs, rfl, hk2⟩ := hrel
        have HK2 : Hid (gk = s.size + 8 - j) := hk2
        clear hk2
        have hij := hbs.lo
        have hjs := hbs.hi
        by_cases hj : j < s.size
        · have EJ : Hid (Pl.bu s j = s[j]) := Pl.bu_in hj
          by_cases h92 : s[j].toNat = 92
          · have t92 : ((s[j].toNat : Int) == 92) = true := bt (by omega)
            have H92 : Hid (Pl.bu s j = 92) := by show _ = _; rw [EJ.out]; exact UInt8.toNat_inj.1 h92
            clear h92
            go_wp2_with fail
            go_roundg (s.size + 8 - (j + 1))
            case measure => have := HK2.out; omega
            case rel => exact ⟨j + 1, by go_num, ⟨by omega, hj, fun x g1 g2 => by
              by_cases e : x = j
              · rw [e]; exact H92.out
              · exact hbs.all x g1 (by omega)⟩, rfl, rfl⟩
          · have t92 : ((s[j].toNat : Int) == 92) = false := bf (by omega)
            have H92 : Hid (Pl.bu s j ≠ 92) := by show _ ≠ _; rw [EJ.out]; exact fun e => h92 (by rw [e]; rfl)
            clear h92
            go_wp2_with fail
            go_loopg [7, 11] ((j - i) / 2 + 8) (fun n a7 a11 wk => ∃ k : Nat, a11 = .int .i64 (k : Int) ∧ k ≤ (j - i) / 2 ∧ wk.ownsRow w.heap.size 5 1 a7 (acc ++ List.replicate k 92).length (Lib.byteCells (acc ++ List.replicate k 92)) ∧ Below w.heap.size w wk ∧ n = (j - i) / 2 + 8 - k)
            case atStart => exact ⟨0, rfl, Nat.zero_le _, by simpa using hown, hbe, rfl⟩
            case round =>
              obtain ⟨k, rfl, hkk, hownk, hbek, hk3⟩ := hrel
              have HK3 : Hid (gk = (j - i) / 2 + 8 - k) := hk3
              clear hk3
              have hwk := hbek.size
              have HLK : Hid ((acc ++ List.replicate k (92 : UInt8)).length = acc.length + k) := by show _ = _; simp
              by_cases hk : k < (j - i) / 2
              · go_wp2_with (at_builtin; refine wpList_append_own _ rfl _ _ 43 rfl w.heap.size 5 i0 (.int .u8 0) 1 1 Try.underlying43 hi hz0 hz1 hz2 rfl (by decide) _ _ _ rfl (hownk.alloc _) ⟨wr.heap.size, 0, none⟩ 1 1 [.int .u8 92] rfl rfl ?c1 ?c2 ?c3 ?c4 ?c5 ?_)
                case c1 =>
                  intro x u hx
                  match x, hx with
                  | 0, hx => simp at hx; subst hx; simp [Addr.add]
                case c2 => intro u hu; simp at hu; subst hu; rfl
                case c3 => unfold maxLen; rw [HLK.out]; omega
                case c4 => rw [HLK.out]; omega
                case c5 => simp; omega
                intro v' w2 hown' hgrow _
                have R := step_own (x := 92) rfl (by rw [HLK.out]) hwk hownk hbek hown' hgrow
                have HR : Aside (w2.ownsRow w.heap.size 5 1 v' (acc ++ List.replicate (k + 1) 92).length (Lib.byteCells (acc ++ List.replicate (k + 1) 92)) ∧ Below w.heap.size w w2) := by rw [← rep_snoc]; exact R
                clear hown' hgrow hownk hbek R
                go_wp2_with fail
                go_roundg ((j - i) / 2 + 8 - (k + 1))
                case measure => have := HK3.out; omega
                case rel => exact ⟨k + 1, by go_num, by omega, HR.out.1, HR.out.2, rfl⟩
              · have hkeq : k = (j - i) / 2 := by omega
                have HKE : Hid (k = (j - i) / 2) := hkeq
                clear hkeq
                by_cases hodd : (j - i) % 2 = 1
                · have to : (((j : Int) - (i : Int)) % 2 == 1) = true := bt (by omega)
                  have te : ((j : Int) == (s.size : Int)) = false := bf (by omega)
                  have HAC : Aside (Pl.Acc s (p + 1) ((acc ++ List.replicate k 92) ++ [Pl.bu s j]) (j + 1)) := by rw [HKE.out]; exact odd_byte hacc hbs hodd hj
                  clear hodd
                  go_wp2_with (at_builtin; refine wpList_append_own _ rfl _ _ 43 rfl w.heap.size 5 i0 (.int .u8 0) 1 1 Try.underlying43 hi hz0 hz1 hz2 rfl (by decide) _ _ _ rfl (hownk.alloc _) ⟨wr.heap.size, 0, none⟩ 1 1 [.int .u8 (s[j].toNat : Int)] rfl rfl ?c1 ?c2 ?c3 ?c4 ?c5 ?_)
                  case c1 =>
                    intro x u hx
                    match x, hx with
                    | 0, hx => simp at hx; subst hx; simp [Addr.add]
                  case c2 => intro u hu; simp at hu; subst hu; rfl
                  case c3 => unfold maxLen; rw [HLK.out]; omega
                  case c4 => rw [HLK.out]; omega
                  case c5 => simp; omega
                  intro v' w2 hown' hgrow _
                  have R := step_own (x := Pl.bu s j) (by rw [EJ.out]) (by rw [HLK.out]) hwk hownk hbek hown' hgrow
                  have HR := aside_of R
                  clear hown' hgrow hownk hbek R
                  go_wp2_with fail
                  go_roundg (s.size + 8 - (j + 1))
                  case measure => have := HK.out; omega
                  case rel => exact ⟨j + 1, _, by go_num, HR.out.1, HAC.out, by omega, by rw [List.length_append, HLK.out]; simp; omega, HR.out.2, rfl⟩
                · have to : (((j : Int) - (i : Int)) % 2 == 1) = false := bf (by omega)
                  have te : ((j : Int) == (s.size : Int)) = false := bf (by omega)
                  have HAC : Aside (Pl.Acc s (p + 1) (acc ++ List.replicate k 92) j) := by rw [HKE.out]; exact run_even hacc hbs (by omega)
                  clear hodd
                  by_cases h34 : s[j].toNat = 34
                  · have t34 : ((s[j].toNat : Int) == 34) = true := bt (by omega)
                    have HF := aside_of (HAC.out.quote hj (by rw [EJ.out]; exact UInt8.toNat_inj.1 h34))
                    have hcv := conv_own hownk
                    clear h34
                    go_wp2_with fail
                    go_ret2
                    exact ⟨by rw [← HF.out.1, ← HF.out.2]; rfl, hbek⟩
                  · have t34 : ((s[j].toNat : Int) == 34) = false := bf (by omega)
                    have HAC2 := aside_of (HAC.out.lit hj (by rw [EJ.out]; exact fun e => h34 (by rw [e]; rfl)) (fun h => H92.out h.1))
                    clear h34
                    go_wp2_with (at_builtin; refine wpList_append_own _ rfl _ _ 43 rfl w.heap.size 5 i0 (.int .u8 0) 1 1 Try.underlying43 hi hz0 hz1 hz2 rfl (by decide) _ _ _ rfl (hownk.alloc _) ⟨wr.heap.size, 0, none⟩ 1 1 [.int .u8 (s[j].toNat : Int)] rfl rfl ?c1 ?c2 ?c3 ?c4 ?c5 ?_)
                    case c1 =>
                      intro x u hx
                      match x, hx with
                      | 0, hx => simp at hx; subst hx; simp [Addr.add]
                    case c2 => intro u hu; simp at hu; subst hu; rfl
                    case c3 => unfold maxLen; rw [HLK.out]; omega
                    case c4 => rw [HLK.out]; omega
                    case c5 => simp; omega
                    intro v' w2 hown' hgrow _
                    have R := step_own (x := Pl.bu s j) (by rw [EJ.out]) (by rw [HLK.out]) hwk hownk hbek hown' hgrow
                    have HR := aside_of R
                    clear hown' hgrow hownk hbek R
                    go_wp2_with fail
                    go_roundg (s.size + 8 - (j + 1))
                    case measure => have := HK.out; omega
                    case rel => exact ⟨j + 1, _, by go_num, HR.out.1, HAC2.out, by omega, by rw [List.length_append, HLK.out]; simp; omega, HR.out.2, rfl⟩
        · go_wp2_with fail
          go_loopg [7, 11] ((j - i) / 2 + 8) (fun n a7 a11 wk => ∃ k : Nat, a11 = .int .i64 (k : Int) ∧ k ≤ (j - i) / 2 ∧ wk.ownsRow w.heap.size 5 1 a7 (acc ++ List.replicate k 92).length (Lib.byteCells (acc ++ List.replicate k 92)) ∧ Below w.heap.size w wk ∧ n = (j - i) / 2 + 8 - k)
          case atStart => exact ⟨0, rfl, Nat.zero_le _, by simpa using hown, hbe, rfl⟩
          case round =>
            obtain ⟨k, rfl, hkk, hownk, hbek, hk3⟩ := hrel
            have HK3 : Hid (gk = (j - i) / 2 + 8 - k) := hk3
            clear hk3
            have hwk := hbek.size
            have HLK : Hid ((acc ++ List.replicate k (92 : UInt8)).length = acc.length + k) := by show _ = _; simp
            by_cases hk : k < (j - i) / 2
            · go_wp2_with (at_builtin; refine wpList_append_own _ rfl _ _ 43 rfl w.heap.size 5 i0 (.int .u8 0) 1 1 Try.underlying43 hi hz0 hz1 hz2 rfl (by decide) _ _ _ rfl (hownk.alloc _) ⟨wr.heap.size, 0, none⟩ 1 1 [.int .u8 92] rfl rfl ?c1 ?c2 ?c3 ?c4 ?c5 ?_)
              case c1 =>
                intro x u hx
                match x, hx with
                | 0, hx => simp at hx; subst hx; simp [Addr.add]
              case c2 => intro u hu; simp at hu; subst hu; rfl
              case c3 => unfold maxLen; rw [HLK.out]; omega
              case c4 => rw [HLK.out]; omega
              case c5 => simp; omega
              intro v' w2 hown' hgrow _
              have R := step_own (x := 92) rfl (by rw [HLK.out]) hwk hownk hbek hown' hgrow
              have HR : Aside (w2.ownsRow w.heap.size 5 1 v' (acc ++ List.replicate (k + 1) 92).length (Lib.byteCells (acc ++ List.replicate (k + 1) 92)) ∧ Below w.heap.size w w2) := by rw [← rep_snoc]; exact R
              clear hown' hgrow hownk hbek R
              go_wp2_with fail
              go_roundg ((j - i) / 2 + 8 - (k + 1))
              case measure => have := HK3.out; omega
              case rel => exact ⟨k + 1, by go_num, by omega, HR.out.1, HR.out.2, rfl⟩
            · have hkeq : k = (j - i) / 2 := by omega
              have HKE : Hid (k = (j - i) / 2) := hkeq
              clear hkeq
              by_cases hodd : (j - i) % 2 = 1
              · have to : (((j : Int) - (i : Int)) % 2 == 1) = true := bt (by omega)
                have te : ((j : Int) == (s.size : Int)) = true := bt (by omega)
                have HF := aside_of ((odd_end hacc hbs hodd (by omega)).done (by omega))
                rw [← HKE.out] at HF
                clear hodd
                go_wp2_with (at_builtin; refine wpList_append_own _ rfl _ _ 43 rfl w.heap.size 5 i0 (.int .u8 0) 1 1 Try.underlying43 hi hz0 hz1 hz2 rfl (by decide) _ _ _ rfl (hownk.alloc _) ⟨wr.heap.size, 0, none⟩ 1 1 [.int .u8 92] rfl rfl ?c1 ?c2 ?c3 ?c4 ?c5 ?_)
                case c1 =>
                  intro x u hx
                  match x, hx with
                  | 0, hx => simp at hx; subst hx; simp [Addr.add]
                case c2 => intro u hu; simp at hu; subst hu; rfl
                case c3 => unfold maxLen; rw [HLK.out]; omega
                case c4 => rw [HLK.out]; omega
                case c5 => simp; omega
                intro v' w2 hown' hgrow _
                have R := step_own (x := 92) rfl (by rw [HLK.out]) hwk hownk hbek hown' hgrow
                have HR := aside_of R
                have hcv := conv_own R.1
                clear hown' hgrow hownk hbek R
                go_wp2_with fail
                go_ret2
                exact ⟨by rw [← HF.out.1, ← HF.out.2, show j = s.size by omega, List.append_assoc]; rfl, HR.out.2⟩
              · have to : (((j : Int) - (i : Int)) % 2 == 1) = false := bf (by omega)
                have te : ((j : Int) == (s.size : Int)) = true := bt (by omega)
                have HF := aside_of ((run_even hacc hbs (by omega)).done (by omega))
                rw [← HKE.out] at HF
                have hcv := conv_own hownk
                clear hodd
                go_wp2_with fail
                go_ret2
                exact ⟨by rw [← HF.out.1, ← HF.out.2, show j = s.size by omega]; rfl, hbek⟩
    · have hcv := conv_own hown
      have hfin := hacc.done (by omega)
      have HF : Aside (acc = (Pl.va s (p + 1)).1 ∧ i = (Pl.va s (p + 1)).2) := hfin
      clear hfin
      go_wp2_with fail
      go_ret2
      exact ⟨by rw [← HF.out.1, ← HF.out.2, show i = s.size by omega]; rfl, hbe⟩

/-- The model, whichever the value's kind. -/
theorem model_any (w : World) (s : ByteArray) (p : Nat) (hs : s.size ≤ 1048576) (hp : p ≤ s.size) :
    Calls Try.prog 19 #[.string s, .int .i64 (p : Int)] w fun e w' => e = .returned (.tuple #[.string (Pl.value s p).1, .int .i64 ((Pl.value s p).2 : Int)]) ∧ Below w.heap.size w w' := by
  by_cases h : p < s.size ∧ Pl.bu s p = 34
  · rw [show Pl.value s p = (⟨(Pl.va s (p + 1)).1.toArray⟩, (Pl.va s (p + 1)).2) by unfold Pl.value; rw [if_pos h]]
    exact model_quoted w s p hs h.1 (by have := h.2; rw [Pl.bu_in h.1] at this; rw [this]; rfl)
  · rw [show Pl.value s p = (s.extract p (Pl.tend s p), Pl.tend s p) by unfold Pl.value; rw [if_neg h]]
    refine (model_tok w s p hs hp h).mono fun e w' ⟨he, hw⟩ => ⟨he, ?_⟩
    rw [hw]
    exact Below.refl _ _

theorem zzb17_yes (s : ByteArray) (i : Int) (w : World) (hs : s.size ≤ 1048576) :
    Calls Try.prog 17 #[.string s, .int .i64 i] w fun e w' => e = .returned (.bool true) ∧ w' = w := by
  go_enter Try.func17, Try.ntmps17
  go_wp2
  go_ret
  exact ⟨rfl, rfl⟩
theorem zzb17_no (s : ByteArray) (i : Int) (w : World) (hs : 1048576 < s.size) :
    Calls Try.prog 17 #[.string s, .int .i64 i] w fun e w' => e = .returned (.bool false) ∧ w' = w := by
  go_enter Try.func17, Try.ntmps17
  go_wp2
  go_ret
  exact ⟨rfl, rfl⟩

set_option maxHeartbeats 1000000 in
set_option maxRecDepth 100000 in
theorem law_main (s : ByteArray) (p : Nat) (w : World) (hs : s.size ≤ 1048576) (hp : p ≤ s.size) :
    Calls Try.prog 5 #[.string s, .int .i64 (p : Int)] w fun e w' => e = .returned (.bool true) ∧ Below w.heap.size w w' := by
  go_enter Try.func5, Try.ntmps5
  go_wp2_with (go_at_call 17; refine (zzb17_yes _ _ _ hs).mono ?_; rintro e w' ⟨rfl, rfl⟩)
  refine (zzValue_any _ s p hs hp).mono ?_
  rintro e w1 ⟨rfl, b1⟩
  go_wp2_with fail
  refine (model_any _ s p hs hp).mono ?_
  rintro e w2 ⟨rfl, b2⟩
  generalize Pl.value s p = r
  obtain ⟨v, q⟩ := r
  dsimp only
  go_wp2_with fail
  go_ret
  exact ⟨rfl, b1.trans (b2.mono b1.size)⟩

end Go.Proofs.Qxb6601748a
