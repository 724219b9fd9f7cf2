/-
  THE WALK of cutETag where the text begins with an entity tag; the plain facts that it wants.
-/
import Derived.Test.Qxb6602065aDoorFmt
import Derived.Lib.IndexBytes
namespace Go.Proofs.Qxb6602065aDoor
open Go.RowKit
set_option linter.unusedVariables false

/-- A byte that may stand in a tag. -/
def Ok (b : UInt8) : Prop := 32 < b.toNat ∧ b.toNat ≠ 127 ∧ b ≠ 34

theorem dec_ok : ∀ (n u : Nat), u ≤ n → ∀ b ∈ Lib.decDigits u, Ok b
  | n, u, hn => by
    intro b hb
    have key : ∀ d : Nat, d < 10 → Ok (UInt8.ofNat (48 + d)) := by
      intro d hd
      have : ∀ d : Fin 10, 32 < (UInt8.ofNat (48 + d.1)).toNat ∧ (UInt8.ofNat (48 + d.1)).toNat ≠ 127 ∧ UInt8.ofNat (48 + d.1) ≠ 34 := by decide +kernel
      exact this ⟨d, hd⟩
    rw [Lib.decDigits] at hb
    split at hb
    · rw [List.mem_singleton] at hb; rw [hb]; exact key u (by omega)
    · rw [List.mem_append] at hb
      rcases hb with hb | hb
      · cases n with
        | zero => omega
        | succ n => exact dec_ok n (u / 10) (by omega) b hb
      · rw [List.mem_singleton] at hb; rw [hb]; exact key (u % 10) (by omega)

/-- The first place of a byte behind bytes that are none. -/
theorem index_first (c : UInt8) (R : List UInt8) : ∀ D : List UInt8, (∀ b ∈ D, b ≠ c) → Lib.indexByte (D ++ c :: R) c = (D.length : Int)
  | [], _ => by simp [Lib.indexByte]
  | b :: D, h => by
    have hb : (b == c) = false := by simpa using h b (by simp)
    have ih := index_first c R D (fun x hx => h x (by simp [hx]))
    rw [List.cons_append, Lib.indexByte, hb, ih]
    have : ((D.length : Int) == -1) = false := beq_eq_false_iff_ne.2 (by omega)
    rw [this]
    simp

/-- What the text is: the strength's mark, a tag, the rest. -/
def marked (weak : Bool) (D R : List UInt8) : List UInt8 := (if weak then [87, 47] else []) ++ 34 :: (D ++ 34 :: R)

theorem cut_weak (weak : Bool) (D R : List UInt8) : Lib.hasPrefix (marked weak D R) [87, 47] = weak ∧ Lib.trimPrefix (marked weak D R) [87, 47] = 34 :: (D ++ 34 :: R) := by
  cases weak with
  | true => exact ⟨rfl, rfl⟩
  | false => exact ⟨rfl, rfl⟩

/-- The text behind the mark, as bytes; its parts. -/
theorem parts (D R : List UInt8) (hD : ∀ b ∈ D, Ok b) (O : ByteArray) (hO : O = ⟨(34 :: (D ++ 34 :: R)).toArray⟩) :
    O.size = D.length + 2 + R.length ∧ Lib.hasPrefix O.data.toList [34] = true ∧ Lib.indexByte (O.extract 1 O.size).data.toList 34 = (D.length : Int) ∧
    O.extract 0 (D.length + 2) = ⟨(34 :: (D ++ [34])).toArray⟩ ∧ O.extract (D.length + 2) O.size = ⟨R.toArray⟩ := by
  have hl : O.data.toList = 34 :: (D ++ 34 :: R) := by rw [hO]
  have hsz : O.size = D.length + 2 + R.length := by rw [Lib.size_eq, hl]; simp; omega
  refine ⟨hsz, by rw [hl]; rfl, ?_, ?_, ?_⟩
  · rw [Lib.extract_to_end, hl]
    exact index_first 34 R D (fun b hb => (hD b hb).2.2)
  · rw [Lib.extract_eq, hl, List.drop_zero, Nat.sub_zero]
    congr 2
    rw [show D.length + 2 = (34 :: (D ++ [34]) : List UInt8).length by simp, show (34 :: (D ++ 34 :: R) : List UInt8) = (34 :: (D ++ [34])) ++ R by simp, List.take_left]
  · rw [Lib.extract_eq, hl, hsz, show (34 :: (D ++ 34 :: R) : List UInt8) = (34 :: (D ++ [34])) ++ R by simp, show D.length + 2 = (34 :: (D ++ [34]) : List UInt8).length by simp, List.drop_left]
    congr 2
    rw [show (34 :: (D ++ [34]) : List UInt8).length + R.length - (34 :: (D ++ [34]) : List UInt8).length = R.length by omega, List.take_length]

/-- The bytes between the quotes. -/
theorem inside (D : List UInt8) (hD : ∀ b ∈ D, Ok b) (T : ByteArray) (hT : T = ⟨(34 :: (D ++ [34])).toArray⟩) (x : Nat) (hx : x < T.size) (h1 : 1 ≤ x) (h2 : x < D.length + 1) : 32 < T[x].toNat ∧ T[x].toNat ≠ 127 := by
  have hl : T.data.toList = 34 :: (D ++ [34]) := by rw [hT]
  have he := Lib.data_getElem? T x hx
  rw [hl] at he
  obtain ⟨y, rfl⟩ : ∃ y, x = y + 1 := ⟨x - 1, by omega⟩
  rw [List.getElem?_cons_succ, List.getElem?_append_left (by omega)] at he
  have hm : T[y + 1] ∈ D := List.mem_of_getElem? he
  have := hD _ hm
  exact ⟨this.1, this.2.1⟩

set_option maxHeartbeats 2000000 in
set_option maxRecDepth 100000 in
theorem cutETag_any (s : ByteArray) (weak : Bool) (D R : List UInt8) (w : World) (hs : s.data.toList = marked weak D R) (hlen : D.length + R.length ≤ 1073741824) (hD : ∀ b ∈ D, Ok b) :
    Calls Tryd.prog 14 #[.string s] w fun e w' => e = .returned (.tuple #[.string ⟨(34 :: (D ++ [34])).toArray⟩, .bool weak, .string ⟨R.toArray⟩, .bool true]) ∧ Below w.heap.size w w' := by
  have hcut : Calls Tryd.prog 17 #[.string s, .string ⟨#[87, 47]⟩] w fun e w' => e = .returned (.tuple #[.string ⟨(34 :: (D ++ 34 :: R)).toArray⟩, .bool weak]) ∧ w' = w :=
    (Tryd.strings_CutPrefix s ⟨#[87, 47]⟩ w).mono fun e w' ⟨he, hw⟩ => ⟨by
      rw [he, hs, (cut_weak weak D R).1, (cut_weak weak D R).2], hw⟩
  obtain ⟨O, hO⟩ : ∃ O : ByteArray, O = ⟨(34 :: (D ++ 34 :: R)).toArray⟩ := ⟨_, rfl⟩
  rw [← hO] at hcut
  obtain ⟨hsz, hpre, hidx, hT, hU⟩ := parts D R hD O hO
  have HPRE : Hid (Lib.hasPrefix O.data.toList [34] = true) := hpre
  have HIDX : Hid (Lib.indexByte (O.extract 1 O.size).data.toList 34 = (D.length : Int)) := hidx
  have HT : Hid (O.extract 0 (D.length + 2) = ⟨(34 :: (D ++ [34])).toArray⟩) := hT
  have HU : Hid (O.extract (D.length + 2) O.size = ⟨R.toArray⟩) := hU
  have HHD : Aside (∀ b ∈ D, Ok b) := hD
  have hsz1 : O.size ≤ D.length + 2 + R.length := by omega
  have hsz2 : D.length + 2 + R.length ≤ O.size := by omega
  clear hO hsz hpre hidx hT hU hD hs
  generalize hn : D.length = n at *
  have HN : Hid (D.length = n) := hn
  clear hn
  go_enter Tryd.func14, Tryd.ntmps14
  go_wp2_with fail
  refine hcut.mono ?_
  rintro e w1 ⟨rfl, rfl⟩
  clear hcut
  go_wp2_with fail
  refine (Tryd.strings_HasPrefix _ _ _).mono ?_
  rintro e w2 ⟨rfl, rfl⟩
  rw [show ({ data := #[34] } : ByteArray).data.toList = [34] from rfl, HPRE.out]
  go_wp2_with fail
  refine (Tryd.strings_IndexByte _ _ _).mono ?_
  rintro e w3 ⟨rfl, rfl⟩
  rw [show (34 : Int).toNat.toUInt8 = 34 from rfl, HIDX.out]
  go_wp2_with fail
  go_quiet (fail)
  go_wp2_with fail
  have hTs : (O.extract 0 (n + 2)).size = n + 2 := by rw [ByteArray.size_extract]; omega
  have hin : Aside (∀ x (hx : x < (O.extract 0 (n + 2)).size), 1 ≤ x → x < n + 1 → 32 < (O.extract 0 (n + 2))[x].toNat ∧ (O.extract 0 (n + 2))[x].toNat ≠ 127) :=
    fun x hx h1 h2 => inside D HHD.out _ HT.out x hx h1 (by rw [HN.out]; exact h2)
  generalize O.extract 0 (n + 2) = T at *
  generalize O.extract (n + 2) O.size = U at *
  have hT1 : T.size ≤ n + 2 := by omega
  have hT2 : n + 2 ≤ T.size := by omega
  clear hTs
  go_loopg [2, 3, 4, 7] (n + 8) (fun m a2 a3 a4 a7 wr => a2 = .string T ∧ a3 = .bool weak ∧ a4 = .string U ∧ (∃ i : Nat, a7 = .int .i64 (i : Int) ∧ 1 ≤ i ∧ i ≤ n + 1 ∧ m = n + 9 - i) ∧ wr = w3.drewN nq)
  case atStart => exact ⟨rfl, rfl, rfl, ⟨1, rfl, Nat.le_refl _, by omega, by omega⟩, rfl⟩
  case round =>
    obtain ⟨rfl, rfl, rfl, ⟨i, rfl, hi1, hi2, hk⟩, rfl⟩ := hrel
    have HK : Hid (gk = n + 9 - i) := hk
    clear hk
    by_cases hlt : i < n + 1
    · have hiT : i < T.size := by omega
      obtain ⟨g1, g2⟩ := hin.out i hiT hi1 hlt
      have t1 : ¬ (T[i].toNat : Int) ≤ 32 := by omega
      have t2 : ((T[i].toNat : Int) == 127) = false := bf (by omega)
      clear g1 g2
      go_wp2_with fail
      go_roundg (n + 9 - (i + 1))
      case measure => have := HK.out; omega
      case rel => exact ⟨rfl, rfl, rfl, ⟨i + 1, by go_num, by omega, by omega, rfl⟩, rfl⟩
    · go_wp2_with fail
      refine bodyPost_ret (v := .tuple #[.string T, .bool weak, .string U, .bool true]) (by simp [results, Tryd.results14, go_sem]) rfl ⟨by rw [HT.out, HU.out], ?_⟩
      exact ⟨rfl, rfl, rfl, Nat.le_refl _, fun _ _ => rfl⟩

set_option maxHeartbeats 1000000 in
theorem zzcut_any (s : ByteArray) (weak : Bool) (D R : List UInt8) (w : World) (hs : s.data.toList = marked weak D R) (hlen : D.length + R.length ≤ 1073741824) (hD : ∀ b ∈ D, Ok b) :
    Calls Tryd.prog 8 #[.string s] w fun e w' => e = .returned (.tuple #[.string ⟨(34 :: (D ++ [34])).toArray⟩, .bool weak, .string ⟨R.toArray⟩, .bool true]) ∧ Below w.heap.size w w' := by
  have hc := cutETag_any s weak D R w hs hlen hD
  clear hs hD
  generalize (⟨(34 :: (D ++ [34])).toArray⟩ : ByteArray) = T at *
  generalize (⟨R.toArray⟩ : ByteArray) = U at *
  go_enter Tryd.func8, Tryd.ntmps8
  go_wp2_with fail
  refine hc.mono ?_
  rintro e w1 ⟨rfl, hb⟩
  go_wp2_with fail
  exact bodyPost_ret (v := .tuple #[.string T, .bool weak, .string U, .bool true]) (by simp [results, Tryd.results8, go_sem]) rfl ⟨rfl, hb⟩

end Go.Proofs.Qxb6602065aDoor
