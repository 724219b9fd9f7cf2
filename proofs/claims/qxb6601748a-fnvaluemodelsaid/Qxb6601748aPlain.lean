/-
  THE PLAIN MATHEMATICS of a header's value: no Go in sight.
-/
import Derived.Lib.Bytealg
import Derived.Lib.BufferRead
namespace Go.Proofs.Qxb6601748a.Pl

/-- The byte at p, or 0 past the end. -/
def bu (s : ByteArray) (p : Nat) : UInt8 := if h : p < s.size then s[p] else 0
theorem bu_in {s : ByteArray} {p : Nat} (h : p < s.size) : bu s p = s[p] := by
  unfold bu; rw [dif_pos h]

/-- A token's byte. -/
def tk (c : Nat) : Bool := (decide (97 ≤ c) && decide (c ≤ 122)) || (decide (65 ≤ c) && decide (c ≤ 90)) || (decide (48 ≤ c) && decide (c ≤ 57)) ||
  [33, 35, 36, 37, 38, 39, 42, 43, 45, 46, 94, 95, 96, 124, 126].contains c

/-- .. as the program asks it: printable, and none of the separators. -/
theorem tk_sep : ∀ c : Nat, 32 < c → c < 127 → tk c = !(decide (0 ≤ Lib.indexByte [34, 40, 41, 44, 47, 58, 59, 60, 61, 62, 63, 64, 91, 92, 93, 123, 125] c.toUInt8)) := by
  have key : ∀ c : Fin 127, 32 < c.1 → tk c.1 = !(decide (0 ≤ Lib.indexByte [34, 40, 41, 44, 47, 58, 59, 60, 61, 62, 63, 64, 91, 92, 93, 123, 125] c.1.toUInt8)) := by decide +kernel
  exact fun c h1 h2 => key ⟨c, h2⟩ h1
theorem tk_low (c : Nat) (h : c ≤ 32) : tk c = false := by
  have key : ∀ c : Fin 33, tk c.1 = false := by decide +kernel
  exact key ⟨c, by omega⟩
theorem tk_high (c : Nat) (h : 127 ≤ c) (h2 : c < 256) : tk c = false := by
  have key : ∀ c : Fin 256, 127 ≤ c.1 → tk c.1 = false := by decide +kernel
  exact key ⟨c, h2⟩ h

/-! ### Where a token ends -/
def te (s : ByteArray) : Nat → Nat → Nat
  | 0, p => p
  | f + 1, p => if p < s.size ∧ tk (bu s p).toNat = true then te s f (p + 1) else p
theorem te_eq (s : ByteArray) : ∀ (f g p : Nat), s.size - p ≤ f → s.size - p ≤ g → te s f p = te s g p
  | 0, 0, _, _, _ => rfl
  | 0, g + 1, p, h, _ => by unfold te; rw [if_neg (by omega)]
  | f + 1, 0, p, _, h => by unfold te; rw [if_neg (by omega)]
  | f + 1, g + 1, p, h1, h2 => by
    unfold te
    split
    · exact te_eq s f g (p + 1) (by omega) (by omega)
    · rfl
def tend (s : ByteArray) (p : Nat) : Nat := te s (s.size - p) p
theorem tend_step {s : ByteArray} {p : Nat} (h : p < s.size) (hb : tk (bu s p).toNat = true) : tend s p = tend s (p + 1) := by
  unfold tend
  obtain ⟨m, hm⟩ : ∃ m, s.size - p = m + 1 := ⟨s.size - p - 1, by omega⟩
  rw [hm]
  show (if p < s.size ∧ tk (bu s p).toNat = true then te s m (p + 1) else p) = _
  rw [if_pos ⟨h, hb⟩]
  exact te_eq s _ _ _ (by omega) (by omega)
theorem tend_stop {s : ByteArray} {p : Nat} (h : ¬ (p < s.size ∧ tk (bu s p).toNat = true)) : tend s p = p := by
  unfold tend
  cases hm : s.size - p with
  | zero => rfl
  | succ m =>
    show (if p < s.size ∧ tk (bu s p).toNat = true then te s m (p + 1) else p) = p
    rw [if_neg h]

/-! ### A quoted text from p on: its bytes, and the place behind it -/
def vF (s : ByteArray) : Nat → Nat → List UInt8 × Nat
  | 0, p => ([], p)
  | f + 1, p =>
    if p < s.size then
      if bu s p = 34 then ([], p + 1)
      else if bu s p = 92 ∧ p + 1 < s.size then (bu s (p + 1) :: (vF s f (p + 2)).1, (vF s f (p + 2)).2)
      else (bu s p :: (vF s f (p + 1)).1, (vF s f (p + 1)).2)
    else ([], p)
theorem vF_eq (s : ByteArray) : ∀ (f g p : Nat), s.size - p ≤ f → s.size - p ≤ g → vF s f p = vF s g p
  | 0, 0, _, _, _ => rfl
  | 0, g + 1, p, h, _ => by unfold vF; rw [if_neg (by omega)]
  | f + 1, 0, p, _, h => by unfold vF; rw [if_neg (by omega)]
  | f + 1, g + 1, p, h1, h2 => by
    unfold vF
    split
    · split
      · rfl
      split
      · rw [vF_eq s f g (p + 2) (by omega) (by omega)]
      · rw [vF_eq s f g (p + 1) (by omega) (by omega)]
    · rfl
def va (s : ByteArray) (p : Nat) : List UInt8 × Nat := vF s (s.size - p) p
theorem va_succ {s : ByteArray} {p : Nat} (h : p < s.size) : va s p =
    if bu s p = 34 then ([], p + 1)
    else if bu s p = 92 ∧ p + 1 < s.size then (bu s (p + 1) :: (va s (p + 2)).1, (va s (p + 2)).2)
    else (bu s p :: (va s (p + 1)).1, (va s (p + 1)).2) := by
  obtain ⟨m, hm⟩ : ∃ m, s.size - p = m + 1 := ⟨s.size - p - 1, by omega⟩
  unfold va
  rw [hm]
  show (if p < s.size then _ else _) = _
  rw [if_pos h, vF_eq s m (s.size - (p + 1)) (p + 1) (by omega) (by omega), vF_eq s m (s.size - (p + 2)) (p + 2) (by omega) (by omega)]
theorem va_end {s : ByteArray} {p : Nat} (h : s.size ≤ p) : va s p = ([], p) := by
  unfold va
  rw [show s.size - p = 0 by omega]
  rfl
theorem va_quote {s : ByteArray} {p : Nat} (h : p < s.size) (hq : bu s p = 34) : va s p = ([], p + 1) := by
  rw [va_succ h, if_pos hq]
theorem va_esc {s : ByteArray} {p : Nat} (h : p + 1 < s.size) (hq : bu s p = 92) : va s p = (bu s (p + 1) :: (va s (p + 2)).1, (va s (p + 2)).2) := by
  rw [va_succ (by omega), if_neg (by rw [hq]; decide), if_pos ⟨hq, h⟩]
theorem va_lit {s : ByteArray} {p : Nat} (h : p < s.size) (hq : bu s p ≠ 34) (hb : ¬ (bu s p = 92 ∧ p + 1 < s.size)) : va s p = (bu s p :: (va s (p + 1)).1, (va s (p + 1)).2) := by
  rw [va_succ h, if_neg hq, if_neg hb]

/-- 2 m backslashes are m of them. -/
theorem va_run {s : ByteArray} : ∀ (m p : Nat), p + 2 * m ≤ s.size → (∀ j, p ≤ j → j < p + 2 * m → bu s j = 92) → va s p = (List.replicate m 92 ++ (va s (p + 2 * m)).1, (va s (p + 2 * m)).2)
  | 0, p, _, _ => by simp
  | m + 1, p, h, hall => by
    rw [va_esc (by omega) (hall p (by omega) (by omega)), va_run m (p + 2) (by omega) (fun j h1 h2 => hall j (by omega) (by omega)), hall (p + 1) (by omega) (by omega),
      show p + 2 + 2 * m = p + 2 * (m + 1) by omega]
    simp [List.replicate_succ]

/-- The text so far and what is still to come. -/
structure Acc (s : ByteArray) (p0 : Nat) (acc : List UInt8) (p : Nat) : Prop where
  txt : acc ++ (va s p).1 = (va s p0).1
  fin : (va s p).2 = (va s p0).2

theorem Acc.start (s : ByteArray) (p : Nat) : Acc s p [] p := ⟨rfl, rfl⟩
theorem Acc.esc {s : ByteArray} {p0 : Nat} {acc : List UInt8} {p : Nat} (h : Acc s p0 acc p) (hp : p + 1 < s.size) (hq : bu s p = 92) : Acc s p0 (acc ++ [bu s (p + 1)]) (p + 2) := by
  have e := va_esc hp hq
  exact ⟨by rw [← h.txt, e]; simp, by rw [← h.fin, e]⟩
theorem Acc.lit {s : ByteArray} {p0 : Nat} {acc : List UInt8} {p : Nat} (h : Acc s p0 acc p) (hp : p < s.size) (hq : bu s p ≠ 34) (hb : ¬ (bu s p = 92 ∧ p + 1 < s.size)) : Acc s p0 (acc ++ [bu s p]) (p + 1) := by
  have e := va_lit hp hq hb
  exact ⟨by rw [← h.txt, e]; simp, by rw [← h.fin, e]⟩
theorem Acc.run {s : ByteArray} {p0 : Nat} {acc : List UInt8} {p : Nat} (h : Acc s p0 acc p) (m : Nat) (hp : p + 2 * m ≤ s.size) (hall : ∀ j, p ≤ j → j < p + 2 * m → bu s j = 92) : Acc s p0 (acc ++ List.replicate m 92) (p + 2 * m) := by
  have e := va_run m p hp hall
  exact ⟨by rw [← h.txt, e]; simp, by rw [← h.fin, e]⟩
theorem Acc.quote {s : ByteArray} {p0 : Nat} {acc : List UInt8} {p : Nat} (h : Acc s p0 acc p) (hp : p < s.size) (hq : bu s p = 34) : acc = (va s p0).1 ∧ p + 1 = (va s p0).2 := by
  have e := va_quote hp hq
  exact ⟨by rw [← h.txt, e]; simp, by rw [← h.fin, e]⟩
theorem Acc.done {s : ByteArray} {p0 : Nat} {acc : List UInt8} {p : Nat} (h : Acc s p0 acc p) (hp : s.size ≤ p) : acc = (va s p0).1 ∧ p = (va s p0).2 := by
  have e := va_end hp
  exact ⟨by rw [← h.txt, e]; simp, by rw [← h.fin, e]⟩

/-- The value at p: its text, the place behind it. -/
def value (s : ByteArray) (p : Nat) : ByteArray × Nat :=
  if p < s.size ∧ bu s p = 34 then (⟨(va s (p + 1)).1.toArray⟩, (va s (p + 1)).2) else (s.extract p (tend s p), tend s p)

theorem byteCells_snoc (l : List UInt8) (x : UInt8) : Lib.byteCells (l ++ [x]) = Lib.byteCells l ++ [.int .u8 (x.toNat : Int)] := by simp [Lib.byteCells]

end Go.Proofs.Qxb6601748a.Pl
