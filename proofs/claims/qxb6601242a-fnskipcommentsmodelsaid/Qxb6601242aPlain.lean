/-
  THE PLAIN MATHEMATICS of the scanner: no Go in sight. Bytes, line breaks, widths, one unit's step, and the walks over them.
-/
namespace Go.Proofs.Qxb6601242a.Pl

/-- The byte at p, or 0 past the end. -/
def bat (s : ByteArray) (p : Nat) : Nat := if h : p < s.size then s[p].toNat else 0

theorem bat_lt (s : ByteArray) (p : Nat) : bat s p < 256 := by
  unfold bat; split
  · exact UInt8.toNat_lt _
  · omega

theorem bat_in {s : ByteArray} {p : Nat} (h : p < s.size) : bat s p = s[p].toNat := by
  unfold bat; rw [dif_pos h]

theorem bat_out {s : ByteArray} {p : Nat} (h : s.size ≤ p) : bat s p = 0 := by
  unfold bat; rw [dif_neg (by omega)]

/-- How many bytes the line break at p takes, or 0. -/
def brk (s : ByteArray) (p : Nat) : Nat :=
  if bat s p = 10 then 1
  else if bat s p = 13 then (if bat s (p + 1) = 10 then 2 else 1)
  else if bat s p = 194 then (if bat s (p + 1) = 133 then 2 else 0)
  else if bat s p = 226 then (if bat s (p + 1) = 128 then (if bat s (p + 2) = 168 then 3 else if bat s (p + 2) = 169 then 3 else 0) else 0)
  else 0

theorem brk_le (s : ByteArray) (p : Nat) : brk s p ≤ 3 := by
  unfold brk; repeat' split
  all_goals omega

theorem brk_out {s : ByteArray} {p : Nat} (h : s.size ≤ p) : brk s p = 0 := by
  unfold brk; rw [bat_out h]; rfl

/-- A character's width off its first byte. -/
def cw (c : Nat) : Nat := if c < 128 then 1 else if 240 ≤ c then 4 else if 224 ≤ c then 3 else 2

theorem cw_pos (c : Nat) : 1 ≤ cw c ∧ cw c ≤ 4 := by
  unfold cw; repeat' split
  all_goals omega

/-- What 'broke' is behind the character c. -/
def kp (c : Nat) (k : Bool) : Bool := if c = 32 then k else if c = 9 then k else false

end Go.Proofs.Qxb6601242a.Pl
