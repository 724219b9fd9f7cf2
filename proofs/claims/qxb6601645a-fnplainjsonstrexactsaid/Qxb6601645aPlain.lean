/-
  THE PLAIN MATHEMATICS of plainjson's Str: no Go in sight.
-/
import Derived.Lib.Bytealg
import Derived.Lib.IndexBytes
namespace Go.Proofs.Qxb6601645a.Pl

/-- The byte at p, or 0 past the end. -/
def bat (s : ByteArray) (p : Nat) : Nat := if h : p < s.size then s[p].toNat else 0
theorem bat_lt (s : ByteArray) (p : Nat) : bat s p < 256 := by
  unfold bat; split
  · exact UInt8.toNat_lt _
  · omega
theorem bat_in {s : ByteArray} {p : Nat} (h : p < s.size) : bat s p = s[p].toNat := by
  unfold bat; rw [dif_pos h]
theorem bat_out {s : ByteArray} {p : Nat} (h : s.size ≤ p) : bat s p = 0 := by
  unfold bat; rw [dif_neg (by omega)]

/-- The byte at p, by the list. -/
theorem bat_list (s : ByteArray) (p : Nat) : bat s p = ((s.data.toList[p]?).getD 0).toNat := by
  by_cases h : p < s.size
  · rw [bat_in h, Lib.data_getElem? s p h]; rfl
  · rw [bat_out (by omega), List.getElem?_eq_none (by rw [← Lib.size_eq]; omega)]; rfl

def sp (c : Nat) : Bool := c == 32 || c == 9 || c == 10 || c == 13
def plain (c : Nat) : Bool := decide (32 ≤ c) && decide (c ≤ 126) && !(c == 92)

/-! ### A run: go on while there is a next place; a measure falls -/
def runF {α : Type} (nx : α → Option α) : Nat → α → α
  | 0, a => a
  | f + 1, a => match nx a with
    | none => a
    | some b => runF nx f b

theorem runF_eq {α : Type} (nx : α → Option α) (μ : α → Nat) (hμ : ∀ a b, nx a = some b → μ b < μ a) : ∀ (f g : Nat) (a : α), μ a ≤ f → μ a ≤ g → runF nx f a = runF nx g a
  | 0, 0, _, _, _ => rfl
  | 0, g + 1, a, h, _ => by
    unfold runF
    cases hn : nx a with
    | none => rfl
    | some b => have := hμ a b hn; omega
  | f + 1, 0, a, _, h => by
    unfold runF
    cases hn : nx a with
    | none => rfl
    | some b => have := hμ a b hn; omega
  | f + 1, g + 1, a, h1, h2 => by
    unfold runF
    cases hn : nx a with
    | none => rfl
    | some b =>
      have := hμ a b hn
      exact runF_eq nx μ hμ f g b (by omega) (by omega)

theorem runF_step {α : Type} (nx : α → Option α) (μ : α → Nat) (hμ : ∀ a b, nx a = some b → μ b < μ a) {a b : α} (h : nx a = some b) : runF nx (μ a) a = runF nx (μ b) b := by
  have hlt := hμ a b h
  obtain ⟨m, hm⟩ : ∃ m, μ a = m + 1 := ⟨μ a - 1, by omega⟩
  rw [hm]
  show (match nx a with | none => a | some b => runF nx m b) = _
  rw [h]
  exact runF_eq nx μ hμ m (μ b) b (by omega) (Nat.le_refl _)

theorem runF_stop {α : Type} (nx : α → Option α) (f : Nat) {a : α} (h : nx a = none) : runF nx f a = a := by
  cases f with
  | zero => rfl
  | succ m =>
    show (match nx a with | none => a | some b => runF nx m b) = _
    rw [h]

theorem runF_keep {α : Type} (nx : α → Option α) (I : α → Prop) (hI : ∀ a b, nx a = some b → I a → I b) : ∀ (f : Nat) (a : α), I a → I (runF nx f a)
  | 0, _, h => h
  | f + 1, a, h => by
    unfold runF
    cases hn : nx a with
    | none => exact h
    | some b => exact runF_keep nx I hI f b (hI a b hn h)

/-! ### The next place whose byte is none of 'g' -/
def wN (g : Nat → Bool) (s : ByteArray) (p : Nat) : Option Nat := if p < s.size ∧ g (bat s p) = true then some (p + 1) else none
def wl (g : Nat → Bool) (s : ByteArray) (p : Nat) : Nat := runF (wN g s) (s.size - p) p
theorem wN_lt (g : Nat → Bool) (s : ByteArray) (a b : Nat) (h : wN g s a = some b) : s.size - b < s.size - a := by
  unfold wN at h
  split at h
  · injection h with h; omega
  · cases h
theorem wl_step {g : Nat → Bool} {s : ByteArray} {p : Nat} (h : p < s.size) (hb : g (bat s p) = true) : wl g s p = wl g s (p + 1) :=
  runF_step (wN g s) (fun p => s.size - p) (wN_lt g s) (by unfold wN; rw [if_pos ⟨h, hb⟩])
theorem wl_stop {g : Nat → Bool} {s : ByteArray} {p : Nat} (h : ¬ (p < s.size ∧ g (bat s p) = true)) : wl g s p = p :=
  runF_stop (wN g s) _ (by unfold wN; rw [if_neg h])
theorem wl_run {g : Nat → Bool} {s : ByteArray} {a : Nat} : ∀ (n : Nat), (∀ j, a ≤ j → j < a + n → j < s.size ∧ g (bat s j) = true) → wl g s a = wl g s (a + n)
  | 0, _ => rfl
  | n + 1, h => by
    rw [wl_run n (fun j h1 h2 => h j h1 (by omega))]
    have := h (a + n) (by omega) (by omega)
    rw [wl_step this.1 this.2]
    rfl
theorem wl_bd {g : Nat → Bool} {s : ByteArray} {p : Nat} (hp : p ≤ s.size) : p ≤ wl g s p ∧ wl g s p ≤ s.size :=
  runF_keep (wN g s) (fun q => p ≤ q ∧ q ≤ s.size) (fun a b h ha => by
    unfold wN at h
    split at h
    · injection h with h; omega
    · cases h) _ _ ⟨Nat.le_refl _, hp⟩

/-- Behind the spaces. -/
def ss (s : ByteArray) (p : Nat) : Nat := wl sp s p
/-- The first quote, or the end. -/
def qs (s : ByteArray) (p : Nat) : Nat := wl (fun c => !(c == 34)) s p

/-- n bytes from a on are plain. -/
def ap (s : ByteArray) (a n : Nat) : Bool := (List.range n).all fun j => plain (bat s (a + j))
theorem ap_iff (s : ByteArray) (a n : Nat) : ap s a n = true ↔ ∀ j, j < n → plain (bat s (a + j)) = true := by simp [ap]

structure Res where
  v : ByteArray
  p : Nat
  o : Bool

/-- What Str reads at p: the text, the place and OK behind it. -/
def res (s : ByteArray) (p : Nat) (ok : Bool) : Res :=
  if ok = true ∧ ss s p < s.size ∧ bat s (ss s p) = 34 then
    if qs s (ss s p + 1) < s.size ∧ ap s (ss s p + 1) (qs s (ss s p + 1) - (ss s p + 1)) = true then
      ⟨s.extract (ss s p + 1) (qs s (ss s p + 1)), qs s (ss s p + 1) + 1, true⟩
    else ⟨⟨#[]⟩, ss s p + 1, false⟩
  else ⟨⟨#[]⟩, ss s p, false⟩

theorem res_no {s : ByteArray} {p : Nat} {ok : Bool} (h : ¬ (ok = true ∧ ss s p < s.size ∧ bat s (ss s p) = 34)) : res s p ok = ⟨⟨#[]⟩, ss s p, false⟩ := by
  unfold res; rw [if_neg h]
theorem res_bad {s : ByteArray} {p j : Nat} (hj : ss s p = j) (h1 : j < s.size) (h2 : bat s j = 34) (h : ¬ (qs s (j + 1) < s.size ∧ ap s (j + 1) (qs s (j + 1) - (j + 1)) = true)) : res s p true = ⟨⟨#[]⟩, j + 1, false⟩ := by
  subst hj; unfold res; rw [if_pos ⟨rfl, h1, h2⟩, if_neg h]
theorem res_ok {s : ByteArray} {p j k : Nat} (hj : ss s p = j) (h1 : j < s.size) (h2 : bat s j = 34) (hk : qs s (j + 1) = k) (h3 : k < s.size) (h4 : ap s (j + 1) (k - (j + 1)) = true) : res s p true = ⟨s.extract (j + 1) k, k + 1, true⟩ := by
  subst hj; subst hk; unfold res; rw [if_pos ⟨rfl, h1, h2⟩, if_pos ⟨h3, h4⟩]

/-! ### The first place of a byte -/
theorem index_spec (c : UInt8) : ∀ l : List UInt8, (Lib.indexByte l c = -1 ∧ ∀ j, j < l.length → (l[j]?).getD 0 ≠ c) ∨
    (∃ k : Nat, Lib.indexByte l c = (k : Int) ∧ k < l.length ∧ (l[k]?).getD 0 = c ∧ ∀ j, j < k → (l[j]?).getD 0 ≠ c)
  | [] => Or.inl ⟨rfl, fun j h => by simp at h⟩
  | b :: l => by
    by_cases hb : b = c
    · refine Or.inr ⟨0, by unfold Lib.indexByte; simp [hb], by simp, by simpa using hb, fun j h => by omega⟩
    · have hbf : (b == c) = false := by simpa using hb
      rcases index_spec c l with ⟨h1, h2⟩ | ⟨k, h1, h2, h3, h4⟩
      · refine Or.inl ⟨by unfold Lib.indexByte; rw [hbf, h1]; rfl, fun j h => ?_⟩
        cases j with
        | zero => simpa using hb
        | succ j => simpa using h2 j (by simpa using h)
      · refine Or.inr ⟨k + 1, ?_, by simpa using h2, by simpa using h3, fun j h => ?_⟩
        · unfold Lib.indexByte
          rw [hbf, h1]
          have : ((k : Int) == -1) = false := beq_eq_false_iff_ne.2 (by omega)
          rw [this]
          simp
        · cases j with
          | zero => simpa using hb
          | succ j => simpa using h4 j (by omega)

/-- The search for a quote in what is left of s. -/
theorem index_qs (s : ByteArray) (a : Nat) (ha : a ≤ s.size) :
    (Lib.indexByte (s.extract a s.size).data.toList 34 = -1 ∧ qs s a = s.size) ∨
    (∃ k : Nat, Lib.indexByte (s.extract a s.size).data.toList 34 = (k : Int) ∧ qs s a = a + k ∧ a + k < s.size) := by
  have hl : (s.extract a s.size).data.toList = s.data.toList.drop a := Lib.extract_to_end s a
  have hlen : (s.data.toList.drop a).length = s.size - a := by rw [List.length_drop, ← Lib.size_eq]
  have hb : ∀ j, (((s.data.toList.drop a)[j]?).getD 0).toNat = bat s (a + j) := fun j => by rw [bat_list, List.getElem?_drop]
  rw [hl]
  rcases index_spec 34 (s.data.toList.drop a) with ⟨h1, h2⟩ | ⟨k, h1, h2, h3, h4⟩
  · refine Or.inl ⟨h1, ?_⟩
    unfold qs
    rw [wl_run (s.size - a) (fun j g1 g2 => ⟨by omega, ?_⟩), show a + (s.size - a) = s.size by omega, wl_stop (by omega)]
    have := h2 (j - a) (by omega)
    have hn : bat s (a + (j - a)) ≠ 34 := fun e => this (UInt8.toNat_inj.1 (by rw [hb, e]; rfl))
    rw [show a + (j - a) = j by omega] at hn
    simpa using hn
  · refine Or.inr ⟨k, h1, ?_, by omega⟩
    unfold qs
    rw [wl_run k (fun j g1 g2 => ⟨by omega, ?_⟩), wl_stop]
    · intro h
      have h5 : bat s (a + k) = 34 := by rw [← hb, h3]; rfl
      have h6 := h.2
      rw [h5] at h6
      simp at h6
    · have := h4 (j - a) (by omega)
      have hn : bat s (a + (j - a)) ≠ 34 := fun e => this (UInt8.toNat_inj.1 (by rw [hb, e]; rfl))
      rw [show a + (j - a) = j by omega] at hn
      simpa using hn

/-- A piece's bytes. -/
theorem bat_piece (s : ByteArray) (a b j : Nat) (hj : a + j < b) : bat (s.extract a b) j = bat s (a + j) := by
  rw [bat_list, bat_list, Lib.extract_data, List.getElem?_take, if_pos (by omega), List.getElem?_drop]

end Go.Proofs.Qxb6601645a.Pl
