/-
  THE PLAIN MATHEMATICS, MORE: one unit's step and paths of steps; where a line ends, a gap ends, a run of comments ends, where the next token begins. No Go in sight.
-/
import Derived.Test.Qxb6601242aPlain
namespace Go.Proofs.Qxb6601242a.Pl

/-- Place, line, column, 'broke'. -/
structure St where
  p : Nat
  l : Int
  c : Int
  k : Bool

/-- One unit is passed: a line break, or a character. -/
def step (s : ByteArray) (t : St) : St :=
  if brk s t.p = 0 then ⟨t.p + cw (bat s t.p), t.l, t.c + 1, kp (bat s t.p) t.k⟩ else ⟨t.p + brk s t.p, t.l + 1, 0, true⟩

theorem step_char {s : ByteArray} {t : St} (h : brk s t.p = 0) : step s t = ⟨t.p + cw (bat s t.p), t.l, t.c + 1, kp (bat s t.p) t.k⟩ := by
  unfold step; rw [if_pos h]
theorem step_brk {s : ByteArray} {t : St} (h : brk s t.p ≠ 0) : step s t = ⟨t.p + brk s t.p, t.l + 1, 0, true⟩ := by
  unfold step; rw [if_neg h]

theorem step_lt (s : ByteArray) (t : St) : t.p < (step s t).p ∧ (step s t).p ≤ t.p + 4 := by
  have h1 := cw_pos (bat s t.p)
  have h2 := brk_le s t.p
  by_cases h : brk s t.p = 0
  · rw [step_char h]; show t.p < t.p + _ ∧ t.p + _ ≤ _; omega
  · rw [step_brk h]; show t.p < t.p + _ ∧ t.p + _ ≤ _; omega

/-- n units, each begun inside the text. -/
def Path (s : ByteArray) : Nat → St → St → Prop
  | 0, t, u => t = u
  | n + 1, t, u => t.p < s.size ∧ Path s n (step s t) u

theorem Path.snoc {s : ByteArray} : ∀ {n : Nat} {t u : St}, Path s n t u → u.p < s.size → Path s (n + 1) t (step s u)
  | 0, _, _, h, hu => by cases h; exact ⟨hu, rfl⟩
  | _ + 1, _, _, h, hu => ⟨h.1, Path.snoc h.2 hu⟩

theorem Path.trans {s : ByteArray} : ∀ {n m : Nat} {t u v : St}, Path s n t u → Path s m u v → Path s (n + m) t v
  | 0, m, _, _, _, h, g => by cases h; rw [Nat.zero_add]; exact g
  | n + 1, m, _, _, _, h, g => by rw [Nat.add_right_comm]; exact ⟨h.1, Path.trans h.2 g⟩

theorem Path.le {s : ByteArray} : ∀ {n : Nat} {t u : St}, Path s n t u → t.p + n ≤ u.p
  | 0, _, _, h => by cases h; exact Nat.le_refl _
  | n + 1, t, _, h => by
    have h1 := Path.le h.2
    have h2 := (step_lt s t).1
    omega

/-- Numbers stay small. -/
structure Bd (s : ByteArray) (t : St) : Prop where
  p1 : t.p ≤ s.size + 4
  l0 : 0 ≤ t.l
  l1 : t.l ≤ 1073741824 + t.p
  c0 : 0 ≤ t.c
  c1 : t.c ≤ 1073741824 + t.p

theorem Bd.step {s : ByteArray} {t : St} (h : Bd s t) (hp : t.p < s.size) : Bd s (step s t) := by
  obtain ⟨p1, l0, l1, c0, c1⟩ := h
  have h1 := cw_pos (bat s t.p)
  have h2 := brk_le s t.p
  by_cases h : brk s t.p = 0
  · rw [step_char h]; exact ⟨by show t.p + _ ≤ _; omega, l0, by show t.l ≤ _ + ((t.p + _ : Nat) : Int); omega, by show 0 ≤ t.c + 1; omega, by show t.c + 1 ≤ _ + ((t.p + _ : Nat) : Int); omega⟩
  · rw [step_brk h]; exact ⟨by show t.p + _ ≤ _; omega, by show 0 ≤ t.l + 1; omega, by show t.l + 1 ≤ _ + ((t.p + _ : Nat) : Int); omega, Int.le_refl _, by show (0 : Int) ≤ _ + ((t.p + _ : Nat) : Int); omega⟩

/-- u is reached from t. -/
structure R (s : ByteArray) (t u : St) : Prop where
  path : ∃ n, Path s n t u
  bd : Bd s u

theorem R.refl {s : ByteArray} {t : St} (h : Bd s t) : R s t t := ⟨⟨0, rfl⟩, h⟩
theorem R.step {s : ByteArray} {t u : St} (h : R s t u) (hp : u.p < s.size) : R s t (step s u) :=
  ⟨by obtain ⟨n, hn⟩ := h.path; exact ⟨n + 1, hn.snoc hp⟩, h.bd.step hp⟩
theorem R.trans {s : ByteArray} {t u v : St} (h : R s t u) (g : R s u v) : R s t v :=
  ⟨by obtain ⟨n, hn⟩ := h.path; obtain ⟨m, hm⟩ := g.path; exact ⟨n + m, hn.trans hm⟩, g.bd⟩
theorem R.le {s : ByteArray} {t u : St} (h : R s t u) : t.p ≤ u.p := by
  obtain ⟨n, hn⟩ := h.path
  have := hn.le
  omega

/-! ### A run: go on while there is a next place; a measure falls -/
def runF {α : Type} (nx : α → Option α) : Nat → α → α
  | 0, a => a
  | f + 1, a => match nx a with
    | none => a
    | some b => runF nx f b

theorem runF_eq {α : Type} (nx : α → Option α) (μ : α → Nat) (hμ : ∀ a b, nx a = some b → μ b < μ a) : ∀ (f g : Nat) (a : α), μ a ≤ f → μ a ≤ g → runF nx f a = runF nx g a
  | 0, 0, _, _, _ => rfl
  | 0, g + 1, a, h, _ => by
    unfold runF
    cases hn : nx a with
    | none => rfl
    | some b => have := hμ a b hn; omega
  | f + 1, 0, a, _, h => by
    unfold runF
    cases hn : nx a with
    | none => rfl
    | some b => have := hμ a b hn; omega
  | f + 1, g + 1, a, h1, h2 => by
    unfold runF
    cases hn : nx a with
    | none => rfl
    | some b =>
      have := hμ a b hn
      exact runF_eq nx μ hμ f g b (by omega) (by omega)

theorem runF_step {α : Type} (nx : α → Option α) (μ : α → Nat) (hμ : ∀ a b, nx a = some b → μ b < μ a) {a b : α} (h : nx a = some b) : runF nx (μ a) a = runF nx (μ b) b := by
  have hlt := hμ a b h
  obtain ⟨m, hm⟩ : ∃ m, μ a = m + 1 := ⟨μ a - 1, by omega⟩
  rw [hm]
  show (match nx a with | none => a | some b => runF nx m b) = _
  rw [h]
  exact runF_eq nx μ hμ m (μ b) b (by omega) (Nat.le_refl _)

theorem runF_stop {α : Type} (nx : α → Option α) (f : Nat) {a : α} (h : nx a = none) : runF nx f a = a := by
  cases f with
  | zero => rfl
  | succ m =>
    show (match nx a with | none => a | some b => runF nx m b) = _
    rw [h]

/-! ### Where a line ends -/
def leN (s : ByteArray) (p : Nat) : Option Nat := if p < s.size ∧ brk s p = 0 then some (p + cw (bat s p)) else none
def le (s : ByteArray) (p : Nat) : Nat := runF (leN s) (s.size - p) p

theorem leN_lt (s : ByteArray) (a b : Nat) (h : leN s a = some b) : s.size - b < s.size - a := by
  unfold leN at h
  have hc := (cw_pos (bat s a)).1
  split at h
  · injection h with h; omega
  · cases h

theorem le_step {s : ByteArray} {p : Nat} (h : p < s.size) (hb : brk s p = 0) : le s p = le s (p + cw (bat s p)) :=
  runF_step (leN s) (fun p => s.size - p) (leN_lt s) (by unfold leN; rw [if_pos ⟨h, hb⟩])
theorem le_stop {s : ByteArray} {p : Nat} (h : ¬ (p < s.size ∧ brk s p = 0)) : le s p = p :=
  runF_stop (leN s) _ (by unfold leN; rw [if_neg h])

/-- Whatever a run keeps, it keeps to its end; and at the end there is no next place. -/
theorem runF_end {α : Type} (nx : α → Option α) (μ : α → Nat) (hμ : ∀ a b, nx a = some b → μ b < μ a) : ∀ (f : Nat) (a : α), μ a ≤ f → nx (runF nx f a) = none
  | 0, a, h => by
    unfold runF
    cases hn : nx a with
    | none => rfl
    | some b => have := hμ a b hn; omega
  | f + 1, a, h => by
    unfold runF
    cases hn : nx a with
    | none => exact hn
    | some b => have := hμ a b hn; exact runF_end nx μ hμ f b (by omega)

theorem runF_keep {α : Type} (nx : α → Option α) (I : α → Prop) (hI : ∀ a b, nx a = some b → I a → I b) : ∀ (f : Nat) (a : α), I a → I (runF nx f a)
  | 0, _, h => h
  | f + 1, a, h => by
    unfold runF
    cases hn : nx a with
    | none => exact h
    | some b => exact runF_keep nx I hI f b (hI a b hn h)

theorem le_ge (s : ByteArray) (p : Nat) : p ≤ le s p :=
  runF_keep (leN s) (fun q => p ≤ q) (fun a b h ha => by unfold leN at h; split at h; · injection h with h; omega
                                                         · cases h) _ _ (Nat.le_refl _)
theorem le_end (s : ByteArray) (p : Nat) : ¬ (le s p < s.size ∧ brk s (le s p) = 0) := by
  intro h
  have := runF_end (leN s) (fun p => s.size - p) (leN_lt s) (s.size - p) p (Nat.le_refl _)
  change leN s (le s p) = none at this
  unfold leN at this
  rw [if_pos h] at this
  cases this

/-! ### Where a gap ends -/
def gap (c : Nat) : Bool := c == 32 || c == 9 || c == 13 || c == 10
theorem gap_iff (c : Nat) : gap c = true ↔ c = 32 ∨ c = 9 ∨ c = 13 ∨ c = 10 := by simp [gap, or_assoc]

def geN (s : ByteArray) (p : Nat) : Option Nat := if p < s.size ∧ gap (bat s p) = true then some (p + 1) else none
def ge (s : ByteArray) (p : Nat) : Nat := runF (geN s) (s.size - p) p

theorem geN_lt (s : ByteArray) (a b : Nat) (h : geN s a = some b) : s.size - b < s.size - a := by
  unfold geN at h
  split at h
  · injection h with h; omega
  · cases h
theorem ge_step {s : ByteArray} {p : Nat} (h : p < s.size) (hb : gap (bat s p) = true) : ge s p = ge s (p + 1) :=
  runF_step (geN s) (fun p => s.size - p) (geN_lt s) (by unfold geN; rw [if_pos ⟨h, hb⟩])
theorem ge_stop {s : ByteArray} {p : Nat} (h : ¬ (p < s.size ∧ gap (bat s p) = true)) : ge s p = p :=
  runF_stop (geN s) _ (by unfold geN; rw [if_neg h])
theorem ge_ge (s : ByteArray) (p : Nat) : p ≤ ge s p :=
  runF_keep (geN s) (fun q => p ≤ q) (fun a b h ha => by unfold geN at h; split at h; · injection h with h; omega
                                                         · cases h) _ _ (Nat.le_refl _)

/-! ### Where a run of comments ends -/
/-- Another comment follows. -/
def more (s : ByteArray) (p : Nat) : Bool := decide (le s p < s.size ∧ ge s (le s p + 1) < s.size ∧ bat s (ge s (le s p + 1)) = 35 ∧ ge s (le s p + 1) < le s p + 512)
theorem more_iff (s : ByteArray) (p : Nat) : more s p = true ↔ (le s p < s.size ∧ ge s (le s p + 1) < s.size ∧ bat s (ge s (le s p + 1)) = 35 ∧ ge s (le s p + 1) < le s p + 512) := by simp [more]
def crN (s : ByteArray) (p : Nat) : Option Nat := if more s p = true then some (ge s (le s p + 1)) else none
def cre (s : ByteArray) (p : Nat) : Nat := le s (runF (crN s) (s.size - p) p)

theorem crN_lt (s : ByteArray) (a b : Nat) (h : crN s a = some b) : s.size - b < s.size - a := by
  unfold crN at h
  have h1 := le_ge s a
  have h2 := ge_ge s (le s a + 1)
  split at h
  · rename_i hm
    have := (more_iff s a).1 hm
    injection h with h; omega
  · cases h
theorem cre_step {s : ByteArray} {p : Nat} (h : more s p = true) : cre s p = cre s (ge s (le s p + 1)) := by
  unfold cre
  rw [runF_step (crN s) (fun p => s.size - p) (crN_lt s) (by unfold crN; rw [if_pos h])]
theorem cre_stop {s : ByteArray} {p : Nat} (h : more s p = false) : cre s p = le s p := by
  unfold cre
  rw [runF_stop (crN s) _ (by unfold crN; rw [if_neg (by rw [h]; decide)])]
theorem cre_end (s : ByteArray) (p : Nat) : ¬ (cre s p < s.size ∧ brk s (cre s p) = 0) := le_end s _
theorem cre_ge (s : ByteArray) (p : Nat) : le s p ≤ cre s p := by
  cases h : more s p with
  | false => rw [cre_stop h]; exact Nat.le_refl _
  | true =>
    rw [cre_step h]
    have hg := ge_ge s (le s p + 1)
    have hk := runF_keep (crN s) (fun q => ge s (le s p + 1) ≤ q) (fun a b h ha => by
      unfold crN at h
      have h1 := le_ge s a
      have h2 := ge_ge s (le s a + 1)
      split at h
      · injection h with h; omega
      · cases h) (s.size - ge s (le s p + 1)) (ge s (le s p + 1)) (Nat.le_refl _)
    have hl := le_ge s (runF (crN s) (s.size - ge s (le s p + 1)) (ge s (le s p + 1)))
    unfold cre
    omega

theorem brk_of {s : ByteArray} {p : Nat} (h0 : bat s p ≠ 10) (h1 : bat s p ≠ 13) (h2 : bat s p ≠ 194) (h3 : bat s p ≠ 226) : brk s p = 0 := by
  unfold brk; rw [if_neg h0, if_neg h1, if_neg h2, if_neg h3]

theorem cre_gt {s : ByteArray} {p : Nat} (hp : p < s.size) (h : bat s p = 35) : p < cre s p := by
  have h1 := cre_ge s p
  have h2 := le_step hp (brk_of (by omega) (by omega) (by omega) (by omega))
  have h3 := le_ge s (p + cw (bat s p))
  have h4 := (cw_pos (bat s p)).1
  omega

/-- All gap up to g: the gap's end from e + 1 on is the gap's end from g on. -/
theorem ge_run {s : ByteArray} {a : Nat} : ∀ (n : Nat), (∀ j, a ≤ j → j < a + n → j < s.size ∧ gap (bat s j) = true) → ge s a = ge s (a + n)
  | 0, _ => rfl
  | n + 1, h => by
    rw [ge_run n (fun j h1 h2 => h j h1 (by omega))]
    have := h (a + n) (by omega) (by omega)
    rw [ge_step this.1 this.2]
    rfl

/-- What the search behind a comment has seen: all gap from e + 1 up to g. -/
structure Seen (s : ByteArray) (e g : Nat) : Prop where
  lo : e + 1 ≤ g
  hi : g ≤ e + 512
  top : g ≤ s.size
  all : ∀ j, e + 1 ≤ j → j < g → gap (bat s j) = true

theorem Seen.start {s : ByteArray} {e : Nat} (h : e < s.size) : Seen s e (e + 1) := ⟨Nat.le_refl _, by omega, h, fun j h1 h2 => by omega⟩
theorem Seen.next {s : ByteArray} {e g : Nat} (h : Seen s e g) (h1 : g < s.size) (h2 : g < e + 512) (h3 : gap (bat s g) = true) : Seen s e (g + 1) :=
  ⟨by have := h.lo; omega, by omega, h1, fun j a b => by
    by_cases hj : j = g
    · rw [hj]; exact h3
    · exact h.all j a (by omega)⟩
theorem Seen.ge {s : ByteArray} {e g : Nat} (h : Seen s e g) : ge s (e + 1) = ge s g := by
  have := h.lo
  have ht := h.top
  obtain ⟨n, rfl⟩ : ∃ n, g = e + 1 + n := ⟨g - (e + 1), by omega⟩
  exact ge_run n (fun j h1 h2 => ⟨by omega, h.all j h1 h2⟩)

theorem more_far {s : ByteArray} {p g : Nat} (h : Seen s (le s p) g) (hg : le s p + 512 ≤ g) : more s p = false := by
  rw [← Bool.not_eq_true, more_iff, h.ge]
  have := ge_ge s g
  omega
theorem more_out {s : ByteArray} {p g : Nat} (h : Seen s (le s p) g) (hg : s.size ≤ g) : more s p = false := by
  rw [← Bool.not_eq_true, more_iff, h.ge]
  have := ge_ge s g
  omega
theorem more_no {s : ByteArray} {p g : Nat} (h : Seen s (le s p) g) (hg : gap (bat s g) = false) (hb : bat s g ≠ 35) : more s p = false := by
  rw [← Bool.not_eq_true, more_iff, h.ge, ge_stop (by rw [hg]; simp)]
  omega
theorem more_end {s : ByteArray} {p : Nat} (h : s.size ≤ le s p) : more s p = false := by
  rw [← Bool.not_eq_true, more_iff]
  omega
theorem more_yes {s : ByteArray} {p g : Nat} (h : Seen s (le s p) g) (hg : g < le s p + 512) (hb : bat s g = 35) (hs : g < s.size) : more s p = true ∧ cre s p = cre s g := by
  have e : ge s (le s p + 1) = g := by rw [h.ge, ge_stop (by simp [gap, hb])]
  have hm : more s p = true := by
    rw [more_iff, e]
    have := h.lo
    exact ⟨by omega, hs, hb, hg⟩
  exact ⟨hm, by rw [cre_step hm, e]⟩

/-- Over a gap that a comment follows the steps come to that comment's own place. -/
theorem step_gap {s : ByteArray} {e g : Nat} (h : Seen s e g) (he : brk s e ≠ 0) (hb : bat s g = 35) {x : St} (h1 : e ≤ x.p) (h2 : x.p < g) : (step s x).p ≤ g := by
  by_cases hk : brk s x.p = 0
  · have hx : x.p ≠ e := fun h => he (by rw [← h]; exact hk)
    have hg := h.all x.p (by omega) h2
    rw [gap_iff] at hg
    rw [step_char hk]
    show x.p + cw (bat s x.p) ≤ g
    have : cw (bat s x.p) = 1 := by unfold cw; rw [if_pos (by omega)]
    omega
  · rw [step_brk hk]
    show x.p + brk s x.p ≤ g
    have h3 : x.p + 1 = g ∨ gap (bat s (x.p + 1)) = true := by
      by_cases h4 : x.p + 1 = g
      · exact Or.inl h4
      · exact Or.inr (h.all _ (by omega) (by omega))
    have h5 : bat s (x.p + 1) = 35 ∨ bat s (x.p + 1) = 32 ∨ bat s (x.p + 1) = 9 ∨ bat s (x.p + 1) = 13 ∨ bat s (x.p + 1) = 10 := by
      rcases h3 with h3 | h3
      · rw [h3]; exact Or.inl hb
      · exact Or.inr ((gap_iff _).1 h3)
    by_cases h6 : x.p + 1 = g
    · have h7 : bat s (x.p + 1) = 35 := by rw [h6]; exact hb
      unfold brk at hk ⊢
      rw [h7] at hk ⊢
      repeat' split
      all_goals omega
    · unfold brk at hk ⊢
      repeat' split
      all_goals omega

theorem step_blank {s : ByteArray} {t : St} (h : bat s t.p = 32 ∨ bat s t.p = 9) : step s t = ⟨t.p + 1, t.l, t.c + 1, t.k⟩ := by
  rw [step_char (brk_of (by omega) (by omega) (by omega) (by omega))]
  rcases h with h | h <;> rw [h] <;> rfl

/-! ### Where the next token begins -/
/-- A blank that is passed. -/
def bl (c : Nat) (fl : Int) (ka : Bool) : Bool := c == 32 || (c == 9 && !(fl == 0 && ka))
/-- 'keyAllowed' behind a line break. -/
def kb (fl : Int) (ka : Bool) : Bool := if fl = 0 then true else ka

def tnN (s : ByteArray) (fl : Int) (q : Nat × Bool) : Option (Nat × Bool) :=
  if q.1 < s.size then
    if bl (bat s q.1) fl q.2 = true then some (q.1 + 1, q.2)
    else if bat s q.1 = 35 then some (cre s q.1, q.2)
    else if brk s q.1 = 0 then none else some (q.1 + brk s q.1, kb fl q.2)
  else none
def tn (s : ByteArray) (fl : Int) (q : Nat × Bool) : Nat × Bool := runF (tnN s fl) (s.size - q.1) q

theorem tnN_lt (s : ByteArray) (fl : Int) (a b : Nat × Bool) (h : tnN s fl a = some b) : s.size - b.1 < s.size - a.1 := by
  unfold tnN at h
  split at h
  · rename_i hp
    split at h
    · injection h with h; subst h; show s.size - (a.1 + 1) < _; omega
    split at h
    · rename_i h35
      have := cre_gt hp h35
      injection h with h; subst h; show s.size - cre s a.1 < _; omega
    split at h
    · cases h
    · injection h with h; subst h; show s.size - (a.1 + brk s a.1) < _; omega
  · cases h
theorem tn_blank {s : ByteArray} {fl : Int} {q : Nat} {ka : Bool} (h : q < s.size) (hb : bl (bat s q) fl ka = true) : tn s fl (q, ka) = tn s fl (q + 1, ka) :=
  runF_step (tnN s fl) (fun q => s.size - q.1) (tnN_lt s fl) (by unfold tnN; rw [if_pos h, if_pos hb])
theorem tn_hash {s : ByteArray} {fl : Int} {q : Nat} {ka : Bool} (h : q < s.size) (hb : bat s q = 35) : tn s fl (q, ka) = tn s fl (cre s q, ka) :=
  runF_step (tnN s fl) (fun q => s.size - q.1) (tnN_lt s fl) (by unfold tnN; rw [if_pos h, if_neg (by simp [bl, hb]), if_pos hb])
theorem brk_bat {s : ByteArray} {p : Nat} (h : brk s p ≠ 0) : bat s p = 10 ∨ bat s p = 13 ∨ bat s p = 194 ∨ bat s p = 226 := by
  by_cases h0 : bat s p = 10
  · exact Or.inl h0
  by_cases h1 : bat s p = 13
  · exact Or.inr (Or.inl h1)
  by_cases h2 : bat s p = 194
  · exact Or.inr (Or.inr (Or.inl h2))
  by_cases h3 : bat s p = 226
  · exact Or.inr (Or.inr (Or.inr h3))
  exact absurd (brk_of h0 h1 h2 h3) h
theorem brk_in {s : ByteArray} {p : Nat} (h : brk s p ≠ 0) : p < s.size := by
  by_cases hp : p < s.size
  · exact hp
  · exact absurd (brk_out (by omega)) h
theorem tn_brk {s : ByteArray} {fl : Int} {q : Nat} {ka : Bool} (hb : brk s q ≠ 0) : tn s fl (q, ka) = tn s fl (q + brk s q, kb fl ka) :=
  runF_step (tnN s fl) (fun q => s.size - q.1) (tnN_lt s fl) (by
    have h4 := brk_bat hb
    have hl : bl (bat s q) fl ka = false := by
      unfold bl
      rw [beq_eq_false_iff_ne.2 (by omega), beq_eq_false_iff_ne.2 (by omega)]; rfl
    unfold tnN; rw [if_pos (brk_in hb), if_neg (by simp [hl]), if_neg (by show ¬ bat s q = 35; omega), if_neg hb])
theorem tn_stop {s : ByteArray} {fl : Int} {q : Nat} {ka : Bool} (h : ¬ q < s.size ∨ (bl (bat s q) fl ka = false ∧ bat s q ≠ 35 ∧ brk s q = 0)) : tn s fl (q, ka) = (q, ka) :=
  runF_stop (tnN s fl) _ (by
    unfold tnN
    rcases h with h | ⟨h1, h2, h3⟩
    · rw [if_neg h]
    · by_cases hq : q < s.size
      · rw [if_pos hq, if_neg (by show ¬ bl (bat s q) fl ka = true; rw [h1]; decide), if_neg h2, if_pos h3]
      · rw [if_neg hq])

/-- How the walk to the next token ends, and what it keeps. -/
theorem tn_end (s : ByteArray) (fl : Int) (q : Nat × Bool) : (tn s fl q).1 < s.size → bl (bat s (tn s fl q).1) fl (tn s fl q).2 = false ∧ bat s (tn s fl q).1 ≠ 35 ∧ brk s (tn s fl q).1 = 0 := by
  intro h
  have he := runF_end (tnN s fl) (fun q => s.size - q.1) (tnN_lt s fl) (s.size - q.1) q (Nat.le_refl _)
  change tnN s fl (tn s fl q) = none at he
  generalize tn s fl q = r at *
  unfold tnN at he
  rw [if_pos h] at he
  split at he
  · cases he
  rename_i h1
  split at he
  · cases he
  rename_i h2
  split at he
  · rename_i h3
    exact ⟨by simpa using h1, h2, h3⟩
  · cases he
theorem tn_keep (s : ByteArray) (fl : Int) (q : Nat × Bool) : q.1 ≤ (tn s fl q).1 ∧ (q.2 = true → (tn s fl q).2 = true) ∧ (fl ≠ 0 → (tn s fl q).2 = q.2) := by
  refine runF_keep (tnN s fl) (fun r => q.1 ≤ r.1 ∧ (q.2 = true → r.2 = true) ∧ (fl ≠ 0 → r.2 = q.2)) ?_ (s.size - q.1) q ⟨Nat.le_refl _, id, fun _ => rfl⟩
  rintro a b h ⟨h1, h2, h3⟩
  have hlt := tnN_lt s fl a b h
  unfold tnN at h
  split at h
  · split at h
    · injection h with h; subst h; exact ⟨by show _ ≤ a.1 + 1; omega, h2, h3⟩
    split at h
    · injection h with h; subst h; exact ⟨by show _ ≤ cre s a.1; change s.size - cre s a.1 < _ at hlt; omega, h2, h3⟩
    split at h
    · cases h
    · injection h with h; subst h
      refine ⟨by show _ ≤ a.1 + brk s a.1; omega, fun e => ?_, fun e => ?_⟩
      · show kb fl a.2 = true; unfold kb; split
        · rfl
        · exact h2 e
      · show kb fl a.2 = q.2; unfold kb; rw [if_neg e]; exact h3 e
  · cases h

end Go.Proofs.Qxb6601242a.Pl
