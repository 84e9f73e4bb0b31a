/-
  THE PLAIN LAWS of seat b6604262a: where a JSON number ends. No Go program in sight: a text is a function 'T' from places to byte values, and a length.
-/
namespace Go.Proofs.Qxb6604262a.Plain

/-- A digit. -/
def isD (c : Int) : Bool := decide (48 ≤ c) && decide (c ≤ 57)

/-- The end of the run of digits that starts at i ('f': rounds left). -/
def run (T : Nat → Int) (n : Nat) : Nat → Nat → Nat
  | 0, i => i
  | f + 1, i => if i < n ∧ isD (T i) = true then run T n f (i + 1) else i

def rn (T : Nat → Int) (n i : Nat) : Nat := run T n (n - i) i

structure IsRun (T : Nat → Int) (n i e : Nat) : Prop where
  lo : i ≤ e
  hi : e ≤ n
  all : ∀ k, i ≤ k → k < e → isD (T k) = true
  stop : e < n → isD (T e) = false

theorem run_spec (T : Nat → Int) (n : Nat) : ∀ f i, i + f = n → IsRun T n i (run T n f i) := by
  intro f
  induction f with
  | zero => intro i h; exact ⟨Nat.le_refl _, by simp only [run]; omega, fun k h1 h2 => by simp only [run] at h2; omega, fun h2 => by simp only [run] at h2; omega⟩
  | succ f ih =>
    intro i h
    rw [run]
    by_cases hc : i < n ∧ isD (T i) = true
    · rw [if_pos hc]
      have := ih (i + 1) (by omega)
      refine ⟨by have := this.lo; omega, this.hi, fun k h1 h2 => ?_, this.stop⟩
      by_cases e : k = i
      · rw [e]; exact hc.2
      · exact this.all k (by omega) h2
    · rw [if_neg hc]
      refine ⟨Nat.le_refl _, by omega, fun k h1 h2 => by omega, fun hlt => ?_⟩
      cases hd : isD (T i) with
      | false => rfl
      | true => exact absurd ⟨hlt, hd⟩ hc

theorem rn_spec (T : Nat → Int) (n i : Nat) (h : i ≤ n) : IsRun T n i (rn T n i) := run_spec T n _ _ (by omega)

theorem IsRun.uniq {T : Nat → Int} {n i e f : Nat} (h : IsRun T n i e) (g : IsRun T n i f) : e = f := by
  rcases Nat.lt_trichotomy e f with hl | rfl | hl
  · have a := g.all e h.lo hl
    have b := h.stop (by have := g.hi; omega)
    rw [a] at b; cases b
  · rfl
  · have a := h.all f g.lo hl
    have b := g.stop (by have := h.hi; omega)
    rw [a] at b; cases b

theorem rn_eq {T : Nat → Int} {n i e : Nat} (h : IsRun T n i e) : rn T n i = e := (rn_spec T n i (Nat.le_trans h.lo h.hi)).uniq h

/-- A run that ends by e is the same in the text cut at e. -/
theorem IsRun.cut {T : Nat → Int} {n i r e : Nat} (h : IsRun T n i r) (hr : r ≤ e) (he : e ≤ n) : IsRun T e i r :=
  ⟨h.lo, hr, h.all, fun hl => h.stop (by omega)⟩

/-- digitsEnd. -/
def digE (T : Nat → Int) (n i : Nat) : Int := if rn T n i = i then -1 else (rn T n i : Int)

/-- The exponent's part. -/
def expo (T : Nat → Int) (n j : Nat) : Int :=
  if j < n ∧ (T j = 101 ∨ T j = 69) then
    digE T n (if j + 1 < n ∧ (T (j + 1) = 43 ∨ T (j + 1) = 45) then j + 2 else j + 1)
  else j

/-- The fraction's part, and what follows. -/
def frac (T : Nat → Int) (n j : Nat) : Int :=
  if j < n ∧ T j = 46 then (if rn T n (j + 1) = j + 1 then -1 else expo T n (rn T n (j + 1))) else expo T n j

/-- The integer's part, and what follows. -/
def intg (T : Nat → Int) (n j : Nat) : Int :=
  if j = n then -1 else if T j = 48 then frac T n (j + 1) else if 49 ≤ T j ∧ T j ≤ 57 then frac T n (rn T n j) else -1

/-- numberEnd. -/
def numE (T : Nat → Int) (n i : Nat) : Int := intg T n (if T i = 45 then i + 1 else i)

theorem rn_lo {T : Nat → Int} {n i : Nat} (h : i ≤ n) : i ≤ rn T n i := (rn_spec T n i h).lo
theorem rn_hi {T : Nat → Int} {n i : Nat} (h : i ≤ n) : rn T n i ≤ n := (rn_spec T n i h).hi

theorem rn_pos {T : Nat → Int} {n i : Nat} (h : i < n) (hd : isD (T i) = true) : i < rn T n i := by
  have s := rn_spec T n i (by omega)
  rcases Nat.lt_or_ge i (rn T n i) with hl | hg
  · exact hl
  · have e : rn T n i = i := by have := s.lo; omega
    have := s.stop (by omega)
    rw [e, hd] at this; cases this

/-- A number's end: none, or behind j and within the text. -/
structure Ends (n j : Nat) (e : Int) : Prop where
  lo : e = -1 ∨ ((j : Int) ≤ e ∧ e ≤ n)

theorem digE_ends {T : Nat → Int} {n i : Nat} (h : i ≤ n) : digE T n i = -1 ∨ ((i : Int) < digE T n i ∧ digE T n i ≤ n) := by
  unfold digE
  have := rn_lo (T := T) h
  have := rn_hi (T := T) h
  split
  · exact .inl rfl
  · exact .inr (by omega)

theorem expo_ends {T : Nat → Int} {n j : Nat} (h : j ≤ n) : expo T n j = -1 ∨ ((j : Int) ≤ expo T n j ∧ expo T n j ≤ n) := by
  unfold expo
  split
  · rename_i hc
    split
    · rename_i h2
      rcases digE_ends (T := T) (n := n) (i := j + 2) (by omega) with a | a
      · exact .inl a
      · exact .inr (by omega)
    · rcases digE_ends (T := T) (n := n) (i := j + 1) (by omega) with a | a
      · exact .inl a
      · exact .inr (by omega)
  · exact .inr (by omega)

theorem frac_ends {T : Nat → Int} {n j : Nat} (h : j ≤ n) : frac T n j = -1 ∨ ((j : Int) ≤ frac T n j ∧ frac T n j ≤ n) := by
  unfold frac
  split
  · rename_i hc
    split
    · exact .inl rfl
    · have := rn_lo (T := T) (n := n) (i := j + 1) (by omega)
      rcases expo_ends (T := T) (n := n) (j := rn T n (j + 1)) (rn_hi (by omega)) with a | a
      · exact .inl a
      · exact .inr (by omega)
  · exact expo_ends h

theorem isD_of {c : Int} (h : 49 ≤ c ∧ c ≤ 57) : isD c = true := by simp [isD]; omega

theorem intg_ends {T : Nat → Int} {n j : Nat} (h : j ≤ n) : intg T n j = -1 ∨ ((j : Int) < intg T n j ∧ intg T n j ≤ n) := by
  unfold intg
  split
  · exact .inl rfl
  · rename_i hj
    split
    · rcases frac_ends (T := T) (n := n) (j := j + 1) (by omega) with a | a
      · exact .inl a
      · exact .inr (by omega)
    · split
      · rename_i hd
        have := rn_pos (T := T) (n := n) (i := j) (by omega) (isD_of hd)
        rcases frac_ends (T := T) (n := n) (j := rn T n j) (rn_hi (by omega)) with a | a
        · exact .inl a
        · exact .inr (by omega)
      · exact .inl rfl

theorem numE_ends {T : Nat → Int} {n i : Nat} (h : i < n) : numE T n i = -1 ∨ ((i : Int) < numE T n i ∧ numE T n i ≤ n) := by
  unfold numE
  split
  · rcases intg_ends (T := T) (n := n) (j := i + 1) (by omega) with a | a
    · exact .inl a
    · exact .inr (by omega)
  · exact intg_ends (by omega)

/-! ### The text cut at the end -/
theorem digE_cut {T : Nat → Int} {n i e : Nat} (h : i ≤ n) (he : digE T n i = (e : Int)) : digE T e i = (e : Int) := by
  have s := rn_spec T n i h
  unfold digE at he ⊢
  by_cases c : rn T n i = i
  · rw [if_pos c] at he; omega
  · rw [if_neg c] at he
    have hr : rn T n i = e := by omega
    rw [hr] at s c
    rw [rn_eq (s.cut (Nat.le_refl _) s.hi), if_neg c]

theorem expo_cut {T : Nat → Int} {n j e : Nat} (h : j ≤ n) (he : expo T n j = (e : Int)) : expo T e j = (e : Int) := by
  have hen := expo_ends (T := T) h
  rw [he] at hen
  unfold expo at he
  by_cases c : j < n ∧ (T j = 101 ∨ T j = 69)
  · rw [if_pos c] at he
    have hj : j + 1 < e ∨ j + 2 < e := by
      split at he
      · rcases digE_ends (T := T) (n := n) (i := j + 2) (by omega) with a | a <;> rw [he] at a <;> omega
      · rcases digE_ends (T := T) (n := n) (i := j + 1) (by omega) with a | a <;> rw [he] at a <;> omega
    unfold expo
    rw [if_pos ⟨by omega, c.2⟩]
    by_cases c2 : j + 1 < n ∧ (T (j + 1) = 43 ∨ T (j + 1) = 45)
    · rw [if_pos c2] at he
      rw [if_pos ⟨by omega, c2.2⟩]
      exact digE_cut (by omega) he
    · rw [if_neg c2] at he
      rw [if_neg (fun a => c2 ⟨by omega, a.2⟩)]
      exact digE_cut (by omega) he
  · rw [if_neg c] at he
    have : j = e := by omega
    subst this
    unfold expo
    rw [if_neg (fun a => by omega)]

theorem frac_cut {T : Nat → Int} {n j e : Nat} (h : j ≤ n) (he : frac T n j = (e : Int)) : frac T e j = (e : Int) := by
  unfold frac at he
  by_cases c : j < n ∧ T j = 46
  · rw [if_pos c] at he
    have s := rn_spec T n (j + 1) (by omega)
    by_cases c2 : rn T n (j + 1) = j + 1
    · rw [if_pos c2] at he; omega
    · rw [if_neg c2] at he
      have ee := expo_ends (T := T) s.hi
      rw [he] at ee
      have hle : rn T n (j + 1) ≤ e := by omega
      have hen : e ≤ n := by omega
      have hlo := s.lo
      unfold frac
      rw [if_pos ⟨by omega, c.2⟩, rn_eq (s.cut hle hen), if_neg c2]
      exact expo_cut s.hi he
  · rw [if_neg c] at he
    have ee := expo_ends (T := T) h
    rw [he] at ee
    unfold frac
    rw [if_neg (fun a => c ⟨by omega, a.2⟩)]
    exact expo_cut h he

theorem intg_cut {T : Nat → Int} {n j e : Nat} (h : j ≤ n) (he : intg T n j = (e : Int)) : intg T e j = (e : Int) := by
  have hen := intg_ends (T := T) h
  rw [he] at hen
  unfold intg at he ⊢
  by_cases c : j = n
  · rw [if_pos c] at he; omega
  · rw [if_neg c] at he
    rw [if_neg (by omega)]
    by_cases c1 : T j = 48
    · rw [if_pos c1] at he ⊢
      exact frac_cut (by omega) he
    · rw [if_neg c1] at he ⊢
      by_cases c2 : 49 ≤ T j ∧ T j ≤ 57
      · rw [if_pos c2] at he ⊢
        have s := rn_spec T n j h
        have ee := frac_ends (T := T) s.hi
        rw [he] at ee
        rw [rn_eq (s.cut (by omega) (by omega))]
        exact frac_cut s.hi he
      · rw [if_neg c2] at he; omega

/-- THE LAW FnRawjsonNumberEndSelfDelimiting. -/
theorem numE_cut {T : Nat → Int} {n i e : Nat} (h : i < n) (he : numE T n i = (e : Int)) : numE T e i = (e : Int) := by
  unfold numE at he ⊢
  by_cases c : T i = 45
  · rw [if_pos c] at he ⊢
    exact intg_cut (by omega) he
  · rw [if_neg c] at he ⊢
    exact intg_cut (by omega) he

end Go.Proofs.Qxb6604262a.Plain
