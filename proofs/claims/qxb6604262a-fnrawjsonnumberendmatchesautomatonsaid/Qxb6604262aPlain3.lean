/-
  THE PLAIN LAW of FnRawjsonNumberEndMatchesAutomaton: the number automaton ends where numberEnd does.
-/
import Derived.Test.Qxb6604262aPlain
namespace Go.Proofs.Qxb6604262a.Plain

/-- The automaton's step; -1: none. -/
def stp (s : Nat) (c : Int) : Int :=
  if s = 0 then (if c = 45 then 1 else if c = 48 then 2 else if 49 ≤ c ∧ c ≤ 57 then 3 else -1)
  else if s = 1 then (if c = 48 then 2 else if 49 ≤ c ∧ c ≤ 57 then 3 else -1)
  else if s = 2 then (if c = 46 then 4 else if c = 101 ∨ c = 69 then 6 else -1)
  else if s = 3 then (if isD c = true then 3 else if c = 46 then 4 else if c = 101 ∨ c = 69 then 6 else -1)
  else if s = 4 then (if isD c = true then 5 else -1)
  else if s = 5 then (if isD c = true then 5 else if c = 101 ∨ c = 69 then 6 else -1)
  else if s = 6 then (if c = 43 ∨ c = 45 then 7 else if isD c = true then 8 else -1)
  else (if isD c = true then 8 else -1)

/-- Accepting. -/
def acc (s : Nat) : Bool := s == 2 || s == 3 || s == 5 || s == 8

/-- The automaton from state s at place j on ('f': places left). -/
def mdl (T : Nat → Int) (n : Nat) : Nat → Nat → Nat → Int
  | 0, s, _ => if acc s = true then (n : Int) else -1
  | f + 1, s, j => if stp s (T j) < 0 then (if acc s = true then (j : Int) else -1) else mdl T n f (stp s (T j)).toNat (j + 1)

theorem stp_le {s : Nat} {c : Int} : stp s c ≤ 8 := by
  unfold stp
  repeat' split
  all_goals omega

theorem stp_neg {s : Nat} {c : Int} (h : stp s c < 0) : stp s c = -1 := by
  revert h
  unfold stp
  repeat' split
  all_goals omega

def M (T : Nat → Int) (n s j : Nat) : Int := mdl T n (n - j) s j

theorem M_end {T : Nat → Int} {n s : Nat} : M T n s n = if acc s = true then (n : Int) else -1 := by
  unfold M; rw [Nat.sub_self]; rfl
theorem M_go {T : Nat → Int} {n s j : Nat} (h : j < n) : M T n s j = if stp s (T j) < 0 then (if acc s = true then (j : Int) else -1) else M T n (stp s (T j)).toNat (j + 1) := by
  unfold M
  obtain ⟨f, hf⟩ : ∃ f, n - j = f + 1 := ⟨n - j - 1, by omega⟩
  rw [hf, show n - (j + 1) = f from by omega, mdl]

theorem M_to {T : Nat → Int} {n s j t : Nat} (h : j < n) (hs : stp s (T j) = (t : Int)) : M T n s j = M T n t (j + 1) := by
  rw [M_go h, hs, if_neg (by omega)]; rfl
theorem M_stop {T : Nat → Int} {n s j : Nat} (h : j < n) (hs : stp s (T j) = -1) : M T n s j = if acc s = true then (j : Int) else -1 := by
  rw [M_go h, hs, if_pos (by omega)]

theorem rn_step {T : Nat → Int} {n j : Nat} (h : j < n) (hd : isD (T j) = true) : rn T n j = rn T n (j + 1) := by
  have s := rn_spec T n (j + 1) (by omega)
  refine rn_eq ⟨by have := s.lo; omega, s.hi, fun k a b => ?_, s.stop⟩
  by_cases e : k = j
  · rw [e]; exact hd
  · exact s.all k (by omega) b
theorem rn_stay {T : Nat → Int} {n j : Nat} (h : j ≤ n) (hd : j < n → isD (T j) = false) : rn T n j = j :=
  rn_eq ⟨Nat.le_refl _, h, fun k a b => by omega, hd⟩

theorem M8 {T : Nat → Int} {n : Nat} : ∀ d j, j + d = n → M T n 8 j = (rn T n j : Int) := by
  intro d
  induction d with
  | zero =>
    intro j h
    obtain rfl : j = n := by omega
    rw [M_end, rn_stay (Nat.le_refl _) (fun h => by omega)]
    rfl
  | succ d ih =>
    intro j h
    rcases hd : isD (T j) with _ | _
    · rw [M_stop (by omega) (by simp [stp, hd]), rn_stay (by omega) (fun _ => hd)]; rfl
    · rw [M_to (t := 8) (by omega) (by simp [stp, hd]), ih (j + 1) (by omega), ← rn_step (by omega) hd]

theorem digE_yes {T : Nat → Int} {n j : Nat} (h : j < n) (hd : isD (T j) = true) : digE T n j = (rn T n j : Int) := by
  unfold digE; rw [if_neg (by have := rn_pos h hd; omega)]
theorem digE_no {T : Nat → Int} {n j : Nat} (h : j ≤ n) (hd : j < n → isD (T j) = false) : digE T n j = -1 := by
  unfold digE; rw [if_pos (rn_stay h hd)]

theorem M7 {T : Nat → Int} {n j : Nat} (h : j ≤ n) : M T n 7 j = digE T n j := by
  by_cases hj : j < n
  · rcases hd : isD (T j) with _ | _
    · rw [M_stop hj (by simp [stp, hd]), digE_no h (fun _ => hd)]; rfl
    · rw [M_to (t := 8) hj (by simp [stp, hd]), M8 (n - (j + 1)) (j + 1) (by omega), digE_yes hj hd, rn_step hj hd]
  · obtain rfl : j = n := by omega
    rw [M_end, digE_no h (fun h => by omega)]; rfl

theorem M6 {T : Nat → Int} {n j : Nat} (h : j ≤ n) : M T n 6 j = digE T n (if j < n ∧ (T j = 43 ∨ T j = 45) then j + 1 else j) := by
  by_cases hj : j < n
  · by_cases hp : T j = 43 ∨ T j = 45
    · rw [if_pos ⟨hj, hp⟩, M_to (t := 7) hj (by simp [stp, hp]), M7 (by omega)]
    · rw [if_neg (fun a => hp a.2)]
      rcases hd : isD (T j) with _ | _
      · rw [M_stop hj (by simp [stp, hd, hp]), digE_no h (fun _ => hd)]; rfl
      · rw [M_to (t := 8) hj (by simp [stp, hd, hp]), M8 (n - (j + 1)) (j + 1) (by omega), digE_yes hj hd, rn_step hj hd]
  · obtain rfl : j = n := by omega
    rw [if_neg (fun a => hj a.1), M_end, digE_no h (fun h => by omega)]; rfl

/-- From an accepting state without a digit or a dot: an exponent, or the end. -/
theorem M_expo {T : Nat → Int} {n s j : Nat} (h : j ≤ n) (ha : acc s = true) (he : j < n → (T j = 101 ∨ T j = 69) → stp s (T j) = 6) (hn : j < n → ¬ (T j = 101 ∨ T j = 69) → stp s (T j) = -1) : M T n s j = expo T n j := by
  unfold expo
  by_cases hj : j < n
  · by_cases e : T j = 101 ∨ T j = 69
    · rw [if_pos ⟨hj, e⟩, M_to (t := 6) hj (he hj e), M6 (by omega)]
    · rw [if_neg (fun a => e a.2), M_stop hj (hn hj e), if_pos ha]
  · obtain rfl : j = n := by omega
    rw [if_neg (fun a => hj a.1), M_end, if_pos ha]

theorem M5 {T : Nat → Int} {n : Nat} : ∀ d j, j + d = n → M T n 5 j = expo T n (rn T n j) := by
  intro d
  induction d with
  | zero =>
    intro j h
    rw [rn_stay (by omega) (fun h => by omega)]
    exact M_expo (by omega) rfl (fun h => by omega) (fun h => by omega)
  | succ d ih =>
    intro j h
    rcases hd : isD (T j) with _ | _
    · rw [rn_stay (by omega) (fun _ => hd)]
      exact M_expo (by omega) rfl (fun _ e => by simp [stp, hd, e]) (fun _ e => by simp [stp, hd, e])
    · rw [M_to (t := 5) (by omega) (by simp [stp, hd]), ih (j + 1) (by omega), ← rn_step (by omega) hd]

theorem M4 {T : Nat → Int} {n j : Nat} (h : j ≤ n) : M T n 4 j = if rn T n j = j then -1 else expo T n (rn T n j) := by
  by_cases hj : j < n
  · rcases hd : isD (T j) with _ | _
    · rw [M_stop hj (by simp [stp, hd]), if_pos (rn_stay h (fun _ => hd))]; rfl
    · rw [M_to (t := 5) hj (by simp [stp, hd]), M5 (n - (j + 1)) (j + 1) (by omega), if_neg (by have := rn_pos hj hd; omega), rn_step hj hd]
  · obtain rfl : j = n := by omega
    rw [M_end, if_pos (rn_stay h (fun h => by omega))]; rfl

/-- From an accepting state without a digit: a dot, an exponent, or the end. -/
theorem M_frac {T : Nat → Int} {n s j : Nat} (h : j ≤ n) (ha : acc s = true) (hd : j < n → T j = 46 → stp s (T j) = 4) (he : j < n → ¬ T j = 46 → (T j = 101 ∨ T j = 69) → stp s (T j) = 6) (hn : j < n → ¬ T j = 46 → ¬ (T j = 101 ∨ T j = 69) → stp s (T j) = -1) : M T n s j = frac T n j := by
  unfold frac
  by_cases c : j < n ∧ T j = 46
  · rw [if_pos c, M_to (t := 4) c.1 (hd c.1 c.2), M4 (by omega)]
  · rw [if_neg c]
    exact M_expo h ha (fun hj => he hj (fun e => c ⟨hj, e⟩)) (fun hj => hn hj (fun e => c ⟨hj, e⟩))

theorem M2 {T : Nat → Int} {n j : Nat} (h : j ≤ n) : M T n 2 j = frac T n j :=
  M_frac h rfl (fun _ e => by simp [stp, e]) (fun _ e g => by simp [stp, e, g]) (fun _ e g => by simp [stp, e, g])

theorem M3 {T : Nat → Int} {n : Nat} : ∀ d j, j + d = n → M T n 3 j = frac T n (rn T n j) := by
  intro d
  induction d with
  | zero =>
    intro j h
    rw [rn_stay (by omega) (fun h => by omega)]
    exact M_frac (by omega) rfl (fun h => by omega) (fun h => by omega) (fun h => by omega)
  | succ d ih =>
    intro j h
    rcases hd : isD (T j) with _ | _
    · rw [rn_stay (by omega) (fun _ => hd)]
      exact M_frac (by omega) rfl (fun _ e => by rw [e]; decide) (fun _ e g => by simp [stp, hd, e, g]) (fun _ e g => by simp [stp, hd, e, g])
    · rw [M_to (t := 3) (by omega) (by simp [stp, hd]), ih (j + 1) (by omega), ← rn_step (by omega) hd]

theorem M_intg {T : Nat → Int} {n s j : Nat} (h : j ≤ n) (ha : acc s = false) (hz : j < n → T j = 48 → stp s (T j) = 2) (hd : j < n → ¬ T j = 48 → (49 ≤ T j ∧ T j ≤ 57) → stp s (T j) = 3) (hn : j < n → ¬ T j = 48 → ¬ (49 ≤ T j ∧ T j ≤ 57) → stp s (T j) = -1) : M T n s j = intg T n j := by
  unfold intg
  by_cases c : j = n
  · rw [if_pos c, c, M_end, ha]; rfl
  · rw [if_neg c]
    have hj : j < n := by omega
    by_cases c1 : T j = 48
    · rw [if_pos c1, M_to (t := 2) hj (hz hj c1), M2 (by omega)]
    · rw [if_neg c1]
      by_cases c2 : 49 ≤ T j ∧ T j ≤ 57
      · rw [if_pos c2, M_to (t := 3) hj (hd hj c1 c2), M3 (n - (j + 1)) (j + 1) (by omega), rn_step hj (isD_of c2)]
      · rw [if_neg c2, M_stop hj (hn hj c1 c2), ha]; rfl

/-- THE LAW. -/
theorem numE_mdl {T : Nat → Int} {n i : Nat} (h : i < n) : numE T n i = M T n 0 i := by
  unfold numE
  by_cases c : T i = 45
  · rw [if_pos c, M_to (t := 1) h (by simp [stp, c])]
    exact (M_intg (by omega) rfl (fun _ e => by simp [stp, e]) (fun _ e g => by simp [stp, e, g]) (fun _ e g => by simp [stp, e]; omega)).symm
  · rw [if_neg c]
    exact (M_intg (by omega) rfl (fun _ e => by simp [stp, e]) (fun _ e g => by simp [stp, e, c, g]) (fun _ e g => by simp [stp, e, c]; omega)).symm

end Go.Proofs.Qxb6604262a.Plain
