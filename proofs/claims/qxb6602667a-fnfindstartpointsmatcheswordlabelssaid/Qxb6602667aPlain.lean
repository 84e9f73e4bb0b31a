/-
  THE PLAIN LAWS of seat b6602667a: find's options, starting points and expression. Words by their places: 'W : Nat → ByteArray', n words.
-/
import GoSem.Op.String
namespace Go.Proofs.Qxb6602667a.Plain

/-- '-D' -/
def pD (a : ByteArray) : Bool := a.toList == [45, 68]
/-- a begins with the two bytes l -/
def pre (a : ByteArray) (l : List UInt8) : Bool := decide (2 ≤ a.size) && (a.extract 0 2).toList == l
/-- -H, -L, -P, -D.., -O.. -/
def opt (a : ByteArray) : Bool := a.toList == [45, 72] || a.toList == [45, 76] || a.toList == [45, 80] || pre a [45, 68] || pre a [45, 79]
/-- '--' -/
def dd (a : ByteArray) : Bool := a.toList == [45, 45]
/-- a opens the expression -/
def dash (a : ByteArray) : Bool := if h : 2 ≤ a.size then (a[0]).toNat == 45 else false
def opn (a : ByteArray) : Bool := dash a || a.toList == [40] || a.toList == [41] || a.toList == [33] || a.toList == [44]

/-- The first loop ('f': rounds left). -/
def fs (W : Nat → ByteArray) (n : Nat) : Nat → Nat → Nat
  | 0, i => i
  | f + 1, i => if i < n then (if pD (W i) = true then fs W n f (i + 2) else if opt (W i) = true then fs W n f (i + 1) else if dd (W i) = true then i + 1 else i) else i

theorem fs_le (W : Nat → ByteArray) (n : Nat) : ∀ f i, i ≤ fs W n f i := by
  intro f
  induction f with
  | zero => intro i; exact Nat.le_refl _
  | succ f ih =>
    intro i
    rw [fs]
    split
    · split
      · have := ih (i + 2); omega
      · split
        · have := ih (i + 1); omega
        · split <;> omega
    · exact Nat.le_refl _

/-- The first loop stands at i and will come to R. -/
def At (W : Nat → ByteArray) (n R i : Nat) : Prop := ∃ f, n ≤ i + f ∧ fs W n f i = R

theorem At.le {W : Nat → ByteArray} {n R i : Nat} (h : At W n R i) : i ≤ R := by
  obtain ⟨f, _, h⟩ := h
  rw [← h]; exact fs_le W n f i
theorem At.step {W : Nat → ByteArray} {n R i : Nat} (h : At W n R i) (hi : i < n) : ∃ f, n ≤ i + f + 1 ∧ (if pD (W i) = true then fs W n f (i + 2) else if opt (W i) = true then fs W n f (i + 1) else if dd (W i) = true then i + 1 else i) = R := by
  obtain ⟨f, h1, h2⟩ := h
  obtain ⟨g, rfl⟩ : ∃ g, f = g + 1 := ⟨f - 1, by omega⟩
  rw [fs, if_pos hi] at h2
  exact ⟨g, by omega, h2⟩
theorem At.stop {W : Nat → ByteArray} {n R i : Nat} (h : At W n R i) (hi : ¬ i < n) : R = i := by
  obtain ⟨f, _, h2⟩ := h
  cases f with
  | zero => exact h2.symm
  | succ f => rw [fs, if_neg hi] at h2; exact h2.symm
theorem At.bare {W : Nat → ByteArray} {n R i : Nat} (h : At W n R i) (hi : i < n) (hd : pD (W i) = true) : At W n R (i + 2) := by
  obtain ⟨f, h1, h2⟩ := h.step hi
  rw [if_pos hd] at h2
  exact ⟨f, by omega, h2⟩
theorem At.opt {W : Nat → ByteArray} {n R i : Nat} (h : At W n R i) (hi : i < n) (hd : pD (W i) = false) (ho : opt (W i) = true) : At W n R (i + 1) := by
  obtain ⟨f, h1, h2⟩ := h.step hi
  rw [if_neg (by rw [hd]; simp), if_pos ho] at h2
  exact ⟨f, by omega, h2⟩
theorem At.dd {W : Nat → ByteArray} {n R i : Nat} (h : At W n R i) (hi : i < n) (hd : pD (W i) = false) (ho : Plain.opt (W i) = false) (hdd : Plain.dd (W i) = true) : R = i + 1 := by
  obtain ⟨f, h1, h2⟩ := h.step hi
  rw [if_neg (by rw [hd]; simp), if_neg (by rw [ho]; simp), if_pos hdd] at h2
  exact h2.symm
theorem At.other {W : Nat → ByteArray} {n R i : Nat} (h : At W n R i) (hi : i < n) (hd : pD (W i) = false) (ho : Plain.opt (W i) = false) (hdd : Plain.dd (W i) = false) : R = i := by
  obtain ⟨f, h1, h2⟩ := h.step hi
  rw [if_neg (by rw [hd]; simp), if_neg (by rw [ho]; simp), if_neg (by rw [hdd]; simp)] at h2
  exact h2.symm

/-- Where the starting points end. -/
structure EndAt (W : Nat → ByteArray) (n F e : Nat) : Prop where
  lo : F ≤ e
  hi : e ≤ n
  all : ∀ k, F ≤ k → k < e → opn (W k) = false
  stop : e < n → opn (W e) = true

/-- A word's label. -/
def lab (F e j : Nat) : Int := if j < F then 0 else if j < e then 1 else 2

/-- What holds at the head of the labels' rounds. -/
structure LabI (W : Nat → ByteArray) (n R F e i s : Nat) (p : Bool) : Prop where
  ok : (s = 0 ∧ p = false ∧ At W n R i ∧ i ≤ F) ∨ (s = 0 ∧ p = true ∧ At W n R (i + 1) ∧ i ≤ F) ∨ (s = 1 ∧ F ≤ i ∧ i ≤ e) ∨ (s = 2 ∧ e ≤ i)

section
variable {W : Nat → ByteArray} {n R F e i s : Nat} {p : Bool}

theorem LabI.pend (h : LabI W n R F e i 0 true) (hF : F = min R n) (hi : i < n) : LabI W n R F e (i + 1) 0 false ∧ lab F e i = 0 := by
  rcases h.ok with ⟨_, a, _⟩ | ⟨_, _, a, b⟩ | ⟨a, _⟩ | ⟨a, _⟩
  · cases a
  · have := a.le
    exact ⟨⟨.inl ⟨rfl, rfl, a, by omega⟩⟩, by unfold lab; rw [if_pos (by omega)]⟩
  · omega
  · omega

theorem LabI.zero (h : LabI W n R F e i 0 false) : At W n R i ∧ i ≤ F := by
  rcases h.ok with ⟨_, _, a, b⟩ | ⟨_, a, _⟩ | ⟨a, _⟩ | ⟨a, _⟩
  · exact ⟨a, b⟩
  · cases a
  · omega
  · omega

theorem LabI.bare (h : LabI W n R F e i 0 false) (hF : F = min R n) (hi : i < n) (hd : pD (W i) = true) : LabI W n R F e (i + 1) 0 true ∧ lab F e i = 0 := by
  obtain ⟨a, b⟩ := h.zero
  have c := a.bare hi hd
  have := c.le
  exact ⟨⟨.inr (.inl ⟨rfl, rfl, c, by omega⟩)⟩, by unfold lab; rw [if_pos (by omega)]⟩
theorem LabI.opt (h : LabI W n R F e i 0 false) (hF : F = min R n) (hi : i < n) (hd : pD (W i) = false) (ho : Plain.opt (W i) = true) : LabI W n R F e (i + 1) 0 false ∧ lab F e i = 0 := by
  obtain ⟨a, b⟩ := h.zero
  have c := a.opt hi hd ho
  have := c.le
  exact ⟨⟨.inl ⟨rfl, rfl, c, by omega⟩⟩, by unfold lab; rw [if_pos (by omega)]⟩
theorem LabI.dd (h : LabI W n R F e i 0 false) (hF : F = min R n) (he : EndAt W n F e) (hi : i < n) (hd : pD (W i) = false) (ho : Plain.opt (W i) = false) (hdd : Plain.dd (W i) = true) (p' : Bool) : LabI W n R F e (i + 1) 1 p' ∧ lab F e i = 0 := by
  obtain ⟨a, b⟩ := h.zero
  have c := a.dd hi hd ho hdd
  have := he.lo
  exact ⟨⟨.inr (.inr (.inl ⟨rfl, by omega, by omega⟩))⟩, by unfold lab; rw [if_pos (by omega)]⟩
theorem LabI.other (h : LabI W n R F e i 0 false) (hF : F = min R n) (he : EndAt W n F e) (hi : i < n) (hd : pD (W i) = false) (ho : Plain.opt (W i) = false) (hdd : Plain.dd (W i) = false) (p' : Bool) : LabI W n R F e i 1 p' := by
  obtain ⟨a, b⟩ := h.zero
  have c := a.other hi hd ho hdd
  have := he.lo
  exact ⟨.inr (.inr (.inl ⟨rfl, by omega, by omega⟩))⟩
theorem LabI.one (h : LabI W n R F e i 1 p) : F ≤ i ∧ i ≤ e := by
  rcases h.ok with ⟨a, _⟩ | ⟨a, _⟩ | ⟨_, a, b⟩ | ⟨a, _⟩
  · omega
  · omega
  · exact ⟨a, b⟩
  · omega
theorem LabI.start (h : LabI W n R F e i 1 p) (he : EndAt W n F e) (hi : i < n) (ho : opn (W i) = false) (p' : Bool) : LabI W n R F e (i + 1) 1 p' ∧ lab F e i = 1 := by
  obtain ⟨a, b⟩ := h.one
  have c : i < e := by
    rcases Nat.lt_or_ge i e with hl | hg
    · exact hl
    · have e1 : e = i := by omega
      have := he.stop (by omega)
      rw [e1, ho] at this; cases this
  exact ⟨⟨.inr (.inr (.inl ⟨rfl, by omega, by omega⟩))⟩, by unfold lab; rw [if_neg (by omega), if_pos c]⟩
theorem LabI.open (h : LabI W n R F e i 1 p) (he : EndAt W n F e) (ho : opn (W i) = true) (p' : Bool) : LabI W n R F e (i + 1) 2 p' ∧ lab F e i = 2 := by
  obtain ⟨a, b⟩ := h.one
  have c : e ≤ i := by
    rcases Nat.lt_or_ge i e with hl | hg
    · have := he.all i a hl
      rw [ho] at this; cases this
    · exact hg
  exact ⟨⟨.inr (.inr (.inr ⟨rfl, by omega⟩))⟩, by unfold lab; rw [if_neg (by have := he.lo; omega), if_neg (by omega)]⟩
theorem LabI.two (h : LabI W n R F e i 2 p) (he : EndAt W n F e) (p' : Bool) : LabI W n R F e (i + 1) 2 p' ∧ lab F e i = 2 := by
  have c : e ≤ i := by
    rcases h.ok with ⟨a, _⟩ | ⟨a, _⟩ | ⟨a, _⟩ | ⟨_, a⟩
    · omega
    · omega
    · omega
    · exact a
  exact ⟨⟨.inr (.inr (.inr ⟨rfl, by omega⟩))⟩, by unfold lab; rw [if_neg (by have := he.lo; omega), if_neg (by omega)]⟩
end

end Go.Proofs.Qxb6602667a.Plain
