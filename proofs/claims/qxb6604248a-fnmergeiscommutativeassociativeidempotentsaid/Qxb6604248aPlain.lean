/-
  THE PLAIN LAWS of seat b6604248a: vector clocks as sorted lists of (host, count). No Go program in sight; only the model's order of strings.
-/
import GoSem.Op.String
import Derived.Lib.Strings
namespace Go.Proofs.Qxb6604248a.Plain

/-- Go's order of strings. -/
def less (a b : ByteArray) : Bool := Op.bytesLess a.toList b.toList

theorem bl_irrefl : ∀ x : List UInt8, Op.bytesLess x x = false
  | [] => rfl
  | a :: x => by simp [Op.bytesLess, bl_irrefl x]

theorem bl_trans : ∀ x y z : List UInt8, Op.bytesLess x y = true → Op.bytesLess y z = true → Op.bytesLess x z = true
  | [], [], _, h, _ => by simp [Op.bytesLess] at h
  | _ :: _, [], _, h, _ => by simp [Op.bytesLess] at h
  | _, _ :: _, [], _, h => by simp [Op.bytesLess] at h
  | [], _ :: _, _ :: _, _, _ => by simp [Op.bytesLess]
  | a :: x, b :: y, c :: z, h, g => by
    simp only [Op.bytesLess, Bool.or_eq_true, decide_eq_true_eq, Bool.and_eq_true, beq_iff_eq] at h g ⊢
    rcases h with h | ⟨rfl, h⟩
    · rcases g with g | ⟨rfl, g⟩
      · exact .inl (UInt8.lt_trans h g)
      · exact .inl h
    · rcases g with g | ⟨rfl, g⟩
      · exact .inl g
      · exact .inr ⟨rfl, bl_trans x y z h g⟩

theorem bl_tri : ∀ x y : List UInt8, Op.bytesLess x y = false → Op.bytesLess y x = false → x = y
  | [], [], _, _ => rfl
  | _ :: _, [], _, h => by simp [Op.bytesLess] at h
  | [], _ :: _, h, _ => by simp [Op.bytesLess] at h
  | a :: x, b :: y, h, g => by
    simp only [Op.bytesLess, Bool.or_eq_false_iff, decide_eq_false_iff_not, Bool.and_eq_false_iff, beq_eq_false_iff_ne] at h g
    have e : a = b := by
      have h1 := h.1
      have g1 := g.1
      rw [UInt8.lt_iff_toNat_lt] at h1 g1
      exact UInt8.toNat_inj.1 (by omega)
    subst e
    rw [bl_tri x y (by rcases h.2 with h | h; exact absurd rfl h; exact h) (by rcases g.2 with g | g; exact absurd rfl g; exact g)]

theorem toList_inj {a b : ByteArray} (h : a.toList = b.toList) : a = b := by
  rw [Lib.toList_data, Lib.toList_data] at h
  cases a with
  | mk a =>
    cases b with
    | mk b => simp only at h; rw [Array.toList_inj.1 h]

theorem less_irrefl (a : ByteArray) : less a a = false := bl_irrefl _
theorem less_trans {a b c : ByteArray} (h : less a b = true) (g : less b c = true) : less a c = true := bl_trans _ _ _ h g
theorem less_tri {a b : ByteArray} (h : less a b = false) (g : less b a = false) : a = b := toList_inj (bl_tri _ _ h g)
theorem less_ne {a b : ByteArray} (h : less a b = true) : a ≠ b := fun e => by rw [e, less_irrefl] at h; cases h
theorem less_asymm {a b : ByteArray} (h : less a b = true) : less b a = false := by
  cases g : less b a with
  | false => rfl
  | true => have := less_trans h g; rw [less_irrefl] at this; cases this

/-- An entry: a host and its count. -/
abbrev Ent := ByteArray × Int

/-- The vector's invariant: hosts strictly increasing, no count of 0. -/
structure Good (l : List Ent) : Prop where
  srt : l.Pairwise fun a b => less a.1 b.1 = true
  pos : ∀ e ∈ l, 0 < e.2

theorem good_nil : Good [] := ⟨.nil, fun _ h => by cases h⟩
theorem Good.tail {e : Ent} {l : List Ent} (h : Good (e :: l)) : Good l := ⟨(List.pairwise_cons.1 h.srt).2, fun d hd => h.pos d (List.mem_cons_of_mem _ hd)⟩
theorem Good.head {e : Ent} {l : List Ent} (h : Good (e :: l)) : ∀ d ∈ l, less e.1 d.1 = true := (List.pairwise_cons.1 h.srt).1
theorem Good.first {e : Ent} {l : List Ent} (h : Good (e :: l)) : 0 < e.2 := h.pos e (List.mem_cons_self)

/-- A host's count; 0 where it has none. -/
def get : List Ent → ByteArray → Int
  | [], _ => 0
  | e :: r, h => if e.1 = h then e.2 else get r h

theorem get_absent {l : List Ent} {h : ByteArray} (hl : ∀ e ∈ l, e.1 ≠ h) : get l h = 0 := by
  induction l with
  | nil => rfl
  | cons e r ih => rw [get, if_neg (hl e List.mem_cons_self)]; exact ih fun d hd => hl d (List.mem_cons_of_mem _ hd)

theorem get_nonneg {l : List Ent} (g : Good l) (h : ByteArray) : 0 ≤ get l h := by
  induction l with
  | nil => exact Int.le_refl _
  | cons e r ih =>
    rw [get]
    split
    · have := g.first; omega
    · exact ih g.tail

theorem get_mem {l : List Ent} (g : Good l) {e : Ent} (he : e ∈ l) : get l e.1 = e.2 := by
  induction l with
  | nil => cases he
  | cons d r ih =>
    rw [get]
    rcases List.mem_cons.1 he with rfl | he
    · rw [if_pos rfl]
    · rw [if_neg (less_ne (g.head e he)), ih g.tail he]

theorem get_pos_mem {l : List Ent} {h : ByteArray} (hp : get l h ≠ 0) : ∃ e ∈ l, e.1 = h ∧ e.2 = get l h := by
  induction l with
  | nil => exact absurd rfl hp
  | cons d r ih =>
    rw [get] at hp ⊢
    by_cases hd : d.1 = h
    · rw [if_pos hd]; exact ⟨d, List.mem_cons_self, hd, rfl⟩
    · rw [if_neg hd] at hp ⊢
      obtain ⟨e, he, h1, h2⟩ := ih hp
      exact ⟨e, List.mem_cons_of_mem _ he, h1, h2⟩

/-- a ≤ b, entry by entry. -/
def leq (x y : List Ent) : Bool := x.all fun e => decide (e.2 ≤ get y e.1)

theorem leq_iff {x y : List Ent} : leq x y = true ↔ ∀ e ∈ x, e.2 ≤ get y e.1 := by simp [leq]

theorem leq_get {x y : List Ent} (gx : Good x) (gy : Good y) : leq x y = true ↔ ∀ h, get x h ≤ get y h := by
  rw [leq_iff]
  constructor
  · intro H h
    by_cases hp : get x h = 0
    · rw [hp]; exact get_nonneg gy h
    · obtain ⟨e, he, h1, h2⟩ := get_pos_mem hp
      have := H e he
      rw [h1] at this; omega
  · intro H e he
    have := H e.1
    rw [get_mem gx he] at this; exact this

/-- What Compare's loop gathers: is some entry of a below b's, some of b below a's. -/
def cmp : Nat → Bool → Bool → List Ent → List Ent → Bool × Bool
  | 0, a, b, _, _ => (a, b)
  | f + 1, a, b, x, y => if (a && b) = true then (a, b) else match x, y with
    | [], [] => (a, b)
    | _ :: x', [] => cmp f a true x' []
    | [], _ :: y' => cmp f true b [] y'
    | e :: x', d :: y' => if less e.1 d.1 = true then cmp f a true x' (d :: y') else if less d.1 e.1 = true then cmp f true b (e :: x') y' else cmp f (a || decide (e.2 < d.2)) (b || decide (d.2 < e.2)) x' y'

theorem leq_skip {x y : List Ent} {d : Ent} (h : ∀ e ∈ x, d.1 ≠ e.1) : leq x (d :: y) = leq x y := by
  unfold leq
  induction x with
  | nil => rfl
  | cons e r ih =>
    simp only [List.all_cons]
    rw [get, if_neg (h e List.mem_cons_self), ih fun f hf => h f (List.mem_cons_of_mem _ hf)]

theorem leq_cons (e : Ent) (x y : List Ent) : leq (e :: x) y = (decide (e.2 ≤ get y e.1) && leq x y) := by simp [leq]

theorem cmp_eq : ∀ (f : Nat) (a b : Bool) (x y : List Ent), x.length + y.length ≤ f → Good x → Good y → cmp f a b x y = (a || !leq y x, b || !leq x y) := by
  intro f
  induction f with
  | zero =>
    intro a b x y hl _ _
    have hx : x = [] := List.length_eq_zero_iff.1 (by omega)
    have hy : y = [] := List.length_eq_zero_iff.1 (by omega)
    subst hx hy
    simp [cmp, leq]
  | succ f ih =>
    intro a b x y hl gx gy
    rw [cmp.eq_def]
    simp only []
    by_cases hab : (a && b) = true
    · rw [if_pos hab]
      simp only [Bool.and_eq_true] at hab
      simp [hab.1, hab.2]
    · rw [if_neg hab]
      match x, y, hl, gx, gy with
      | [], [], _, _, _ => simp [leq]
      | e :: x', [], hl, gx, gy =>
        have h0 : leq (e :: x') [] = false := by
          have := gx.first
          rw [leq_cons, show decide (e.2 ≤ get [] e.1) = false from decide_eq_false (by simp only [get]; omega)]; rfl
        simp only []
        rw [ih a true x' [] (by simp at hl ⊢; omega) gx.tail gy, h0]
        simp [leq]
      | [], d :: y', hl, gx, gy =>
        have h0 : leq (d :: y') [] = false := by
          have := gy.first
          rw [leq_cons, show decide (d.2 ≤ get [] d.1) = false from decide_eq_false (by simp only [get]; omega)]; rfl
        simp only []
        rw [ih true b [] y' (by simp at hl ⊢; omega) gx gy.tail, h0]
        simp [leq]
      | e :: x', d :: y', hl, gx, gy =>
        simp only []
        by_cases h1 : less e.1 d.1 = true
        · rw [if_pos h1, ih a true x' (d :: y') (by simp at hl ⊢; omega) gx.tail gy]
          have hd : ∀ f ∈ d :: y', e.1 ≠ f.1 := by
            intro f hf
            rcases List.mem_cons.1 hf with rfl | hf
            · exact less_ne h1
            · exact less_ne (less_trans h1 (gy.head f hf))
          rw [leq_skip hd, leq_cons e, get_absent (fun f hf => (hd f hf).symm)]
          have := gx.first
          have hz : decide (e.2 ≤ 0) = false := by simp; omega
          simp [hz]
        · rw [if_neg h1]
          by_cases h2 : less d.1 e.1 = true
          · rw [if_pos h2, ih true b (e :: x') y' (by simp at hl ⊢; omega) gx gy.tail]
            have hd : ∀ f ∈ e :: x', d.1 ≠ f.1 := by
              intro f hf
              rcases List.mem_cons.1 hf with rfl | hf
              · exact less_ne h2
              · exact less_ne (less_trans h2 (gx.head f hf))
            rw [leq_skip hd, leq_cons d, get_absent (fun f hf => (hd f hf).symm)]
            have := gy.first
            have hz : decide (d.2 ≤ 0) = false := by simp; omega
            simp [hz]
          · rw [if_neg h2, ih _ _ x' y' (by simp at hl ⊢; omega) gx.tail gy.tail]
            have he : e.1 = d.1 := less_tri (by simpa using h1) (by simpa using h2)
            rw [leq_cons e, leq_cons d, leq_skip (d := d) (fun f hf => by rw [← he]; exact less_ne (gx.head f hf)), leq_skip (d := e) (fun f hf => by rw [he]; exact less_ne (gy.head f hf))]
            rw [get, if_pos he, get, if_pos he.symm]
            by_cases k1 : e.2 < d.2 <;> by_cases k2 : d.2 < e.2 <;> simp [k1, k2] <;> first | omega | skip
            · have : e.2 ≤ d.2 := by omega
              have : ¬ d.2 ≤ e.2 := by omega
              simp [*]
            · have : d.2 ≤ e.2 := by omega
              have : ¬ e.2 ≤ d.2 := by omega
              simp [*]
            · have : d.2 ≤ e.2 := by omega
              have : e.2 ≤ d.2 := by omega
              simp [*]

/-- Compare's answer off the two. -/
def rel (p : Bool × Bool) : Int := if p.1 = true then (if p.2 = true then 0 else 1) else (if p.2 = true then 2 else 3)

/-- merge. -/
def mrg : Nat → List Ent → List Ent → List Ent
  | 0, _, _ => []
  | _ + 1, [], [] => []
  | f + 1, e :: x', [] => e :: mrg f x' []
  | f + 1, [], d :: y' => d :: mrg f [] y'
  | f + 1, e :: x', d :: y' => if less e.1 d.1 = true then e :: mrg f x' (d :: y') else if less d.1 e.1 = true then d :: mrg f (e :: x') y' else (e.1, max e.2 d.2) :: mrg f x' y'

theorem mrg_mem : ∀ (f : Nat) (x y : List Ent) (e : Ent), e ∈ mrg f x y → (∃ d ∈ x, d.1 = e.1) ∨ (∃ d ∈ y, d.1 = e.1) := by
  intro f
  induction f with
  | zero => intro x y e h; simp [mrg] at h
  | succ f ih =>
    intro x y e h
    match x, y, h with
    | [], [], h => simp [mrg] at h
    | a :: x', [], h =>
      rw [mrg] at h
      rcases List.mem_cons.1 h with rfl | h
      · exact .inl ⟨_, List.mem_cons_self, rfl⟩
      · rcases ih _ _ _ h with ⟨d, hd, h1⟩ | ⟨d, hd, _⟩
        · exact .inl ⟨d, List.mem_cons_of_mem _ hd, h1⟩
        · cases hd
    | [], b :: y', h =>
      rw [mrg] at h
      rcases List.mem_cons.1 h with rfl | h
      · exact .inr ⟨_, List.mem_cons_self, rfl⟩
      · rcases ih _ _ _ h with ⟨d, hd, _⟩ | ⟨d, hd, h1⟩
        · cases hd
        · exact .inr ⟨d, List.mem_cons_of_mem _ hd, h1⟩
    | a :: x', b :: y', h =>
      rw [mrg] at h
      split at h
      · rcases List.mem_cons.1 h with rfl | h
        · exact .inl ⟨_, List.mem_cons_self, rfl⟩
        · rcases ih _ _ _ h with ⟨d, hd, h1⟩ | ⟨d, hd, h1⟩
          · exact .inl ⟨d, List.mem_cons_of_mem _ hd, h1⟩
          · exact .inr ⟨d, hd, h1⟩
      · split at h
        · rcases List.mem_cons.1 h with rfl | h
          · exact .inr ⟨_, List.mem_cons_self, rfl⟩
          · rcases ih _ _ _ h with ⟨d, hd, h1⟩ | ⟨d, hd, h1⟩
            · exact .inl ⟨d, hd, h1⟩
            · exact .inr ⟨d, List.mem_cons_of_mem _ hd, h1⟩
        · rcases List.mem_cons.1 h with rfl | h
          · exact .inl ⟨a, List.mem_cons_self, rfl⟩
          · rcases ih _ _ _ h with ⟨d, hd, h1⟩ | ⟨d, hd, h1⟩
            · exact .inl ⟨d, List.mem_cons_of_mem _ hd, h1⟩
            · exact .inr ⟨d, List.mem_cons_of_mem _ hd, h1⟩

theorem mrg_len : ∀ (f : Nat) (x y : List Ent), (mrg f x y).length ≤ x.length + y.length := by
  intro f
  induction f with
  | zero => intro x y; simp [mrg]
  | succ f ih =>
    intro x y
    match x, y with
    | [], [] => simp [mrg]
    | a :: x', [] => have := ih x' []; simp [mrg] at this ⊢; omega
    | [], b :: y' => have := ih [] y'; simp [mrg] at this ⊢; omega
    | a :: x', b :: y' =>
      rw [mrg]
      split
      · have := ih x' (b :: y'); simp at this ⊢; omega
      · split
        · have := ih (a :: x') y'; simp at this ⊢; omega
        · have := ih x' y'; simp; omega

theorem good_cons {e : Ent} {l : List Ent} (hp : 0 < e.2) (hl : ∀ d ∈ l, less e.1 d.1 = true) (g : Good l) : Good (e :: l) :=
  ⟨List.pairwise_cons.2 ⟨hl, g.srt⟩, fun d hd => by rcases List.mem_cons.1 hd with rfl | hd; exact hp; exact g.pos d hd⟩

theorem mrg_law : ∀ (f : Nat) (x y : List Ent), x.length + y.length ≤ f → Good x → Good y → Good (mrg f x y) ∧ ∀ h, get (mrg f x y) h = max (get x h) (get y h) := by
  intro f
  induction f with
  | zero =>
    intro x y hl _ _
    have hx : x = [] := List.length_eq_zero_iff.1 (by omega)
    have hy : y = [] := List.length_eq_zero_iff.1 (by omega)
    subst hx hy
    exact ⟨good_nil, fun h => by simp [mrg, get]⟩
  | succ f ih =>
    intro x y hl gx gy
    match x, y, hl, gx, gy with
    | [], [], _, _, _ => exact ⟨good_nil, fun h => by simp [mrg, get]⟩
    | e :: x', [], hl, gx, gy =>
      rw [mrg]
      obtain ⟨g1, g2⟩ := ih x' [] (by simp at hl ⊢; omega) gx.tail gy
      refine ⟨good_cons gx.first (fun d hd => ?_) g1, fun h => ?_⟩
      · rcases mrg_mem _ _ _ _ hd with ⟨c, hc, h1⟩ | ⟨c, hc, _⟩
        · rw [← h1]; exact gx.head c hc
        · cases hc
      · have := g2 h
        have hn := get_nonneg gx.tail h
        have hf := gx.first
        simp only [get] at this ⊢
        split
        · omega
        · rw [this]
    | [], d :: y', hl, gx, gy =>
      rw [mrg]
      obtain ⟨g1, g2⟩ := ih [] y' (by simp at hl ⊢; omega) gx gy.tail
      refine ⟨good_cons gy.first (fun e he => ?_) g1, fun h => ?_⟩
      · rcases mrg_mem _ _ _ _ he with ⟨c, hc, _⟩ | ⟨c, hc, h1⟩
        · cases hc
        · rw [← h1]; exact gy.head c hc
      · have := g2 h
        have hn := get_nonneg gy.tail h
        have hf := gy.first
        simp only [get] at this ⊢
        split
        · omega
        · rw [this]
    | e :: x', d :: y', hl, gx, gy =>
      rw [mrg]
      by_cases h1 : less e.1 d.1 = true
      · rw [if_pos h1]
        obtain ⟨g1, g2⟩ := ih x' (d :: y') (by simp at hl ⊢; omega) gx.tail gy
        refine ⟨good_cons gx.first (fun c hc => ?_) g1, fun h => ?_⟩
        · rcases mrg_mem _ _ _ _ hc with ⟨k, hk, hk1⟩ | ⟨k, hk, hk1⟩
          · rw [← hk1]; exact gx.head k hk
          · rw [← hk1]
            rcases List.mem_cons.1 hk with rfl | hk
            · exact h1
            · exact less_trans h1 (gy.head k hk)
        · have g2h := g2 h
          rw [get, get.eq_2 h e x']
          by_cases he : e.1 = h
          · rw [if_pos he, if_pos he]
            have : get (d :: y') h = 0 := get_absent fun k hk => by
              rw [← he]
              rcases List.mem_cons.1 hk with rfl | hk
              · exact (less_ne h1).symm
              · exact (less_ne (less_trans h1 (gy.head k hk))).symm
            rw [this]
            have := gx.first
            omega
          · rw [if_neg he, if_neg he]; exact g2h
      · rw [if_neg h1]
        by_cases h2 : less d.1 e.1 = true
        · rw [if_pos h2]
          obtain ⟨g1, g2⟩ := ih (e :: x') y' (by simp at hl ⊢; omega) gx gy.tail
          refine ⟨good_cons gy.first (fun c hc => ?_) g1, fun h => ?_⟩
          · rcases mrg_mem _ _ _ _ hc with ⟨k, hk, hk1⟩ | ⟨k, hk, hk1⟩
            · rw [← hk1]
              rcases List.mem_cons.1 hk with rfl | hk
              · exact h2
              · exact less_trans h2 (gx.head k hk)
            · rw [← hk1]; exact gy.head k hk
          · have g2h := g2 h
            rw [get, get.eq_2 h d y']
            by_cases he : d.1 = h
            · rw [if_pos he, if_pos he]
              have : get (e :: x') h = 0 := get_absent fun k hk => by
                rw [← he]
                rcases List.mem_cons.1 hk with rfl | hk
                · exact (less_ne h2).symm
                · exact (less_ne (less_trans h2 (gx.head k hk))).symm
              rw [this]
              have := gy.first
              omega
            · rw [if_neg he, if_neg he]; exact g2h
        · rw [if_neg h2]
          have hed : e.1 = d.1 := less_tri (by simpa using h1) (by simpa using h2)
          obtain ⟨g1, g2⟩ := ih x' y' (by simp at hl ⊢; omega) gx.tail gy.tail
          refine ⟨good_cons (by have := gx.first; show 0 < max e.2 d.2; omega) (fun c hc => ?_) g1, fun h => ?_⟩
          · rcases mrg_mem _ _ _ _ hc with ⟨k, hk, hk1⟩ | ⟨k, hk, hk1⟩
            · rw [← hk1]; exact gx.head k hk
            · rw [← hk1]; show less e.1 k.1 = true; rw [hed]; exact gy.head k hk
          · have g2h := g2 h
            rw [get, get.eq_2 h e x', get.eq_2 h d y']
            by_cases he : e.1 = h
            · rw [if_pos he, if_pos he, if_pos (hed ▸ he)]
            · rw [if_neg he, if_neg he, if_neg (hed ▸ he)]; exact g2h

/-- Two good vectors with the same counts are one. -/
theorem good_ext : ∀ (x y : List Ent), Good x → Good y → (∀ h, get x h = get y h) → x = y
  | [], [], _, _, _ => rfl
  | e :: x, [], gx, _, H => by have h1 := H e.1; have := gx.first; simp [get] at h1; omega
  | [], d :: y, _, gy, H => by have h1 := H d.1; have := gy.first; simp [get] at h1; omega
  | e :: x, d :: y, gx, gy, H => by
    have hed : e.1 = d.1 := by
      by_cases h1 : less e.1 d.1 = true
      · have h2 := H e.1
        rw [get, if_pos rfl, get_absent (l := d :: y) (fun k hk => by
          rcases List.mem_cons.1 hk with rfl | hk
          · exact (less_ne h1).symm
          · exact (less_ne (less_trans h1 (gy.head k hk))).symm)] at h2
        have := gx.first; omega
      · by_cases h2 : less d.1 e.1 = true
        · have h3 := H d.1
          rw [get_absent (l := e :: x) (fun k hk => by
            rcases List.mem_cons.1 hk with rfl | hk
            · exact (less_ne h2).symm
            · exact (less_ne (less_trans h2 (gx.head k hk))).symm), get, if_pos rfl] at h3
          have := gy.first; omega
        · exact less_tri (by simpa using h1) (by simpa using h2)
    have hv : e.2 = d.2 := by have := H e.1; rw [get, if_pos rfl, get, if_pos hed.symm] at this; exact this
    have e1 : e = d := Prod.ext hed hv
    have ht : x = y := good_ext x y gx.tail gy.tail fun h => by
      have h1 := H h
      rw [get, get.eq_2 h d y] at h1
      by_cases he : e.1 = h
      · rw [get_absent (l := x) (fun k hk => by rw [← he]; exact (less_ne (gx.head k hk)).symm), get_absent (l := y) (fun k hk => by rw [← he, hed]; exact (less_ne (gy.head k hk)).symm)]
      · rw [if_neg he, if_neg (hed ▸ he)] at h1; exact h1
    rw [e1, ht]

end Go.Proofs.Qxb6604248a.Plain
