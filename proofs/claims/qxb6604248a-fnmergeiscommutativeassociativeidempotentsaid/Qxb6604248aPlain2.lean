/-
  THE PLAIN LAWS, MORE: hosts and counts as two lists; the binary search; the four laws' plain content.
-/
import Derived.Test.Qxb6604248aPlain
namespace Go.Proofs.Qxb6604248a.Plain

/-- Two lists that make a good vector. -/
structure Vec (hs : List ByteArray) (ns : List Int) : Prop where
  len : hs.length = ns.length
  good : Good (hs.zip ns)

/-- The i-th host. -/
def hostAt (hs : List ByteArray) (i : Nat) : ByteArray := hs.getD i ByteArray.empty

/-- The i-th count. -/
def numAt (ns : List Int) (i : Nat) : Int := ns.getD i 0

theorem zip_at {hs : List ByteArray} {ns : List Int} (hl : hs.length = ns.length) {i : Nat} (hi : i < hs.length) : ∃ h : i < (hs.zip ns).length, (hs.zip ns)[i] = (hostAt hs i, numAt ns i) := by
  refine ⟨by simp; omega, ?_⟩
  have : i < ns.length := by omega
  simp [hostAt, numAt, hi, this]

theorem Vec.lt {hs : List ByteArray} {ns : List Int} (v : Vec hs ns) {i j : Nat} (h : i < j) (hj : j < hs.length) : less (hostAt hs i) (hostAt hs j) = true := by
  have hp := List.pairwise_iff_getElem.1 v.good.srt
  obtain ⟨ki, ei⟩ := zip_at v.len (i := i) (by omega)
  obtain ⟨kj, ej⟩ := zip_at v.len (i := j) hj
  have := hp i j ki kj h
  rw [ei, ej] at this
  exact this

theorem Vec.pos {hs : List ByteArray} {ns : List Int} (v : Vec hs ns) {i : Nat} (hi : i < hs.length) : 0 < numAt ns i := by
  obtain ⟨ki, ei⟩ := zip_at v.len (i := i) hi
  have := v.good.pos _ (List.getElem_mem ki)
  rw [ei] at this
  exact this

theorem Vec.getAt {hs : List ByteArray} {ns : List Int} (v : Vec hs ns) {i : Nat} (hi : i < hs.length) : get (hs.zip ns) (hostAt hs i) = numAt ns i := by
  obtain ⟨ki, ei⟩ := zip_at v.len (i := i) hi
  have := get_mem v.good (List.getElem_mem ki)
  rw [ei] at this
  exact this

theorem vec_of {hs : List ByteArray} {ns : List Int} (hl : hs.length = ns.length) (h0 : ∀ n ∈ ns, 0 ≤ n) (h1 : ∀ i, i < ns.length → numAt ns i ≠ 0) (h2 : ∀ i, 0 < i → i < ns.length → less (hostAt hs (i - 1)) (hostAt hs i) = true) : Vec hs ns := by
  have key : ∀ d i, i + d + 1 < hs.length → less (hostAt hs i) (hostAt hs (i + d + 1)) = true := by
    intro d
    induction d with
    | zero => intro i hi; have := h2 (i + 1) (by omega) (by omega); simpa using this
    | succ d ih =>
      intro i hi
      have a := ih i (by omega)
      have b := h2 (i + (d + 1) + 1) (by omega) (by omega)
      rw [show i + (d + 1) + 1 - 1 = i + d + 1 from by omega] at b
      exact less_trans a b
  refine ⟨hl, ⟨List.pairwise_iff_getElem.2 fun i j ki kj hij => ?_, fun e he => ?_⟩⟩
  · have kj' : j < hs.length := by simp at kj; omega
    obtain ⟨_, ei⟩ := zip_at hl (i := i) (by omega)
    obtain ⟨_, ej⟩ := zip_at hl (i := j) kj'
    rw [ei, ej]
    have := key (j - i - 1) i (by omega)
    rw [show i + (j - i - 1) + 1 = j from by omega] at this
    exact this
  · obtain ⟨i, ki, ei⟩ := List.getElem_of_mem he
    have ki' : i < hs.length := by simp at ki; omega
    obtain ⟨_, ej⟩ := zip_at hl (i := i) ki'
    rw [ej] at ei
    subst ei
    have a := h1 i (by omega)
    have b := h0 (numAt ns i) (by
      have : i < ns.length := by omega
      simp [numAt, this])
    show 0 < numAt ns i
    omega

/-- The binary search's step up. -/
theorem search_up {hs : List ByteArray} {ns : List Int} (v : Vec hs ns) {host : ByteArray} {m : Nat} (hm : m < hs.length) (h : less (hostAt hs m) host = true) : ∀ i, i < m + 1 → less (hostAt hs i) host = true := by
  intro i hi
  by_cases e : i = m
  · rw [e]; exact h
  · exact less_trans (v.lt (by omega) hm) h

/-- The binary search's step down. -/
theorem search_down {hs : List ByteArray} {ns : List Int} (v : Vec hs ns) {host : ByteArray} {m : Nat} (h : less (hostAt hs m) host = false) : ∀ i, m ≤ i → i < hs.length → less (hostAt hs i) host = false := by
  intro i hi hl
  by_cases e : i = m
  · rw [e]; exact h
  · cases g : less (hostAt hs i) host with
    | false => rfl
    | true => have := less_trans (v.lt (i := m) (j := i) (by omega) hl) g; rw [h] at this; cases this

theorem get_zip_absent {hs : List ByteArray} {ns : List Int} (hl : hs.length = ns.length) {host : ByteArray} (h : ∀ i, i < hs.length → hostAt hs i ≠ host) : get (hs.zip ns) host = 0 := by
  refine get_absent fun e he => ?_
  obtain ⟨i, ki, ei⟩ := List.getElem_of_mem he
  have ki' : i < hs.length := by simp at ki; omega
  obtain ⟨_, ej⟩ := zip_at hl (i := i) ki'
  rw [ej] at ei
  subst ei
  exact h i ki'

/-- What the binary search comes to: found. -/
theorem search_hit {hs : List ByteArray} {ns : List Int} (v : Vec hs ns) {host : ByteArray} {m : Nat} (hm : m < hs.length) (h : hostAt hs m = host) : get (hs.zip ns) host = numAt ns m := by
  rw [← h]; exact v.getAt hm

/-- Not found. -/
theorem search_miss {hs : List ByteArray} {ns : List Int} (v : Vec hs ns) {host : ByteArray} {m : Nat} (h1 : ∀ i, i < m → less (hostAt hs i) host = true) (h2 : ∀ i, m ≤ i → i < hs.length → less (hostAt hs i) host = false)
    (h : m < hs.length → hostAt hs m ≠ host) : get (hs.zip ns) host = 0 := by
  refine get_zip_absent v.len fun i hi => ?_
  by_cases a : i < m
  · exact less_ne (h1 i a)
  · by_cases e : i = m
    · subst e; exact h hi
    · intro e2
      have hm : m < hs.length := by omega
      have l1 := v.lt (i := m) (j := i) (by omega) hi
      rw [e2] at l1
      rw [h2 m (by omega) hm] at l1
      cases l1

theorem zip_parts (es : List Ent) : (es.map (·.1)).zip (es.map (·.2)) = es := by
  induction es with
  | nil => rfl
  | cons e r ih => simp [ih]

theorem vec_parts {es : List Ent} (g : Good es) : Vec (es.map (·.1)) (es.map (·.2)) := ⟨by simp, by rw [zip_parts]; exact g⟩

/-- The merge of two good vectors. -/
def mg (x y : List Ent) : List Ent := mrg (x.length + y.length) x y

theorem mg_good {x y : List Ent} (gx : Good x) (gy : Good y) : Good (mg x y) := (mrg_law _ x y (Nat.le_refl _) gx gy).1
theorem mg_get {x y : List Ent} (gx : Good x) (gy : Good y) (h : ByteArray) : get (mg x y) h = max (get x h) (get y h) := (mrg_law _ x y (Nat.le_refl _) gx gy).2 h
theorem mg_len (x y : List Ent) : (mg x y).length ≤ x.length + y.length := mrg_len _ _ _

/-- Compare's answer on two good vectors. -/
def cmpOf (x y : List Ent) : Int := rel (cmp (x.length + y.length) false false x y)

theorem cmpOf_eq {x y : List Ent} (gx : Good x) (gy : Good y) : cmpOf x y = rel (!leq y x, !leq x y) := by
  unfold cmpOf
  rw [cmp_eq _ _ _ x y (Nat.le_refl _) gx gy]; simp

/-- atMost: Before or Equal. -/
def atm (r : Int) : Bool := r == 1 || r == 3

theorem atm_cmp {x y : List Ent} (gx : Good x) (gy : Good y) : atm (cmpOf x y) = leq x y := by
  rw [cmpOf_eq gx gy]
  cases leq x y <;> cases leq y x <;> rfl

theorem eq_cmp {x y : List Ent} (gx : Good x) (gy : Good y) : (cmpOf x y == 3) = (leq x y && leq y x) := by
  rw [cmpOf_eq gx gy]
  cases leq x y <;> cases leq y x <;> rfl

/-- The law FnCompareMatchesPointwiseOrder's end. -/
def want (ab ba : Bool) : Int := if ab = true ∧ ba = true then 3 else if ab = true then 1 else if ba = true then 2 else 0

theorem cmp_want {x y : List Ent} (gx : Good x) (gy : Good y) : cmpOf x y = want (leq x y) (leq y x) := by
  rw [cmpOf_eq gx gy]
  cases leq x y <;> cases leq y x <;> rfl

/-- The law FnMergeIsLeastUpperBound. -/
theorem leq_mg_left {x y : List Ent} (gx : Good x) (gy : Good y) : leq x (mg x y) = true := (leq_get gx (mg_good gx gy)).2 fun h => by rw [mg_get gx gy]; omega
theorem leq_mg_right {x y : List Ent} (gx : Good x) (gy : Good y) : leq y (mg x y) = true := (leq_get gy (mg_good gx gy)).2 fun h => by rw [mg_get gx gy]; omega
theorem leq_mg_back {x y : List Ent} (gx : Good x) (gy : Good y) : leq (mg x y) x = leq y x := by
  rw [Bool.eq_iff_iff, leq_get (mg_good gx gy) gx, leq_get gy gx]
  constructor
  · intro H h; have := H h; rw [mg_get gx gy] at this; omega
  · intro H h; have := H h; rw [mg_get gx gy]; omega
theorem leq_mg_least {x y z : List Ent} (gx : Good x) (gy : Good y) (gz : Good z) (h1 : leq x z = true) (h2 : leq y z = true) : leq (mg x y) z = true := by
  rw [leq_get (mg_good gx gy) gz]
  intro h
  have a := (leq_get gx gz).1 h1 h
  have b := (leq_get gy gz).1 h2 h
  rw [mg_get gx gy]; omega

/-- The law FnMergeIsCommutativeAssociativeIdempotent. -/
theorem mg_comm {x y : List Ent} (gx : Good x) (gy : Good y) : mg x y = mg y x :=
  good_ext _ _ (mg_good gx gy) (mg_good gy gx) fun h => by rw [mg_get gx gy, mg_get gy gx]; omega
theorem mg_assoc {x y z : List Ent} (gx : Good x) (gy : Good y) (gz : Good z) : mg (mg x y) z = mg x (mg y z) :=
  good_ext _ _ (mg_good (mg_good gx gy) gz) (mg_good gx (mg_good gy gz)) fun h => by rw [mg_get (mg_good gx gy) gz, mg_get gx gy, mg_get gx (mg_good gy gz), mg_get gy gz]; omega
theorem mg_idem {x : List Ent} (gx : Good x) : mg x x = x :=
  good_ext _ _ (mg_good gx gx) gx fun h => by rw [mg_get gx gx]; omega

end Go.Proofs.Qxb6604248a.Plain
