/-
  THE WALK of Compare (14).
-/
import Derived.Test.Qxb6604248aLookup
import Derived.Deep.QuietTactic
import Derived.BigQuiet
namespace Go.Proofs.Qxb6604248a
open Go.RowKit Plain

/-- What holds at the head of Compare's rounds. -/
structure CmpI (w0 w : World) (R : Bool × Bool) (a b : Bool) (xs ys : List Ent) (ax ay : Option Addr) (p q : Nat) : Prop where
  lx : xs.length = p
  ly : ys.length = q
  vx : RowV w ax (ents xs)
  vy : RowV w ay (ents ys)
  fn : ∃ f, p + q ≤ f ∧ cmp f a b xs ys = R
  bel : Below w0.heap.size w0 w

theorem CmpI.drewN {w0 w : World} {R : Bool × Bool} {a b : Bool} {xs ys : List Ent} {ax ay : Option Addr} {p q : Nat} (h : CmpI w0 w R a b xs ys ax ay p q) (k : Nat) : CmpI w0 (w.drewN k) R a b xs ys ax ay p q :=
  ⟨h.lx, h.ly, h.vx.drewN k, h.vy.drewN k, h.fn, below_drewN h.bel k⟩

theorem cmp_both (f : Nat) (x y : List Ent) : cmp f true true x y = (true, true) := by
  cases f <;> simp [cmp]
theorem cmp_end (f : Nat) (a b : Bool) : cmp f a b [] [] = (a, b) := by
  cases f <;> simp [cmp]

/-- The slice behind its first element: at the capacity's end the model keeps the address. -/
theorem tail_view {w : World} {b o c : Nat} {r : List Ent} (h : RowV w (some ⟨b, o + 2, none⟩) (ents r)) (hl : r.length + 1 ≤ c) : RowV w (if c = 1 then some ⟨b, o, none⟩ else some ⟨b, o + 2, none⟩) (ents r) := by
  split
  · have : r = [] := List.length_eq_zero_iff.1 (by omega)
    subst this
    exact rowV_nil _ _
  · exact h

theorem CmpI.left {w0 w : World} {R : Bool × Bool} {a b : Bool} {x : Ent} {xs ys : List Ent} {ax ay ax' : Option Addr} {p q : Nat} (h : CmpI w0 w R a b (x :: xs) ys ax ay p q) (hab : ¬ (a = true ∧ b = true))
    (hc : ys = [] ∨ ∃ y ys', ys = y :: ys' ∧ less x.1 y.1 = true) (hv : RowV w ax' (ents xs)) : CmpI w0 w R a true xs ys ax' ay (p - 1) q := by
  have hp := h.lx
  simp only [List.length_cons] at hp
  refine ⟨by omega, h.ly, hv, h.vy, ?_, h.bel⟩
  obtain ⟨f, hf, hR⟩ := h.fn
  obtain ⟨g, rfl⟩ : ∃ g, f = g + 1 := ⟨f - 1, by omega⟩
  refine ⟨g, by omega, ?_⟩
  rw [cmp.eq_def] at hR
  simp only [Bool.and_eq_true] at hR
  rw [if_neg hab] at hR
  rcases hc with rfl | ⟨y, ys', rfl, hl⟩
  · exact hR
  · simp only at hR; rw [if_pos hl] at hR; exact hR

theorem CmpI.right {w0 w : World} {R : Bool × Bool} {a b : Bool} {y : Ent} {xs ys : List Ent} {ax ay ay' : Option Addr} {p q : Nat} (h : CmpI w0 w R a b xs (y :: ys) ax ay p q) (hab : ¬ (a = true ∧ b = true))
    (hc : xs = [] ∨ ∃ x xs', xs = x :: xs' ∧ less x.1 y.1 = false ∧ less y.1 x.1 = true) (hv : RowV w ay' (ents ys)) : CmpI w0 w R true b xs ys ax ay' p (q - 1) := by
  have hp := h.ly
  simp only [List.length_cons] at hp
  refine ⟨h.lx, by omega, h.vx, hv, ?_, h.bel⟩
  obtain ⟨f, hf, hR⟩ := h.fn
  obtain ⟨g, rfl⟩ : ∃ g, f = g + 1 := ⟨f - 1, by omega⟩
  refine ⟨g, by omega, ?_⟩
  rw [cmp.eq_def] at hR
  simp only [Bool.and_eq_true] at hR
  rw [if_neg hab] at hR
  rcases hc with rfl | ⟨x, xs', rfl, hn, hl⟩
  · exact hR
  · simp only at hR; rw [if_neg (by rw [hn]; simp), if_pos hl] at hR; exact hR

theorem CmpI.same {w0 w : World} {R : Bool × Bool} {a b : Bool} {x y : Ent} {xs ys : List Ent} {ax ay ax' ay' : Option Addr} {p q : Nat} (h : CmpI w0 w R a b (x :: xs) (y :: ys) ax ay p q) (hab : ¬ (a = true ∧ b = true))
    (h1 : less x.1 y.1 = false) (h2 : less y.1 x.1 = false) (hv : RowV w ax' (ents xs)) (hv' : RowV w ay' (ents ys)) : CmpI w0 w R (a || decide (x.2 < y.2)) (b || decide (y.2 < x.2)) xs ys ax' ay' (p - 1) (q - 1) := by
  have hp := h.lx
  have hq := h.ly
  simp only [List.length_cons] at hp hq
  refine ⟨by omega, by omega, hv, hv', ?_, h.bel⟩
  obtain ⟨f, hf, hR⟩ := h.fn
  obtain ⟨g, rfl⟩ : ∃ g, f = g + 1 := ⟨f - 1, by omega⟩
  refine ⟨g, by omega, ?_⟩
  rw [cmp.eq_def] at hR
  simp only [Bool.and_eq_true] at hR
  rw [if_neg hab] at hR
  rw [if_neg (by rw [h1]; simp), if_neg (by rw [h2]; simp)] at hR; exact hR

set_option maxRecDepth 10000 in
set_option maxHeartbeats 4000000 in
theorem compare_any (X Y : List Ent) (n m : Nat) (ax ay : Option Addr) (cx cy : Nat) (w : World) (hx : RowV w ax (ents X)) (hy : RowV w ay (ents Y)) (l1 : Hid (X.length = n)) (l2 : Hid (Y.length = m)) (n1 : n ≤ 2097152) (n2 : m ≤ 2097152) (k1 : n ≤ cx) (k2 : m ≤ cy) :
    Calls Try.prog 14 #[.agg #[.slice ax n cx], .agg #[.slice ay m cy]] w fun e w' => e = .returned (.int .i64 (cmpOf X Y)) ∧ Below w.heap.size w w' := by
  have hb : Below w.heap.size w ((w.alloc (Obj.cells #[Value.slice ax n cx] 33)).alloc (Obj.cells #[Value.slice ay m cy] 33)) := ((Below.refl _ _).alloc (Nat.le_refl _) _).alloc (by simp) _
  have I0 : CmpI w ((w.alloc (Obj.cells #[Value.slice ax n cx] 33)).alloc (Obj.cells #[Value.slice ay m cy] 33)) (cmp (n + m) false false X Y) false false X Y ax ay n m := ⟨l1.out, l2.out, hx.below hb, hy.below hb, ⟨_, Nat.le_refl _, rfl⟩, hb⟩
  have HR : Hid (cmpOf X Y = rel (cmp (n + m) false false X Y)) := by unfold cmpOf; rw [l1.out, l2.out]; exact rfl
  generalize cmp (n + m) false false X Y = R at I0 HR
  clear hb
  go_enter Try.func14, Try.ntmps14
  go_wp2
  go_quiet (fail)
  go_wp2
  go_loopw [5, 6, 7, 8] (fun s5 s6 s7 s8 wr => ∃ (a b : Bool) (xs ys : List Ent) (ax ay : Option Addr) (p q cx cy : Nat), s5 = .bool a ∧ s6 = .bool b ∧ s7 = .slice ax p cx ∧ s8 = .slice ay q cy ∧ p ≤ cx ∧ q ≤ cy ∧ p ≤ 2097152 ∧ q ≤ 2097152 ∧ CmpI w wr R a b xs ys ax ay p q)
    (fun _ _ s7 s8 _ => (match s7 with | .slice _ p _ => p | _ => 0) + (match s8 with | .slice _ p _ => p | _ => 0))
  case atStart => exact ⟨false, false, X, Y, ax, ay, n, m, cx, cy, rfl, rfl, rfl, rfl, k1, k2, n1, n2, I0.drewN _⟩
  case round =>
    clear I0 hx hy l1 l2 n1 n2 k1 k2
    obtain ⟨a, b, xs, ys, ax, ay, p, q, cx, cy, rfl, rfl, rfl, rfl, k1, k2, n1, n2, I⟩ := hrel
    by_cases hab : a = true ∧ b = true
    · obtain ⟨rfl, rfl⟩ := hab
      have hR : Hid (rel R = 0) := by obtain ⟨f, _, hf⟩ := I.fn; rw [cmp_both] at hf; rw [← hf]; exact rfl
      by_cases c1 : 0 < p
      · go_wp2
        go_ret
        exact ⟨ret_int (by rw [HR.out, hR.out]), I.bel⟩
      · by_cases c2 : 0 < q
        · go_wp2
          go_ret
          exact ⟨ret_int (by rw [HR.out, hR.out]), I.bel⟩
        · go_wp2
          go_ret
          exact ⟨ret_int (by rw [HR.out, hR.out]), I.bel⟩
    · rcases xs with _ | ⟨x, xs'⟩
      · rcases ys with _ | ⟨y, ys'⟩
        · obtain rfl : 0 = p := I.lx
          obtain rfl : 0 = q := I.ly
          have hR : Hid (R = (a, b)) := by obtain ⟨f, _, hf⟩ := I.fn; rw [cmp_end] at hf; exact hf.symm
          cases a <;> cases b
          all_goals
            go_wp2
            go_ret
            exact ⟨ret_int (by rw [HR.out, hR.out]; exact rfl), I.bel⟩
        · obtain rfl : 0 = p := I.lx
          have hq : 0 < q := by rw [← I.ly]; simp
          have hq0 : ((q : Int) == 0) = false := beq_eq_false_iff_ne.2 (by omega)
          obtain ⟨b1, o1, rfl, hbs, hc1, hc2, hv⟩ := I.vy.ents
          have J := I.right hab (.inl rfl) (tail_view (c := cy) hv (by have := I.ly; simp only [List.length_cons] at this; omega))
          clear hv I
          cases a <;> cases b
          all_goals try (exact absurd ⟨rfl, rfl⟩ hab)
          all_goals
            clear hab
            go_wp2
            go_quiet (fail)
            go_wp2
            go_quiet (fail)
            go_wp2
            go_roundw
            case rel => exact ⟨_, _, _, _, _, _, _, _, _, _, rfl, rfl, rfl, rfl, by omega, by omega, by omega, by omega, J.drewN _⟩
            case measure => simp; omega
      · rcases ys with _ | ⟨y, ys'⟩
        · obtain rfl : 0 = q := I.ly
          have hp : 0 < p := by rw [← I.lx]; simp
          have hp0 : ((p : Int) == 0) = false := beq_eq_false_iff_ne.2 (by omega)
          obtain ⟨b1, o1, rfl, hbs, hc1, hc2, hv⟩ := I.vx.ents
          have J := I.left hab (.inl rfl) (tail_view (c := cx) hv (by have := I.lx; simp only [List.length_cons] at this; omega))
          clear hv I
          cases a <;> cases b
          all_goals try (exact absurd ⟨rfl, rfl⟩ hab)
          all_goals
            clear hab
            go_wp2
            go_quiet (fail)
            go_wp2
            go_roundw
            case rel => exact ⟨_, _, _, _, _, _, _, _, _, _, rfl, rfl, rfl, rfl, by omega, by omega, by omega, by omega, J.drewN _⟩
            case measure => simp; omega
        · have hq : 0 < q := by rw [← I.ly]; simp
          have hq0 : ((q : Int) == 0) = false := beq_eq_false_iff_ne.2 (by omega)
          have hp : 0 < p := by rw [← I.lx]; simp
          have hp0 : ((p : Int) == 0) = false := beq_eq_false_iff_ne.2 (by omega)
          obtain ⟨b1, o1, rfl, hbs, hc1, hc2, hv⟩ := I.vx.ents
          obtain ⟨b2, o2, rfl, hbs2, hd1, hd2, hv2⟩ := I.vy.ents
          replace hv := tail_view (c := cx) hv (by have := I.lx; simp only [List.length_cons] at this; omega)
          replace hv2 := tail_view (c := cy) hv2 (by have := I.ly; simp only [List.length_cons] at this; omega)
          by_cases e1 : less x.1 y.1 = true
          · have J := I.left hab (.inr ⟨y, ys', rfl, e1⟩) hv
            have t1 : Op.bytesLess x.1.toList y.1.toList = true := e1
            clear hv hv2 I e1
            cases a <;> cases b
            all_goals try (exact absurd ⟨rfl, rfl⟩ hab)
            all_goals
              clear hab
              go_wp2
              go_quiet (fail)
              go_wp2
              go_roundw
              case rel => exact ⟨_, _, _, _, _, _, _, _, _, _, rfl, rfl, rfl, rfl, by omega, by omega, by omega, by omega, J.drewN _⟩
              case measure => simp; omega
          · replace e1 : less x.1 y.1 = false := by simpa using e1
            have t1 : Op.bytesLess x.1.toList y.1.toList = false := e1
            by_cases e2 : less y.1 x.1 = true
            · have J := I.right hab (.inr ⟨x, xs', rfl, e1, e2⟩) hv2
              have t2 : Op.bytesLess y.1.toList x.1.toList = true := e2
              clear hv hv2 I e1 e2
              cases a <;> cases b
              all_goals try (exact absurd ⟨rfl, rfl⟩ hab)
              all_goals
                clear hab
                go_wp2
                go_quiet (fail)
                go_wp2
                go_quiet (fail)
                go_wp2
                go_roundw
                case rel => exact ⟨_, _, _, _, _, _, _, _, _, _, rfl, rfl, rfl, rfl, by omega, by omega, by omega, by omega, J.drewN _⟩
                case measure => simp; omega
            · replace e2 : less y.1 x.1 = false := by simpa using e2
              have t2 : Op.bytesLess y.1.toList x.1.toList = false := e2
              have J := I.same hab e1 e2 hv hv2
              clear hv hv2 I e1 e2
              cases a <;> cases b
              all_goals try (exact absurd ⟨rfl, rfl⟩ hab)
              all_goals
                clear hab
                go_wp2
                go_quiet (fail)
                go_wp2
                go_quiet (fail)
                go_wp2
                go_quiet (fail)
                go_wp2
                go_quiet (fail)
                go_wp2
                go_quiet (fail)
                go_wp2
                go_roundw
                case rel => exact ⟨_, _, _, _, _, _, _, _, _, _, rfl, rfl, rfl, rfl, by omega, by omega, by omega, by omega, ((((J.drewN _).drewN _).drewN _).drewN _).drewN _⟩
                case measure => simp; omega

end Go.Proofs.Qxb6604248a
