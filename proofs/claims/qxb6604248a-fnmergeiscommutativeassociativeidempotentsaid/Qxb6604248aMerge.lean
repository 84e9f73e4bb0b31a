/-
  THE WALKS of slices.Clip (32), merge (30), ZZmerge (18).
-/
import Derived.Test.Qxb6604248aCompare
import Derived.Test.Qxb6604248aVector
namespace Go.Proofs.Qxb6604248a
open Go.RowKit Plain

set_option maxRecDepth 100000 in
set_option maxHeartbeats 400000 in
theorem clip_any (g n c : Nat) (w : World) (h : n ≤ c) : Calls Try.prog 32 #[.slice (some ⟨g, 0, none⟩) n c] w fun e w' => e = .returned (.slice (some ⟨g, 0, none⟩) n n) ∧ w' = w := by
  go_enter Try.func32, Try.ntmps32
  go_wp2
  go_ret
  exact ⟨rfl, rfl⟩

/-- What holds at the head of merge's rounds. -/
structure MrgI (w0 w : World) (R : List Ent) (g N : Nat) (xs ys zs : List Ent) (ax ay : Option Addr) (p q r : Nat) : Prop where
  lx : xs.length = p
  ly : ys.length = q
  vx : RowV w0 ax (ents xs)
  vy : RowV w0 ay (ents ys)
  own : w.ownsRow g 47 2 (.slice (some ⟨g, 0, none⟩) r N) r (ents zs)
  fn : ∃ f, p + q ≤ f ∧ zs ++ mrg f xs ys = R
  bel : Below w0.heap.size w0 w

theorem MrgI.drewN {w0 w : World} {R : List Ent} {g N : Nat} {xs ys zs : List Ent} {ax ay : Option Addr} {p q r : Nat} (h : MrgI w0 w R g N xs ys zs ax ay p q r) (k : Nat) : MrgI w0 (w.drewN k) R g N xs ys zs ax ay p q r :=
  ⟨h.lx, h.ly, h.vx, h.vy, h.own, h.fn, below_drewN h.bel k⟩

theorem MrgI.left {w0 w w' : World} {R : List Ent} {g N : Nat} {x : Ent} {xs ys zs : List Ent} {ax ay ax' : Option Addr} {p q r : Nat} (h : MrgI w0 w R g N (x :: xs) ys zs ax ay p q r)
    (hc : ys = [] ∨ ∃ y ys', ys = y :: ys' ∧ less x.1 y.1 = true) (hv : RowV w0 ax' (ents xs)) (own : w'.ownsRow g 47 2 (.slice (some ⟨g, 0, none⟩) (r + 1) N) (r + 1) (ents zs ++ [.string x.1, .int .u64 x.2])) (bel : Below w0.heap.size w0 w') :
    MrgI w0 w' R g N xs ys (zs ++ [x]) ax' ay (p - 1) q (r + 1) := by
  have hp := h.lx
  simp only [List.length_cons] at hp
  refine ⟨by omega, h.ly, hv, h.vy, by rw [show x = (x.1, x.2) from rfl, ents_snoc]; exact own, ?_, bel⟩
  obtain ⟨f, hf, hR⟩ := h.fn
  obtain ⟨k, rfl⟩ : ∃ k, f = k + 1 := ⟨f - 1, by omega⟩
  refine ⟨k, by omega, ?_⟩
  rcases hc with rfl | ⟨y, ys', rfl, hl⟩
  · rw [mrg] at hR; rw [← hR]; simp
  · rw [mrg, if_pos hl] at hR; rw [← hR]; simp

theorem MrgI.right {w0 w w' : World} {R : List Ent} {g N : Nat} {y : Ent} {xs ys zs : List Ent} {ax ay ay' : Option Addr} {p q r : Nat} (h : MrgI w0 w R g N xs (y :: ys) zs ax ay p q r)
    (hc : xs = [] ∨ ∃ x xs', xs = x :: xs' ∧ less x.1 y.1 = false ∧ less y.1 x.1 = true) (hv : RowV w0 ay' (ents ys)) (own : w'.ownsRow g 47 2 (.slice (some ⟨g, 0, none⟩) (r + 1) N) (r + 1) (ents zs ++ [.string y.1, .int .u64 y.2])) (bel : Below w0.heap.size w0 w') :
    MrgI w0 w' R g N xs ys (zs ++ [y]) ax ay' p (q - 1) (r + 1) := by
  have hp := h.ly
  simp only [List.length_cons] at hp
  refine ⟨h.lx, by omega, h.vx, hv, by rw [show y = (y.1, y.2) from rfl, ents_snoc]; exact own, ?_, bel⟩
  obtain ⟨f, hf, hR⟩ := h.fn
  obtain ⟨k, rfl⟩ : ∃ k, f = k + 1 := ⟨f - 1, by omega⟩
  refine ⟨k, by omega, ?_⟩
  rcases hc with rfl | ⟨x, xs', rfl, hn, hl⟩
  · rw [mrg] at hR; rw [← hR]; simp
  · rw [mrg, if_neg (by rw [hn]; simp), if_pos hl] at hR; rw [← hR]; simp

theorem MrgI.same {w0 w w' : World} {R : List Ent} {g N : Nat} {x y : Ent} {xs ys zs : List Ent} {ax ay ax' ay' : Option Addr} {p q r : Nat} (h : MrgI w0 w R g N (x :: xs) (y :: ys) zs ax ay p q r)
    (h1 : less x.1 y.1 = false) (h2 : less y.1 x.1 = false) (hv : RowV w0 ax' (ents xs)) (hv' : RowV w0 ay' (ents ys)) (own : w'.ownsRow g 47 2 (.slice (some ⟨g, 0, none⟩) (r + 1) N) (r + 1) (ents zs ++ [.string x.1, .int .u64 (max x.2 y.2)])) (bel : Below w0.heap.size w0 w') :
    MrgI w0 w' R g N xs ys (zs ++ [(x.1, max x.2 y.2)]) ax' ay' (p - 1) (q - 1) (r + 1) := by
  have hp := h.lx
  have hq := h.ly
  simp only [List.length_cons] at hp hq
  refine ⟨by omega, by omega, hv, hv', by rw [ents_snoc]; exact own, ?_, bel⟩
  obtain ⟨f, hf, hR⟩ := h.fn
  obtain ⟨k, rfl⟩ : ∃ k, f = k + 1 := ⟨f - 1, by omega⟩
  refine ⟨k, by omega, ?_⟩
  rw [mrg, if_neg (by rw [h1]; simp), if_neg (by rw [h2]; simp)] at hR; rw [← hR]; simp

theorem max_if (a b : Int) : (if a < b then b else a) = max a b := by
  rw [Int.max_def]
  by_cases h : a < b
  · rw [if_pos h, if_pos (by omega)]
  · by_cases h2 : a ≤ b
    · rw [if_neg h, if_pos h2]; omega
    · rw [if_neg h, if_neg h2]

theorem three_new (w : World) (x y z : Value) (t : TypeId) (W : World) (hW : W = ((w.alloc (.cells #[x] t)).alloc (.cells #[y] t)).alloc (.cells #[z] t)) :
    W.heap.size = w.heap.size + 1 + 1 + 1 ∧ W.cell? ⟨w.heap.size, 0, none⟩ = some x ∧ W.cell? ⟨w.heap.size + 1, 0, none⟩ = some y ∧ W.cell? ⟨w.heap.size + 1 + 1, 0, none⟩ = some z ∧ W.frozen? ⟨w.heap.size + 1 + 1, 0, none⟩ = false := by
  subst hW
  refine ⟨by simp, ?_, ?_, ?_, ?_⟩
  · rw [World.cell?_alloc_past _ _ _ (by simp; omega), World.cell?_alloc_past _ _ _ (by simp), World.cell?_alloc_at _ _ _ _ rfl]; rfl
  · rw [World.cell?_alloc_past _ _ _ (by simp), World.cell?_alloc_at _ _ _ _ (by simp)]; rfl
  · rw [World.cell?_alloc_at _ _ _ _ (by simp)]; rfl
  · rw [World.frozen?_alloc_at _ _ _ _ (by simp)]

/-- What the law on append leaves, as 'Below'. -/
theorem mrg_bel {w0 w W w2 : World} {g : Nat} (hg : w0.heap.size = g) (bel : Below w0.heap.size w0 w) (hb : Below w.heap.size w W) (hgrow : W.grownBy w2 (some g)) : Below w0.heap.size w0 w2 :=
  (bel.trans (hb.mono bel.size)).grown hgrow (Nat.le_trans bel.size hb.size) (fun k hk => by cases hk; omega)

set_option maxRecDepth 100000 in
set_option maxHeartbeats 8000000 in
theorem merge_any (X Y : List Ent) (n m : Nat) (ax ay : Option Addr) (cx cy : Nat) (w : World) (hx : RowV w ax (ents X)) (hy : RowV w ay (ents Y)) (l1 : Hid (X.length = n)) (l2 : Hid (Y.length = m)) (n1 : n ≤ 1048576) (n2 : m ≤ 1048576) (k1 : n ≤ cx) (k2 : m ≤ cy) :
    Calls Try.prog 30 #[.agg #[.slice ax n cx], .agg #[.slice ay m cy]] w fun e w' => FreshV w (mg X Y) e w' := by
  obtain ⟨i0, hi, hz0, hz1, hz2⟩ := info_parts Try.info47
  go_enter Try.func30, Try.ntmps30
  go_wp2_with (at_make; refine wpList_make_own _ rfl _ _ 31 rfl (w.heap.size + 1 + 1 + 1) 47 i0 _ 2 Try.underlying31 hi hz0 hz1 _ _ _ (n + m) rfl rfl (by omega) (by rw [hz2]; omega) (by unfold maxLen; omega) (by simp) ?_)
  intro w1 hown hgrow
  have hb3 : Below (w.heap.size + 1 + 1 + 1) (((w.alloc (.cells #[.slice ax n cx] 33)).alloc (.cells #[.slice ay m cy] 33)).alloc (.cells #[.slice none 0 0] 33)) w1 := (Below.refl _ _).grown hgrow (by simp) (fun k hk => by cases hk)
  have bw : Below w.heap.size w (((w.alloc (.cells #[.slice ax n cx] 33)).alloc (.cells #[.slice ay m cy] 33)).alloc (.cells #[.slice none 0 0] 33)) := (((Below.refl _ _).alloc (Nat.le_refl _) _).alloc (by simp) _).alloc (by simp; omega) _
  have tn := three_new w (.slice ax n cx) (.slice ay m cy) (.slice none 0 0) 33 _ rfl
  clear hgrow
  generalize ((w.alloc (.cells #[.slice ax n cx] 33)).alloc (.cells #[.slice ay m cy] 33)).alloc (.cells #[.slice none 0 0] 33) = W3 at hb3 bw tn
  have d0 : w1.cell? ⟨w.heap.size, 0, none⟩ = some (.slice ax n cx) := (hb3.cell (p := ⟨w.heap.size, 0, none⟩) (by dsimp only; omega)).trans tn.2.1
  have d1 : w1.cell? ⟨w.heap.size + 1, 0, none⟩ = some (.slice ay m cy) := (hb3.cell (p := ⟨w.heap.size + 1, 0, none⟩) (by dsimp only; omega)).trans tn.2.2.1
  have gS : Hid (W3.heap.size = w.heap.size + 1 + 1 + 1) := tn.1
  have g2 : Hid (W3.cell? ⟨w.heap.size + 1 + 1, 0, none⟩ = some (.slice none 0 0)) := tn.2.2.2.1
  have g3 : Hid (W3.frozen? ⟨w.heap.size + 1 + 1, 0, none⟩ = false) := tn.2.2.2.2
  have I0 : MrgI W3 w1 (mg X Y) (w.heap.size + 1 + 1 + 1) (n + m) X Y [] ax ay n m 0 := ⟨l1.out, l2.out, hx.below bw, hy.below bw, hown, ⟨_, Nat.le_refl _, by unfold mg; rw [l1.out, l2.out]; rfl⟩, by rw [gS.out]; exact hb3⟩
  clear hown hb3 hx hy l1 l2 tn
  go_wp2
  go_quiet (fail)
  go_wp2
  clear d0 d1
  go_loopw [5, 6, 7] (fun s5 s6 s7 wr => ∃ (xs ys zs : List Ent) (ax ay : Option Addr) (p q r cx cy : Nat), s5 = .slice (some ⟨w.heap.size + 1 + 1 + 1, 0, none⟩) r (n + m) ∧ s6 = .slice ax p cx ∧ s7 = .slice ay q cy ∧ p ≤ cx ∧ q ≤ cy ∧ r + p + q ≤ n + m ∧ MrgI W3 wr (mg X Y) (w.heap.size + 1 + 1 + 1) (n + m) xs ys zs ax ay p q r)
    (fun _ s6 s7 _ => (match s6 with | .slice _ p _ => p | _ => 0) + (match s7 with | .slice _ p _ => p | _ => 0))
  case atStart => exact ⟨X, Y, [], ax, ay, n, m, 0, cx, cy, rfl, rfl, rfl, k1, k2, by omega, I0.drewN _⟩
  case round =>
    clear I0 k1 k2
    obtain ⟨xs, ys, zs, ax, ay, p, q, r, cx, cy, rfl, rfl, rfl, k1, k2, kr, I⟩ := hrel
    rcases xs with _ | ⟨x, xs'⟩
    · rcases ys with _ | ⟨y, ys'⟩
      · obtain rfl : 0 = p := I.lx
        obtain rfl : 0 = q := I.ly
        have hcell : wr.cell? ⟨w.heap.size + 1 + 1, 0, none⟩ = some (.slice none 0 0) := (I.bel.cell (p := ⟨w.heap.size + 1 + 1, 0, none⟩) (by rw [gS.out]; dsimp only; omega)).trans g2.out
        have hfz : wr.frozen? ⟨w.heap.size + 1 + 1, 0, none⟩ = false := (I.bel.frozen (p := ⟨w.heap.size + 1 + 1, 0, none⟩) (by rw [gS.out]; dsimp only; omega)).trans g3.out
        have hR : FreshV w (mg X Y) (.returned (.agg #[.slice (some ⟨w.heap.size + 1 + 1 + 1, 0, none⟩) r r])) (wr.setCell ⟨w.heap.size + 1 + 1, 0, none⟩ (.slice (some ⟨w.heap.size + 1 + 1 + 1, 0, none⟩) r r)) := by
          obtain ⟨f, _, hf⟩ := I.fn
          have hz : zs = mg X Y := by rw [← hf]; cases f <;> simp [mrg]
          rw [← hz]
          have hlen := I.own.1
          rw [ents_len] at hlen
          refine ⟨_, _, _, rfl, by omega, Nat.le_refl _, ?_, ?_, fun a ha => by cases ha; dsimp only; omega⟩
          · exact own_row (ownsRow_setCell_below I.own (a := ⟨w.heap.size + 1 + 1, 0, none⟩) (by dsimp only; omega) _)
          · exact (bw.trans (I.bel.mono bw.size)).setCell (by dsimp only; omega) _
        have kr' : r ≤ n + m := by omega
        clear I
        go_wp2_with fail
        refine (clip_any (w.heap.size + 1 + 1 + 1) r (n + m) _ kr').mono ?_
        rintro e w2 ⟨rfl, hw⟩
        subst w2
        go_wp2_with fail
        have hset := World.cell?_setCell_same' wr ⟨w.heap.size + 1 + 1, 0, none⟩ (.slice (some ⟨w.heap.size + 1 + 1 + 1, 0, none⟩) r r) (by rw [hcell]; rfl)
        exact bodyPost_ret (v := .agg #[.slice (some ⟨w.heap.size + 1 + 1 + 1, 0, none⟩) r r]) (by simp [results, Try.results30, go_sem, hset]) rfl hR
      · obtain rfl : 0 = p := I.lx
        have hq : 0 < q := by rw [← I.ly]; simp
        have hq0 : ((q : Int) == 0) = false := beq_eq_false_iff_ne.2 (by omega)
        obtain ⟨b1, o1, rfl, hbs, hc1, hc2, hv⟩ := I.vy.ents
        replace hc1 := (I.bel.cell (p := ⟨b1, o1, none⟩) hbs).trans hc1
        replace hc2 := (I.bel.cell (p := ⟨b1, o1 + 1, none⟩) hbs).trans hc2
        replace hv := tail_view (c := cy) hv (by have := I.ly; simp only [List.length_cons] at this; omega)
        go_wp2
        go_quiet (fail)
        go_wp2
        go_quiet (fail)
        go_wp2_with (at_builtin; refine wpList_append_fits _ rfl (.tmp 92) (.tmp 96) 31 rfl (w.heap.size + 1 + 1 + 1) 47 i0 2 Try.underlying31 hi hz1 (w.heap.size + 1 + 1 + 1) r (n + m) _ rfl (by exact (I.own.alloc _)) ⟨wr.heap.size, 0, none⟩ 1 1 [.string y.1, .int .u64 y.2] rfl rfl (by exact two_new _ _ _ _) (two_one _ _) (by omega) ?_)
        intro w2 hown2 hgrow2
        have J := I.right (.inl rfl) hv hown2 (mrg_bel gS.out I.bel (by first | exact (below_drewN' _ _).alloc (Nat.le_refl _) _ | exact below_drewN ((Below.refl _ _).alloc (Nat.le_refl _) _) _) hgrow2)
        clear hv I hown2 hgrow2 hc1 hc2
        go_wp2
        go_roundw
        case rel => exact ⟨_, _, _, _, _, _, _, _, _, _, rfl, rfl, rfl, by omega, by omega, by omega, J⟩
        case measure => simp; omega
    · rcases ys with _ | ⟨y, ys'⟩
      · obtain rfl : 0 = q := I.ly
        have hp : 0 < p := by rw [← I.lx]; simp
        have hp0 : ((p : Int) == 0) = false := beq_eq_false_iff_ne.2 (by omega)
        obtain ⟨b1, o1, rfl, hbs, hc1, hc2, hv⟩ := I.vx.ents
        replace hc1 := (I.bel.cell (p := ⟨b1, o1, none⟩) hbs).trans hc1
        replace hc2 := (I.bel.cell (p := ⟨b1, o1 + 1, none⟩) hbs).trans hc2
        replace hv := tail_view (c := cx) hv (by have := I.lx; simp only [List.length_cons] at this; omega)
        go_wp2
        go_quiet (fail)
        go_wp2_with (at_builtin; refine wpList_append_fits _ rfl (.tmp 69) (.tmp 73) 31 rfl (w.heap.size + 1 + 1 + 1) 47 i0 2 Try.underlying31 hi hz1 (w.heap.size + 1 + 1 + 1) r (n + m) _ rfl (by exact (I.own.alloc _)) ⟨wr.heap.size, 0, none⟩ 1 1 [.string x.1, .int .u64 x.2] rfl rfl (by exact two_new _ _ _ _) (two_one _ _) (by omega) ?_)
        intro w2 hown2 hgrow2
        have J := I.left (.inl rfl) hv hown2 (mrg_bel gS.out I.bel (by first | exact (below_drewN' _ _).alloc (Nat.le_refl _) _ | exact below_drewN ((Below.refl _ _).alloc (Nat.le_refl _) _) _) hgrow2)
        clear hv I hown2 hgrow2 hc1 hc2
        go_wp2
        go_roundw
        case rel => exact ⟨_, _, _, _, _, _, _, _, _, _, rfl, rfl, rfl, by omega, by omega, by omega, J⟩
        case measure => simp; omega
      · have hq : 0 < q := by rw [← I.ly]; simp
        have hq0 : ((q : Int) == 0) = false := beq_eq_false_iff_ne.2 (by omega)
        have hp : 0 < p := by rw [← I.lx]; simp
        have hp0 : ((p : Int) == 0) = false := beq_eq_false_iff_ne.2 (by omega)
        obtain ⟨b1, o1, rfl, hbs, hc1, hc2, hv⟩ := I.vx.ents
        obtain ⟨b2, o2, rfl, hbs2, hd1, hd2, hv2⟩ := I.vy.ents
        replace hc1 := (I.bel.cell (p := ⟨b1, o1, none⟩) hbs).trans hc1
        replace hc2 := (I.bel.cell (p := ⟨b1, o1 + 1, none⟩) hbs).trans hc2
        replace hd1 := (I.bel.cell (p := ⟨b2, o2, none⟩) hbs2).trans hd1
        replace hd2 := (I.bel.cell (p := ⟨b2, o2 + 1, none⟩) hbs2).trans hd2
        replace hv := tail_view (c := cx) hv (by have := I.lx; simp only [List.length_cons] at this; omega)
        replace hv2 := tail_view (c := cy) hv2 (by have := I.ly; simp only [List.length_cons] at this; omega)
        by_cases e1 : less x.1 y.1 = true
        · have t1 : Op.bytesLess x.1.toList y.1.toList = true := e1
          have E1 : Hid (less x.1 y.1 = true) := e1
          clear e1
          go_wp2
          go_quiet (fail)
          go_wp2_with (at_builtin; refine wpList_append_fits _ rfl (.tmp 69) (.tmp 73) 31 rfl (w.heap.size + 1 + 1 + 1) 47 i0 2 Try.underlying31 hi hz1 (w.heap.size + 1 + 1 + 1) r (n + m) _ rfl (by exact (I.own.alloc _)) ⟨wr.heap.size, 0, none⟩ 1 1 [.string x.1, .int .u64 x.2] rfl rfl (by exact two_new _ _ _ _) (two_one _ _) (by omega) ?_)
          intro w2 hown2 hgrow2
          have J := I.left (.inr ⟨y, ys', rfl, E1.out⟩) hv hown2 (mrg_bel gS.out I.bel (by first | exact (below_drewN' _ _).alloc (Nat.le_refl _) _ | exact below_drewN ((Below.refl _ _).alloc (Nat.le_refl _) _) _) hgrow2)
          clear hv hv2 I hown2 hgrow2 hc1 hc2 hd1 hd2
          go_wp2
          go_roundw
          case rel => exact ⟨_, _, _, _, _, _, _, _, _, _, rfl, rfl, rfl, by omega, by omega, by omega, J⟩
          case measure => simp; omega
        · replace e1 : less x.1 y.1 = false := by simpa using e1
          have t1 : Op.bytesLess x.1.toList y.1.toList = false := e1
          have E1 : Hid (less x.1 y.1 = false) := e1
          clear e1
          by_cases e2 : less y.1 x.1 = true
          · have t2 : Op.bytesLess y.1.toList x.1.toList = true := e2
            have E2 : Hid (less y.1 x.1 = true) := e2
            clear e2
            go_wp2
            go_quiet (fail)
            go_wp2
            go_quiet (fail)
            go_wp2_with (at_builtin; refine wpList_append_fits _ rfl (.tmp 92) (.tmp 96) 31 rfl (w.heap.size + 1 + 1 + 1) 47 i0 2 Try.underlying31 hi hz1 (w.heap.size + 1 + 1 + 1) r (n + m) _ rfl (by exact (I.own.alloc _)) ⟨wr.heap.size, 0, none⟩ 1 1 [.string y.1, .int .u64 y.2] rfl rfl (by exact two_new _ _ _ _) (two_one _ _) (by omega) ?_)
            intro w2 hown2 hgrow2
            have J := I.right (.inr ⟨x, xs', rfl, E1.out, E2.out⟩) hv2 hown2 (mrg_bel gS.out I.bel (by first | exact (below_drewN' _ _).alloc (Nat.le_refl _) _ | exact below_drewN ((Below.refl _ _).alloc (Nat.le_refl _) _) _) hgrow2)
            clear hv hv2 I hown2 hgrow2 hc1 hc2 hd1 hd2
            go_wp2
            go_roundw
            case rel => exact ⟨_, _, _, _, _, _, _, _, _, _, rfl, rfl, rfl, by omega, by omega, by omega, J⟩
            case measure => simp; omega
          · replace e2 : less y.1 x.1 = false := by simpa using e2
            have t2 : Op.bytesLess y.1.toList x.1.toList = false := e2
            have E2 : Hid (less y.1 x.1 = false) := e2
            clear e2
            have hp1 : (1 : Int) ≤ (p : Int) := by omega
            have hq1 : (1 : Int) ≤ (q : Int) := by omega
            by_cases hn : x.2 < y.2
            · have EM : Hid (max x.2 y.2 = y.2) := by rw [← max_if]; exact if_pos hn
              go_wp2
              go_quiet (fail)
              go_wp2
              go_quiet (fail)
              go_wp2
              go_region_law (refine step_append_fits rfl (.tmp 28) (.tmp 43) 31 rfl (w.heap.size + 1 + 1 + 1) 47 i0 2 Try.underlying31 hi hz1 (w.heap.size + 1 + 1 + 1) r (n + m) _ (by simp [Act.eval]) (by exact I.own.alloc _) ⟨wr.heap.size, 0, none⟩ 1 1 [.string x.1, .int .u64 y.2] (by simp [Act.eval]) rfl (by exact two_new _ _ _ _) (two_one _ _) (by omega) ?_; intro w2 hown2 hgrow2)
              all_goals
                rw [← EM.out] at hown2
                have J := I.same E1.out E2.out hv hv2 hown2 (mrg_bel gS.out I.bel (by first | exact (below_drewN' _ _).alloc (Nat.le_refl _) _ | exact below_drewN ((Below.refl _ _).alloc (Nat.le_refl _) _) _) hgrow2)
                clear hv hv2 I hown2 hgrow2 hc1 hc2 hd1 hd2 hn
                go_wp2
                go_quiet (fail)
                go_wp2
                go_roundw
                case rel => exact ⟨_, _, _, _, _, _, _, _, _, _, rfl, rfl, rfl, by omega, by omega, by omega, J.drewN _⟩
                case measure => simp; omega
            · have EM : Hid (max x.2 y.2 = x.2) := by rw [← max_if]; exact if_neg hn
              replace hn : (x.2 < y.2) = False := eq_false hn
              go_wp2
              go_quiet (fail)
              go_wp2
              go_quiet (fail)
              go_wp2
              go_region_law (refine step_append_fits rfl (.tmp 28) (.tmp 43) 31 rfl (w.heap.size + 1 + 1 + 1) 47 i0 2 Try.underlying31 hi hz1 (w.heap.size + 1 + 1 + 1) r (n + m) _ (by simp [Act.eval]) (by exact I.own.alloc _) ⟨wr.heap.size, 0, none⟩ 1 1 [.string x.1, .int .u64 x.2] (by simp [Act.eval]) rfl (by exact two_new _ _ _ _) (two_one _ _) (by omega) ?_; intro w2 hown2 hgrow2)
              all_goals
                rw [← EM.out] at hown2
                have J := I.same E1.out E2.out hv hv2 hown2 (mrg_bel gS.out I.bel (by first | exact (below_drewN' _ _).alloc (Nat.le_refl _) _ | exact below_drewN ((Below.refl _ _).alloc (Nat.le_refl _) _) _) hgrow2)
                clear hv hv2 I hown2 hgrow2 hc1 hc2 hd1 hd2 hn
                go_wp2
                go_quiet (fail)
                go_wp2
                go_roundw
                case rel => exact ⟨_, _, _, _, _, _, _, _, _, _, rfl, rfl, rfl, by omega, by omega, by omega, J.drewN _⟩
                case measure => simp; omega

end Go.Proofs.Qxb6604248a
