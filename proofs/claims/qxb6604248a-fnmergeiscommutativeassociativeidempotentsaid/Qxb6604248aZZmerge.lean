/-
  THE WALK of ZZmerge (18).
-/
import Derived.Test.Qxb6604248aMerge
namespace Go.Proofs.Qxb6604248a
open Go.RowKit Plain

/-- A store into another block leaves a row as it was. -/
theorem RowV.setCell {w : World} {ao : Option Addr} {cs : List Value} (h : RowV w ao cs) (p : Addr) (v : Value) (hp : ∀ a, ao = some a → p.block < a.block) : RowV (w.setCell p v) ao cs := by
  refine ⟨?_⟩
  rcases h.lies with h | ⟨b, off, h1, h2, h3⟩
  · exact .inl h
  · refine .inr ⟨b, off, h1, by simpa [World.setCell] using h2, fun i hi => ?_⟩
    have := hp _ h1
    exact (World.cell?_setCell_other (w := w) (a := p) (b := ⟨b, off + i, none⟩) (v := v) (by intro e; subst e; simp only at this; omega)).trans (h3 i hi)

set_option maxRecDepth 10000 in
set_option maxHeartbeats 1000000 in
theorem zzMerge_any (X Y : List Ent) (n m : Nat) (ax ay : Option Addr) (cx cy : Nat) (w : World) (hx : RowV w ax (ents X)) (hy : RowV w ay (ents Y)) (l1 : Hid (X.length = n)) (l2 : Hid (Y.length = m)) (n1 : n ≤ 1048576) (n2 : m ≤ 1048576) (k1 : n ≤ cx) (k2 : m ≤ cy) :
    Calls Try.prog 18 #[.agg #[.slice ax n cx], .agg #[.slice ay m cy]] w fun e w' => FreshV w (mg X Y) e w' := by
  have bw : Below w.heap.size w (((w.alloc (.cells #[.slice ax n cx] 33)).alloc (.cells #[.slice ay m cy] 33)).alloc (.cells #[.slice none 0 0] 33)) := (((Below.refl _ _).alloc (Nat.le_refl _) _).alloc (by simp) _).alloc (by simp; omega) _
  have tn := three_new w (.slice ax n cx) (.slice ay m cy) (.slice none 0 0) 33 _ rfl
  have hx' := hx.below bw
  have hy' := hy.below bw
  go_enter Try.func18, Try.ntmps18
  go_wp2_with fail
  refine (merge_any X Y n m ax ay cx cy _ hx' hy' l1 l2 n1 n2 k1 k2).mono ?_
  rintro e w1 ⟨ao, k, c, rfl, h1, h2, h3, h4, h5⟩
  generalize ((w.alloc (.cells #[.slice ax n cx] 33)).alloc (.cells #[.slice ay m cy] 33)).alloc (.cells #[.slice none 0 0] 33) = W3 at bw tn h4 h5
  have hS := tn.1
  have hcell : w1.cell? ⟨w.heap.size + 1 + 1, 0, none⟩ = some (.slice none 0 0) := (h4.cell (p := ⟨w.heap.size + 1 + 1, 0, none⟩) (by dsimp only; omega)).trans tn.2.2.2.1
  have hfz : w1.frozen? ⟨w.heap.size + 1 + 1, 0, none⟩ = false := (h4.frozen (p := ⟨w.heap.size + 1 + 1, 0, none⟩) (by dsimp only; omega)).trans tn.2.2.2.2
  have hset := World.cell?_setCell_same' w1 ⟨w.heap.size + 1 + 1, 0, none⟩ (.slice ao k c) (by rw [hcell]; rfl)
  have hR : FreshV w (mg X Y) (.returned (.agg #[.slice ao k c])) (w1.setCell ⟨w.heap.size + 1 + 1, 0, none⟩ (.slice ao k c)) :=
    ⟨ao, k, c, rfl, h1, h2, h3.setCell _ _ (fun a ha => by have := h5 a ha; dsimp only; omega), (bw.trans (h4.mono bw.size)).setCell (by dsimp only; omega) _, fun a ha => by have := h5 a ha; omega⟩
  clear tn hS h1 h3 h4 h5 hx hy hx' hy' bw
  go_wp2_with fail
  exact bodyPost_ret (v := .agg #[.slice ao k c]) (by simp [results, Try.results18, go_sem, hset]) rfl hR

end Go.Proofs.Qxb6604248a
