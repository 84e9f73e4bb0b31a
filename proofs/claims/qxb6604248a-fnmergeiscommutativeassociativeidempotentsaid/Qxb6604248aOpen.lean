/-
  FROM A READING OF THE ARGUMENTS TO THE VIEWS: []string, []uint64.
-/
import Derived.Test.Qxb6604248aLawCompare
import Derived.ProofKit
import Derived.OpenShut
import Derived.ShutString
import Derived.ChangeOld
import Derived.SliceStrings
namespace Go.Proofs.Qxb6604248a
open Go.ChangeShapes Go.WideShapes Go.ChangeAt Go.RowKit Plain

theorem Try.own : ownKnob Try.prog.godebug = none := by kernel_rfl
theorem Try.laidOut : laidOutB Try.prog = true := by kernel_rfl

theorem rowV_of {w : World} {x : Addr} {cs : List Value} (h : ∀ i, i < cs.length → w.cell? (x.add i) = cs[i]?) : RowV w (some x) cs := by
  refine ⟨?_⟩
  by_cases hl : cs.length = 0
  · exact .inl (List.length_eq_zero_iff.1 hl)
  · obtain ⟨b, off, spot⟩ := x
    have h0 := h 0 (by omega)
    rw [List.getElem?_eq_getElem (by omega)] at h0
    have hspot : spot = none := by simpa [Addr.add] using World.cell?_spot h0
    subst hspot
    have hb : b < w.heap.size := by
      rcases Nat.lt_or_ge b w.heap.size with hlt | hge
      · exact hlt
      · rw [Addr.add_lit] at h0
        simp [World.cell?, Array.getElem?_eq_none hge] at h0
    refine .inr ⟨b, off, rfl, hb, fun i hi => ?_⟩
    have := h i hi
    rwa [Addr.add_lit] at this

theorem strs_in {H : Type} {enc : TypeId × Value → H} {W : World} {a : Option Addr} {len cap : Nat} {d : DataW H} {p : List MemPlace} (h : DataW.Trod enc Try.prog W 0 (fun _ => true) true 22 (.slice a len cap) d p) :
    ∃ hs, RowV W a (strs hs) ∧ hs.length = len ∧ len ≤ maxLen ∧ (∀ s ∈ hs, s.size ≤ maxLen) ∧ (a = none → len = 0 ∧ cap = 0) := by
  obtain ⟨fuel, hf⟩ := h
  rcases open_strings Try.underlying22 Try.underlying9 (by kernel_rfl) hf with ⟨hcs, _⟩ | ⟨x, l, c, ss, hcs, _, hl, hm, hz, _, hcell, hwz⟩
  · simp [Value.cells] at hcs
    obtain ⟨rfl, rfl, rfl⟩ := hcs
    exact ⟨[], rowV_nil _ _, rfl, by unfold maxLen; omega, fun _ h => (by cases h), fun _ => ⟨rfl, rfl⟩⟩
  · simp [Value.cells] at hcs
    obtain ⟨rfl, rfl, rfl⟩ := hcs
    simp only [if_true] at hz
    refine ⟨ss.take len, rowV_of fun i hi => ?_, by simp; omega, Nat.le_trans hl hm, fun s hs => hwz s (List.mem_of_mem_take hs), fun h => by cases h⟩
    have hi' : i < len := by rw [strs_len] at hi; simp at hi; omega
    rw [hcell i (by omega)]
    have : i < ss.length := by omega
    simp [strs, hi', this]

theorem u64s_in {H : Type} {enc : TypeId × Value → H} {W : World} {a : Option Addr} {len cap : Nat} {d : DataW H} {p : List MemPlace} (h : DataW.Trod enc Try.prog W 0 (fun _ => true) true 23 (.slice a len cap) d p) :
    ∃ ns, RowV W a (u64s ns) ∧ ns.length = len ∧ len ≤ maxLen ∧ (∀ n ∈ ns, 0 ≤ n) ∧ (a = none → len = 0 ∧ cap = 0) := by
  obtain ⟨fuel, hf⟩ := h
  rcases open_ints Try.underlying23 Try.underlying38 (by kernel_rfl) hf with ⟨hcs, _⟩ | ⟨x, l, c, zs, hcs, _, hl, hm, hz, _, hcell, hwz⟩
  · simp [Value.cells] at hcs
    obtain ⟨rfl, rfl, rfl⟩ := hcs
    exact ⟨[], rowV_nil _ _, rfl, by unfold maxLen; omega, fun _ h => (by cases h), fun _ => ⟨rfl, rfl⟩⟩
  · simp [Value.cells] at hcs
    obtain ⟨rfl, rfl, rfl⟩ := hcs
    simp only [if_true] at hz
    refine ⟨zs.take len, rowV_of fun i hi => ?_, by simp; omega, Nat.le_trans hl hm, fun n hn => (bounds_u64 (hwz n (List.mem_of_mem_take hn))).1, fun h => by cases h⟩
    have hi' : i < len := by rw [u64s_len] at hi; simp at hi; omega
    rw [hcell i (by omega)]
    have : i < zs.length := by omega
    simp [u64s, hi', this]

theorem vec_in {H : Type} {enc : TypeId × Value → H} {W : World} {a b : Option Addr} {l1 c1 l2 c2 : Nat} {d1 d2 : DataW H} {p1 p2 : List MemPlace} (h1 : DataW.Trod enc Try.prog W 0 (fun _ => true) true 22 (.slice a l1 c1) d1 p1)
    (h2 : DataW.Trod enc Try.prog W 0 (fun _ => true) true 23 (.slice b l2 c2) d2 p2) : ∃ hs ns, InV W hs ns a b l1 l2 c1 c2 := by
  obtain ⟨hs, x1, x2, x3, x4, x5⟩ := strs_in h1
  obtain ⟨ns, y1, y2, y3, y4, y5⟩ := u64s_in h2
  exact ⟨hs, ns, x1, y1, x2, y2, x3, y3, x4, y4, x5, y5⟩

end Go.Proofs.Qxb6604248a
