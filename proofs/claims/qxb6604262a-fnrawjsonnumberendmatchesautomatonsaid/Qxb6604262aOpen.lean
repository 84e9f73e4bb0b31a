/-
  FROM A READING OF THE ARGUMENTS TO THE VIEWS: []byte.
-/
import Derived.Test.Qxb6604262aCopy
import Derived.ProofKit
import Derived.OpenShut
import Derived.ShutString
import Derived.ChangeOld
namespace Go.Proofs.Qxb6604262a
open Go.ChangeShapes Go.WideShapes Go.ChangeAt Go.RowKit

theorem Try.own : ownKnob Try.prog.godebug = none := by kernel_rfl
theorem Try.laidOut : laidOutB Try.prog = true := by kernel_rfl

theorem bytes_in {H : Type} {enc : TypeId × Value → H} {W : World} {a : Option Addr} {len cap : Nat} {d : DataW H} {p : List MemPlace} (h : DataW.Trod enc Try.prog W 0 (fun _ => true) true 22 (.slice a len cap) d p) :
    ∃ zs, InB W zs a len cap := by
  obtain ⟨fuel, hf⟩ := h
  rcases open_ints Try.underlying22 Try.underlying5 (by kernel_rfl) hf with ⟨hcs, _⟩ | ⟨x, l, c, zs, hcs, _, hl, hm, hz, _, hcell, hwz⟩
  · simp [Value.cells] at hcs
    obtain ⟨rfl, rfl, rfl⟩ := hcs
    exact ⟨[], ⟨.inl rfl⟩, rfl, by unfold maxLen; omega, fun _ => ⟨rfl, rfl⟩⟩
  · simp [Value.cells] at hcs
    obtain ⟨rfl, rfl, rfl⟩ := hcs
    simp only [if_true] at hz
    refine ⟨zs.take len, ⟨?_⟩, by simp; omega, Nat.le_trans hl hm, fun h => by cases h⟩
    by_cases h0 : len = 0
    · exact .inl (by rw [h0]; simp)
    · obtain ⟨b, off, spot⟩ := x
      have c0 := hcell 0 (by omega)
      have hspot : spot = none := by simpa [Addr.add] using World.cell?_spot c0
      subst hspot
      have hb : b < W.heap.size := by
        rcases Nat.lt_or_ge b W.heap.size with hlt | hge
        · exact hlt
        · rw [Addr.add_lit] at c0
          simp [World.cell?, Array.getElem?_eq_none hge] at c0
      refine .inr ⟨b, off, rfl, hb, fun i hi => ?_⟩
      have hi' : i < len := by simp at hi; omega
      have := hcell i (by omega)
      rw [Addr.add_lit] at this
      rw [this]
      have : i < zs.length := by omega
      simp [byteAt, hi', this]

end Go.Proofs.Qxb6604262a
