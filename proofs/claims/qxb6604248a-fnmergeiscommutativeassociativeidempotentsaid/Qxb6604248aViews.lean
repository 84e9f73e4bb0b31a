/-
  VIEWS of seat b6604248a: what a slice of strings, of counts, of entries holds in a world.
-/
import Derived.Test.Qxb6604248aPlain2
import Derived.WalkKit
import Derived.WalkSpells
import Derived.WalkLawsBesides
namespace Go.Proofs.Qxb6604248a
open Go.RowKit Plain

/-- From the address 'ao' on lie the cells 'cs'. -/
structure RowV (w : World) (ao : Option Addr) (cs : List Value) : Prop where
  lies : cs = [] ∨ ∃ b off, ao = some ⟨b, off, none⟩ ∧ b < w.heap.size ∧ ∀ i, i < cs.length → w.cell? ⟨b, off + i, none⟩ = cs[i]?

theorem RowV.below {w w' : World} {ao : Option Addr} {cs : List Value} (h : RowV w ao cs) (hb : Below w.heap.size w w') : RowV w' ao cs := by
  refine ⟨?_⟩
  rcases h.lies with h | ⟨b, off, h1, h2, h3⟩
  · exact .inl h
  · exact .inr ⟨b, off, h1, Nat.lt_of_lt_of_le h2 hb.size, fun i hi => (hb.cell (p := ⟨b, off + i, none⟩) h2).trans (h3 i hi)⟩

theorem below_drewN' (w : World) (n : Nat) : Below w.heap.size w (w.drewN n) := below_drewN (Below.refl _ _) n

theorem RowV.drewN {w : World} {ao : Option Addr} {cs : List Value} (h : RowV w ao cs) (n : Nat) : RowV (w.drewN n) ao cs := h.below (below_drewN' w n)

def strs (hs : List ByteArray) : List Value := hs.map Value.string
def u64s (ns : List Int) : List Value := ns.map (Value.int .u64)
def ents (es : List Ent) : List Value := es.flatMap fun e => [.string e.1, .int .u64 e.2]

theorem strs_len (hs : List ByteArray) : (strs hs).length = hs.length := by simp [strs]
theorem u64s_len (ns : List Int) : (u64s ns).length = ns.length := by simp [u64s]
theorem ents_len (es : List Ent) : (ents es).length = 2 * es.length := by
  unfold ents
  induction es with
  | nil => rfl
  | cons e r ih => simp at ih ⊢; omega

/-- The strings' cells. -/
theorem RowV.strs {w : World} {ao : Option Addr} {hs : List ByteArray} (h : RowV w ao (strs hs)) (hne : 0 < hs.length) :
    ∃ b off, ao = some ⟨b, off, none⟩ ∧ b < w.heap.size ∧ ∀ i, i < hs.length → w.cell? ⟨b, off + i, none⟩ = some (.string (hostAt hs i)) := by
  rcases h.lies with h | ⟨b, off, h1, h2, h3⟩
  · have := congrArg List.length h; rw [strs_len, List.length_nil] at this; omega
  · refine ⟨b, off, h1, h2, fun i hi => ?_⟩
    rw [h3 i (by rw [strs_len]; exact hi)]
    simp [Qxb6604248a.strs, hostAt, hi]

theorem RowV.u64s {w : World} {ao : Option Addr} {ns : List Int} (h : RowV w ao (u64s ns)) (hne : 0 < ns.length) :
    ∃ b off, ao = some ⟨b, off, none⟩ ∧ b < w.heap.size ∧ ∀ i, i < ns.length → w.cell? ⟨b, off + i, none⟩ = some (.int .u64 (numAt ns i)) := by
  rcases h.lies with h | ⟨b, off, h1, h2, h3⟩
  · have := congrArg List.length h; rw [u64s_len, List.length_nil] at this; omega
  · refine ⟨b, off, h1, h2, fun i hi => ?_⟩
    rw [h3 i (by rw [u64s_len]; exact hi)]
    simp [Qxb6604248a.u64s, numAt, hi]

/-- The first entry's two cells, and the row behind it. -/
theorem RowV.ents {w : World} {ao : Option Addr} {e : Ent} {r : List Ent} (h : RowV w ao (ents (e :: r))) :
    ∃ b off, ao = some ⟨b, off, none⟩ ∧ b < w.heap.size ∧ w.cell? ⟨b, off, none⟩ = some (.string e.1) ∧ w.cell? ⟨b, off + 1, none⟩ = some (.int .u64 e.2) ∧ RowV w (some ⟨b, off + 2, none⟩) (ents r) := by
  rcases h.lies with h | ⟨b, off, h1, h2, h3⟩
  · have := congrArg List.length h; rw [ents_len] at this; simp at this
  · have e0 : Qxb6604248a.ents (e :: r) = .string e.1 :: .int .u64 e.2 :: Qxb6604248a.ents r := rfl
    rw [e0] at h3
    refine ⟨b, off, h1, h2, h3 0 (by simp), h3 1 (by simp), ⟨.inr ⟨b, off + 2, rfl, h2, fun i hi => ?_⟩⟩⟩
    have := h3 (i + 2) (by simp; omega)
    rw [show off + (i + 2) = off + 2 + i from by omega] at this
    simpa using this

theorem rowV_nil (w : World) (ao : Option Addr) : RowV w ao [] := ⟨.inl rfl⟩

end Go.Proofs.Qxb6604248a
