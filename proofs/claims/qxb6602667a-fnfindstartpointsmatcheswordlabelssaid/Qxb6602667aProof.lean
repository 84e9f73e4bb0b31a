/-
  Rows.FnFindStartPointsMatchesWordLabelsSaid, PROVED.
-/
import Derived.Test.Qxb6602667aLaw
import Derived.ProofKit
import Derived.OpenShut
import Derived.ShutString
import Derived.ChangeOld
import Derived.SliceStrings
namespace Go.Proofs.Qxb6602667a
open Go.ChangeShapes Go.WideShapes Go.ChangeAt Go.RowKit

theorem Try.own : ownKnob Try.prog.godebug = none := by kernel_rfl
theorem Try.laidOut : laidOutB Try.prog = true := by kernel_rfl

theorem rowV_of {w : World} {x : Addr} {cs : List Value} (h : ∀ i, i < cs.length → w.cell? (x.add i) = cs[i]?) : RowV w (some x) cs := by
  refine ⟨?_⟩
  by_cases hl : cs.length = 0
  · exact .inl (List.length_eq_zero_iff.1 hl)
  · obtain ⟨b, off, spot⟩ := x
    have h0 := h 0 (by omega)
    rw [List.getElem?_eq_getElem (by omega)] at h0
    have hspot : spot = none := by simpa [Addr.add] using World.cell?_spot h0
    subst hspot
    have hb : b < w.heap.size := by
      rcases Nat.lt_or_ge b w.heap.size with hlt | hge
      · exact hlt
      · rw [Addr.add_lit] at h0
        simp [World.cell?, Array.getElem?_eq_none hge] at h0
    refine .inr ⟨b, off, rfl, hb, fun i hi => ?_⟩
    have := h i hi
    rwa [Addr.add_lit] at this

theorem words_in {H : Type} {enc : TypeId × Value → H} {W : World} {a : Option Addr} {len cap : Nat} {d : DataW H} {p : List MemPlace} (h : DataW.Trod enc Try.prog W 0 (fun _ => true) true 22 (.slice a len cap) d p) :
    ∃ ws, InS W ws a len cap := by
  obtain ⟨fuel, hf⟩ := h
  rcases open_strings Try.underlying22 Try.underlying9 (by kernel_rfl) hf with ⟨hcs, _⟩ | ⟨x, l, c, ss, hcs, _, hl, hm, hz, _, hcell, hwz⟩
  · simp [Value.cells] at hcs
    obtain ⟨rfl, rfl, rfl⟩ := hcs
    exact ⟨[], rowV_nil _ _, rfl, by unfold maxLen; omega, fun _ h => (by cases h), fun _ => ⟨rfl, rfl⟩⟩
  · simp [Value.cells] at hcs
    obtain ⟨rfl, rfl, rfl⟩ := hcs
    simp only [if_true] at hz
    refine ⟨ss.take len, rowV_of fun i hi => ?_, by simp; omega, Nat.le_trans hl hm, fun s hs => hwz s (List.mem_of_mem_take hs), fun h => by cases h⟩
    have hi' : i < len := by rw [strs_len] at hi; simp at hi; omega
    rw [hcell i (by omega)]
    have : i < ss.length := by omega
    simp [strs, hi', this]

set_option maxRecDepth 100000 in
theorem fsp_lifted (os : Os) (started : os.Started) (H : Type) (enc : TypeId × Value → H) :
    ReturnsInHanded {} Try.checked os 3 .any (Rows.fnFindStartPointsMatchesWordLabelsSpec.pre6 enc Try.prog Try.f3 Rows.fnFindStartPointsMatchesWordLabelsRow.domain false) (Rows.fnFindStartPointsMatchesWordLabelsSpec.post enc Try.prog Try.f3 false true false false) := by
  refine returnsInHanded_of_change (C := Try.checked) Try.own started (by kernel_rfl) Try.func3
    (ChangeSpec.witness6 (enc := enc) (C := Try.checked) false ⟨#[], #[.slice none 0 0], []⟩ 8 (by kernel_rfl) (by kernel_rfl) (by kernel_rfl) (by kernel_rfl)) ?_
  intro W base args ds gs before hval0 hW hcnd _
  have hval : ∀ (j : Nat) t v, Try.f3.params[j]? = some t → args[j]? = some v → Value.okWide Try.prog W .any base t v := hval0
  have hW' := hW
  obtain ⟨p, q, hA0, hV, rfl, hfz, hnd⟩ := hW
  have hA : DataW.TrodAll enc Try.prog W 0 (fun _ => true) true Try.f3.params.toList args.toList ds p := hA0
  rw [Try.params3] at hA hval
  obtain ⟨v0, vs0, d0, ds0, p0, q0, hargs, rfl, rfl, h0, r0⟩ := trodAll_cons hA
  obtain ⟨rfl, rfl, rfl⟩ := trodAll_nil r0
  obtain rfl : args = #[v0] := by cases args; simp_all
  obtain ⟨rfl, rfl⟩ := trodVars_none hV
  obtain ⟨a0, len0, cap0, rfl⟩ := okWide_slice Try.underlying22 (hval 0 22 v0 rfl rfl)
  have lt0 : ∀ x ∈ p0, x.block < W.heap.size := by obtain ⟨m, hm⟩ := h0; exact DataW.trod_lt m _ _ _ hm
  obtain ⟨ws, A⟩ := words_in h0
  clear hA0 hval0
  refine (law_any ws len0 a0 cap0 W A).mono fun e W' ⟨he, bel⟩ => ?_
  subst he
  exact ⟨_, rfl, _, _, _, [], _, [], hW', trodAll_mk1 (shut_bool Try.underlying4 _), (trodAll_cons_mk (Below.trod Try.laidOut (by kernel_rfl) (of_decide_eq_true (by kernel_rfl)) h0 bel lt0) trodAll_mk0), rfl, bel.frame _, fun h => by cases h⟩

theorem fsp_proved : Rows.FnFindStartPointsMatchesWordLabelsSaid :=
  OpenClaim.holds_of_wide 3 Try.f3 rfl rfl rfl rfl rfl rfl rfl ⟨rfl, rfl, rfl, rfl, rfl⟩ rfl rfl rfl rfl rfl (by kernel_rfl) Try.func3 (by kernel_rfl)
    (of_decide_eq_true (by kernel_rfl)) (by unfold Func.isWrapper; first | (rw [if_pos (by decide +kernel)]; kernel_rfl) | (rw [if_neg (by decide +kernel)]; exact ⟨rfl, rfl⟩))
    (fun os started H enc _ => fsp_lifted os started H enc)

end Go.Proofs.Qxb6602667a
