/-
  THE WALK of ZZParts (19).
-/
import Derived.Test.Qxb6604248aClones
namespace Go.Proofs.Qxb6604248a
open Go.RowKit Plain

/-- Two results: slices of n elements, the hosts and the counts; what was there is as it was. -/
def FreshP (w : World) (es : List Ent) (n : Nat) (e : Ending) (w' : World) : Prop :=
  ∃ ao c bo d, e = .returned (.tuple #[.slice ao n c, .slice bo n d]) ∧ RowV w' ao (strs (es.map (·.1))) ∧ RowV w' bo (u64s (es.map (·.2))) ∧ Below w.heap.size w w'

/-- The i-th entry's two cells. -/
theorem ents_at_all {w : World} {ao : Option Addr} {es : List Ent} (h : RowV w ao (ents es)) (hne : 0 < es.length) :
    ∃ b off, ao = some ⟨b, off, none⟩ ∧ b < w.heap.size ∧ ∀ i, i < es.length → w.cell? ⟨b, off + i * 2, none⟩ = some (.string (hostAt (es.map (·.1)) i)) ∧ w.cell? ⟨b, off + i * 2 + 1, none⟩ = some (.int .u64 (numAt (es.map (·.2)) i)) := by
  rcases h.lies with h | ⟨b, off, h1, h2, h3⟩
  · have := congrArg List.length h; rw [ents_len, List.length_nil] at this; omega
  · refine ⟨b, off, h1, h2, fun i hi => ?_⟩
    have key : ∀ (es : List Ent) (i : Nat), i < es.length → (Qxb6604248a.ents es)[2 * i]? = some (.string (hostAt (es.map (·.1)) i)) ∧ (Qxb6604248a.ents es)[2 * i + 1]? = some (.int .u64 (numAt (es.map (·.2)) i)) := by
      intro es
      induction es with
      | nil => intro i hi; simp at hi
      | cons e r ih =>
        intro i hi
        have e0 : Qxb6604248a.ents (e :: r) = .string e.1 :: .int .u64 e.2 :: Qxb6604248a.ents r := rfl
        rw [e0]
        cases i with
        | zero => simp [hostAt, numAt]
        | succ i =>
          have := ih i (by simpa using hi)
          rw [show 2 * (i + 1) = 2 * i + 1 + 1 from by omega]
          simpa [hostAt, numAt] using this
    obtain ⟨k1, k2⟩ := key es i hi
    have l := ents_len es
    rw [Nat.mul_comm i 2]
    exact ⟨(h3 (2 * i) (by omega)).trans k1, by have := (h3 (2 * i + 1) (by omega)).trans k2; rwa [← Nat.add_assoc] at this⟩

theorem parts_start1 (w : World) (a b : Obj) (n : Nat) {f : Nat → Value} {t : TypeId} {z : Value} : (((w.alloc a).alloc (.cells (madeCells #[z] n) t)).alloc b).rowIs (w.heap.size + 1) t n (fun j => if j < 0 then f j else z) := by
  have := (clone_start (w := w.alloc a) (z := z) (n := n) (t := t) f).alloc b
  simpa using this
theorem parts_start2 (w : World) (a b : Obj) (n : Nat) {f : Nat → Value} {t : TypeId} {z : Value} : (((w.alloc a).alloc b).alloc (.cells (madeCells #[z] n) t)).rowIs (w.heap.size + 1 + 1) t n (fun j => if j < 0 then f j else z) := by
  have := clone_start (w := (w.alloc a).alloc b) (z := z) (n := n) (t := t) f
  simpa using this

set_option maxRecDepth 10000 in
set_option maxHeartbeats 1000000 in
theorem zzParts_any (es : List Ent) (n : Nat) (ax : Option Addr) (cx : Nat) (w : World) (hx : RowV w ax (ents es)) (l1 : Hid (es.length = n)) (n1 : n ≤ 4194304) :
    Calls Try.prog 19 #[.agg #[.slice ax n cx]] w fun e w' => FreshP w es n e w' := by
  have hmk := fun (w' : World) => run_make_row' (P := Try.prog) 22 9 (.string ByteArray.empty) 16 Try.underlying22 Try.info9 rfl .i64 .i64 n (by omega) (by omega) w'
  have hmk2 := fun (w' : World) => run_make_row' (P := Try.prog) 23 38 (.int .u64 0) 8 Try.underlying23 Try.info38 rfl .i64 .i64 n (by omega) (by omega) w'
  go_enter Try.func19, Try.ntmps19
  go_wp2
  clear hmk hmk2
  go_loopw [6] (fun s wr => ∃ k : Nat, s = .int .i64 k ∧ k ≤ n ∧ wr.rowIs (w.heap.size + 1) 9 n (fun j => if j < k then .string (hostAt (es.map (·.1)) j) else .string ByteArray.empty) ∧ wr.rowIs (w.heap.size + 1 + 1) 38 n (fun j => if j < k then .int .u64 (numAt (es.map (·.2)) j) else .int .u64 0) ∧ Below (w.heap.size + 1) (w.alloc (.cells #[.slice ax n cx] 33)) wr) (fun s _ => n - (intOf s).toNat)
  case atStart => exact ⟨0, rfl, by omega, parts_start1 _ _ _ _, parts_start2 _ _ _ _, ((Below.refl _ _).alloc (by simp) _).alloc (by simp) _⟩
  case round =>
    obtain ⟨k, rfl, h1, hr1, hr2, hbel⟩ := hrel
    have hv0 : wr.cell? ⟨w.heap.size, 0, none⟩ = some (.slice ax n cx) := (hbel.cell (p := ⟨w.heap.size, 0, none⟩) (by simp)).trans (by simp)
    by_cases hlt : k < n
    · obtain ⟨b, off, rfl, hbs, hc⟩ := ents_at_all hx (by rw [l1.out]; omega)
      have hcc := hc k (by rw [l1.out]; omega)
      have hbw : b < w.heap.size + 1 := by omega
      have hm1 : wr.cell? ⟨b, off + k * 2, none⟩ = some (.string (hostAt (es.map (·.1)) k)) := (hbel.cell (p := ⟨b, off + k * 2, none⟩) hbw).trans ((World.cell?_alloc_past _ _ _ hbs).trans hcc.1)
      have hm2 : wr.cell? ⟨b, off + k * 2 + 1, none⟩ = some (.int .u64 (numAt (es.map (·.2)) k)) := (hbel.cell (p := ⟨b, off + k * 2 + 1, none⟩) hbw).trans ((World.cell?_alloc_past _ _ _ hbs).trans hcc.2)
      have ho1 := clone_cell hr1 hlt
      have ho2 := clone_cell hr2 hlt
      have hf1 := hr1.frozen k
      have hf2 := hr2.frozen k
      have R1 := (clone_next hr1).setOther (a := ⟨w.heap.size + 1 + 1, k, none⟩) (by dsimp only; omega) (.int .u64 (numAt (es.map (·.2)) k))
      have R2 := clone_next (hr2.setOther (a := ⟨w.heap.size + 1, k, none⟩) (by dsimp only; omega) (.string (hostAt (es.map (·.1)) k)))
      have R3 := (hbel.setCell (p := ⟨w.heap.size + 1, k, none⟩) (Nat.le_refl _) (.string (hostAt (es.map (·.1)) k))).setCell (p := ⟨w.heap.size + 1 + 1, k, none⟩) (Nat.le_succ _) (.int .u64 (numAt (es.map (·.2)) k))
      have q1 := (World.cell?_setCell_other (w := wr) (a := ⟨w.heap.size + 1, k, none⟩) (b := ⟨w.heap.size, 0, none⟩) (v := .string (hostAt (es.map (·.1)) k)) (by simp)).trans hv0
      have q2 := (World.cell?_setCell_other (w := wr) (a := ⟨w.heap.size + 1, k, none⟩) (b := ⟨b, off + k * 2 + 1, none⟩) (v := .string (hostAt (es.map (·.1)) k)) (by intro h; have := congrArg Addr.block h; simp only at this; omega)).trans hm2
      have q3 := (World.cell?_setCell_other (w := wr) (a := ⟨w.heap.size + 1, k, none⟩) (b := ⟨w.heap.size + 1 + 1, k, none⟩) (v := .string (hostAt (es.map (·.1)) k)) (by simp)).trans ho2
      clear hc hcc hr1 hr2 hbel hx
      go_wp2
      go_roundw
      case rel => exact ⟨k + 1, by go_num, by omega, R1, R2, R3⟩
      case measure => simp [intOf]; omega
    · have hR : FreshP w es n (.returned (.tuple #[.slice (some ⟨w.heap.size + 1, 0, none⟩) n n, .slice (some ⟨w.heap.size + 1 + 1, 0, none⟩) n n])) wr :=
        ⟨_, _, _, _, rfl, clone_row hr1 h1 hlt (by rw [strs_len, List.length_map, l1.out]) (fun i hi => strs_at _ i (by rw [List.length_map, l1.out]; exact hi)), clone_row hr2 h1 hlt (by rw [u64s_len, List.length_map, l1.out]) (fun i hi => u64s_at _ i (by rw [List.length_map, l1.out]; exact hi)), ((Below.refl _ _).alloc (Nat.le_refl _) _).trans (hbel.mono (by omega))⟩
      clear hr1 hr2 hbel hx
      go_wp2
      go_ret2
      exact hR

end Go.Proofs.Qxb6604248a
