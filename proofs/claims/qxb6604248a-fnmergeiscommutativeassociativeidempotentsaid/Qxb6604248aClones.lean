/-
  THE WALKS of cloneStrings (12), cloneU64 (13).
-/
import Derived.Test.Qxb6604248aLookup
import Derived.Deep.OwnRows
import Derived.Lib.SliceRun
namespace Go.Proofs.Qxb6604248a
open Go.RowKit Plain

theorem Try.info9 : (Try.prog.info? 9).map (fun i => (i.zero, i.size, i.bytes)) = some (some (.string ByteArray.empty), 1, 16) := by kernel_rfl
theorem Try.info38 : (Try.prog.info? 38).map (fun i => (i.zero, i.size, i.bytes)) = some (some (.int .u64 0), 1, 8) := by kernel_rfl

theorem clone_start {w : World} {z : Value} {n : Nat} {t : TypeId} (f : Nat → Value) : (w.alloc (.cells (madeCells #[z] n) t)).rowIs w.heap.size t n (fun j => if j < 0 then f j else z) :=
  (World.rowIs_made w z n t).congr fun i _ => by simp
theorem clone_next {w : World} {b t n k : Nat} {z : Value} {f : Nat → Value} (h : w.rowIs b t n (fun j => if j < k then f j else z)) : (w.setCell ⟨b, k, none⟩ (f k)).rowIs b t n (fun j => if j < k + 1 then f j else z) :=
  (h.set k (f k)).congr fun i _ => by
    by_cases e : i = k
    · subst e; simp
    · by_cases l : i < k
      · simp [e, l, show i < k + 1 by omega]
      · simp [e, l, show ¬ i < k + 1 by omega]
theorem clone_cell {w : World} {b t n k : Nat} {z : Value} {f : Nat → Value} (h : w.rowIs b t n (fun j => if j < k then f j else z)) (hk : k < n) : w.cell? ⟨b, k, none⟩ = some z := by
  have := h.cell hk
  simpa using this
theorem clone_row {w : World} {b t n k : Nat} {z : Value} {f : Nat → Value} (h : w.rowIs b t n (fun j => if j < k then f j else z)) (h1 : k ≤ n) (hk : ¬ k < n) {cs : List Value} (hl : cs.length = n) (hf : ∀ i, i < n → cs[i]? = some (f i)) : RowV w (some ⟨b, 0, none⟩) cs := by
  refine ⟨.inr ⟨b, 0, rfl, h.lt, fun i hi => ?_⟩⟩
  rw [hf i (by omega), Nat.zero_add]
  have := h.cell (i := i) (by omega)
  rw [if_pos (by omega)] at this
  exact this
theorem strs_at (hs : List ByteArray) (i : Nat) (hi : i < hs.length) : (strs hs)[i]? = some (.string (hostAt hs i)) := by simp [strs, hostAt, hi]
theorem u64s_at (ns : List Int) (i : Nat) (hi : i < ns.length) : (u64s ns)[i]? = some (.int .u64 (numAt ns i)) := by simp [u64s, numAt, hi]

/-- A result that is a slice of n elements whose cells are cs; what was there is as it was. -/
def Fresh (w : World) (n : Nat) (cs : List Value) (e : Ending) (w' : World) : Prop := ∃ ao c, e = .returned (.slice ao n c) ∧ RowV w' ao cs ∧ Below w.heap.size w w'

set_option maxHeartbeats 400000 in
theorem cloneStrings_any (n : Nat) (hs : List ByteArray) (ah : Option Addr) (ch : Nat) (w : World) (hh : RowV w ah (strs hs)) (l1 : Hid (hs.length = n)) (n1 : n ≤ 1048576) (h0 : ah = none → n = 0 ∧ ch = 0) :
    Calls Try.prog 12 #[.slice ah n ch] w fun e w' => Fresh w n (strs hs) e w' := by
  have hq := fun (w' : World) => Lib.run_eql_slice_nil (P := Try.prog) w' 22 9 ah n ch 0 0 Try.underlying22
  cases ah with
  | none =>
    obtain ⟨rfl, rfl⟩ := h0 rfl
    go_enter Try.func12, Try.ntmps12
    go_wp2
    go_ret
    exact ⟨none, 0, rfl, hh, Below.refl _ _⟩
  | some a =>
    have hmk := fun (w' : World) => run_make_row' (P := Try.prog) 22 9 (.string ByteArray.empty) 16 Try.underlying22 Try.info9 rfl .i64 .i64 n (by omega) (by omega) w'
    clear h0
    go_enter Try.func12, Try.ntmps12
    go_wp2
    clear hq hmk
    go_loopw [4] (fun s wr => ∃ k : Nat, s = .int .i64 k ∧ k ≤ n ∧ wr.rowIs w.heap.size 9 n (fun j => if j < k then .string (hostAt hs j) else .string ByteArray.empty) ∧ Below w.heap.size w wr) (fun s _ => n - (intOf s).toNat)
    case atStart => exact ⟨0, rfl, by omega, clone_start _, (Below.refl _ _).alloc (Nat.le_refl _) _⟩
    case round =>
      obtain ⟨k, rfl, h1, hrow, hbel⟩ := hrel
      by_cases hlt : k < n
      · obtain ⟨b, off, he, hbs, hc⟩ := hh.strs (by rw [l1.out]; omega)
        obtain rfl : a = ⟨b, off, none⟩ := Option.some.inj he
        have hm := (hbel.cell (p := ⟨b, off + k, none⟩) hbs).trans (hc k (by rw [l1.out]; omega))
        have ho := clone_cell hrow hlt
        have hfz := hrow.frozen k
        have R1 := clone_next hrow
        have R2 := hbel.setCell (p := ⟨w.heap.size, k, none⟩) (Nat.le_refl _) (.string (hostAt hs k))
        clear hc he hrow hbel hh
        go_wp2
        go_roundw
        case rel => exact ⟨k + 1, by go_num, by omega, R1, R2⟩
        case measure => simp [intOf]; omega
      · go_wp2
        go_ret
        exact ⟨_, _, rfl, clone_row hrow h1 hlt (by rw [strs_len, l1.out]) (fun i hi => strs_at hs i (by rw [l1.out]; exact hi)), hbel⟩

set_option maxHeartbeats 400000 in
theorem cloneU64_any (n : Nat) (ns : List Int) (ah : Option Addr) (ch : Nat) (w : World) (hh : RowV w ah (u64s ns)) (l1 : Hid (ns.length = n)) (n1 : n ≤ 1048576) (h0 : ah = none → n = 0 ∧ ch = 0) :
    Calls Try.prog 13 #[.slice ah n ch] w fun e w' => Fresh w n (u64s ns) e w' := by
  have hq := fun (w' : World) => Lib.run_eql_slice_nil (P := Try.prog) w' 23 38 ah n ch 0 0 Try.underlying23
  cases ah with
  | none =>
    obtain ⟨rfl, rfl⟩ := h0 rfl
    go_enter Try.func13, Try.ntmps13
    go_wp2
    go_ret
    exact ⟨none, 0, rfl, hh, Below.refl _ _⟩
  | some a =>
    have hmk := fun (w' : World) => run_make_row' (P := Try.prog) 23 38 (.int .u64 0) 8 Try.underlying23 Try.info38 rfl .i64 .i64 n (by omega) (by omega) w'
    clear h0
    go_enter Try.func13, Try.ntmps13
    go_wp2
    clear hq hmk
    go_loopw [4] (fun s wr => ∃ k : Nat, s = .int .i64 k ∧ k ≤ n ∧ wr.rowIs w.heap.size 38 n (fun j => if j < k then .int .u64 (numAt ns j) else .int .u64 0) ∧ Below w.heap.size w wr) (fun s _ => n - (intOf s).toNat)
    case atStart => exact ⟨0, rfl, by omega, clone_start _, (Below.refl _ _).alloc (Nat.le_refl _) _⟩
    case round =>
      obtain ⟨k, rfl, h1, hrow, hbel⟩ := hrel
      by_cases hlt : k < n
      · obtain ⟨b, off, he, hbs, hc⟩ := hh.u64s (by rw [l1.out]; omega)
        obtain rfl : a = ⟨b, off, none⟩ := Option.some.inj he
        have hm := (hbel.cell (p := ⟨b, off + k, none⟩) hbs).trans (hc k (by rw [l1.out]; omega))
        have ho := clone_cell hrow hlt
        have hfz := hrow.frozen k
        have R1 := clone_next hrow
        have R2 := hbel.setCell (p := ⟨w.heap.size, k, none⟩) (Nat.le_refl _) (.int .u64 (numAt ns k))
        clear hc he hrow hbel hh
        go_wp2
        go_roundw
        case rel => exact ⟨k + 1, by go_num, by omega, R1, R2⟩
        case measure => simp [intOf]; omega
      · go_wp2
        go_ret
        exact ⟨_, _, rfl, clone_row hrow h1 hlt (by rw [u64s_len, l1.out]) (fun i hi => u64s_at ns i (by rw [l1.out]; exact hi)), hbel⟩

end Go.Proofs.Qxb6604248a
