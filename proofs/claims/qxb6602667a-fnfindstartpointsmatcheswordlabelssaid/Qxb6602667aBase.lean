/-
  VIEWS of seat b6602667a (words in memory), and the walks of zzBytes (5), fspBytes (6), fspClone (7).
-/
import Derived.Test.Qxb6602667aPreds
import Derived.Deep.OwnRows
import Derived.Lib.SliceRun
namespace Go.Proofs.Qxb6602667a
open Go.RowKit Plain

/-- The i-th word. -/
def wordAt (hs : List ByteArray) (i : Nat) : ByteArray := hs.getD i ByteArray.empty

/-- From the address 'ao' on lie the cells 'cs'. -/
structure RowV (w : World) (ao : Option Addr) (cs : List Value) : Prop where
  lies : cs = [] ∨ ∃ b off, ao = some ⟨b, off, none⟩ ∧ b < w.heap.size ∧ ∀ i, i < cs.length → w.cell? ⟨b, off + i, none⟩ = cs[i]?

theorem RowV.below {w w' : World} {ao : Option Addr} {cs : List Value} (h : RowV w ao cs) (hb : Below w.heap.size w w') : RowV w' ao cs := by
  refine ⟨?_⟩
  rcases h.lies with h | ⟨b, off, h1, h2, h3⟩
  · exact .inl h
  · exact .inr ⟨b, off, h1, Nat.lt_of_lt_of_le h2 hb.size, fun i hi => (hb.cell (p := ⟨b, off + i, none⟩) h2).trans (h3 i hi)⟩

theorem below_drewN' (w : World) (n : Nat) : Below w.heap.size w (w.drewN n) := below_drewN (Below.refl _ _) n
theorem RowV.drewN {w : World} {ao : Option Addr} {cs : List Value} (h : RowV w ao cs) (n : Nat) : RowV (w.drewN n) ao cs := h.below (below_drewN' w n)
theorem rowV_nil (w : World) (ao : Option Addr) : RowV w ao [] := ⟨.inl rfl⟩

def strs (hs : List ByteArray) : List Value := hs.map Value.string
theorem strs_len (hs : List ByteArray) : (strs hs).length = hs.length := by simp [strs]
theorem strs_at (hs : List ByteArray) (i : Nat) (hi : i < hs.length) : (strs hs)[i]? = some (.string (wordAt hs i)) := by simp [strs, wordAt, hi]

theorem RowV.strs {w : World} {ao : Option Addr} {hs : List ByteArray} (h : RowV w ao (strs hs)) (hne : 0 < hs.length) :
    ∃ b off, ao = some ⟨b, off, none⟩ ∧ b < w.heap.size ∧ ∀ i, i < hs.length → w.cell? ⟨b, off + i, none⟩ = some (.string (wordAt hs i)) := by
  rcases h.lies with h | ⟨b, off, h1, h2, h3⟩
  · have := congrArg List.length h; rw [strs_len, List.length_nil] at this; omega
  · exact ⟨b, off, h1, h2, fun i hi => (h3 i (by rw [strs_len]; exact hi)).trans (strs_at hs i hi)⟩

theorem Try.info9 : (Try.prog.info? 9).map (fun i => (i.zero, i.size, i.bytes)) = some (some (.string ByteArray.empty), 1, 16) := by kernel_rfl

theorem clone_start {w : World} {z : Value} {n : Nat} {t : TypeId} (f : Nat → Value) : (w.alloc (.cells (madeCells #[z] n) t)).rowIs w.heap.size t n (fun j => if j < 0 then f j else z) :=
  (World.rowIs_made w z n t).congr fun i _ => by simp
theorem clone_next {w : World} {b t n k : Nat} {z : Value} {f : Nat → Value} (h : w.rowIs b t n (fun j => if j < k then f j else z)) : (w.setCell ⟨b, k, none⟩ (f k)).rowIs b t n (fun j => if j < k + 1 then f j else z) :=
  (h.set k (f k)).congr fun i _ => by
    by_cases e : i = k
    · subst e; simp
    · by_cases l : i < k
      · simp [e, l, show i < k + 1 by omega]
      · simp [e, l, show ¬ i < k + 1 by omega]
theorem clone_cell {w : World} {b t n k : Nat} {z : Value} {f : Nat → Value} (h : w.rowIs b t n (fun j => if j < k then f j else z)) (hk : k < n) : w.cell? ⟨b, k, none⟩ = some z := by
  have := h.cell hk
  simpa using this
theorem clone_row {w : World} {b t n k : Nat} {z : Value} {f : Nat → Value} (h : w.rowIs b t n (fun j => if j < k then f j else z)) (h1 : k ≤ n) (hk : ¬ k < n) {cs : List Value} (hl : cs.length = n) (hf : ∀ i, i < n → cs[i]? = some (f i)) : RowV w (some ⟨b, 0, none⟩) cs := by
  refine ⟨.inr ⟨b, 0, rfl, h.lt, fun i hi => ?_⟩⟩
  rw [hf i (by omega), Nat.zero_add]
  have := h.cell (i := i) (by omega)
  rw [if_pos (by omega)] at this
  exact this

/-- A result that is a slice of the n words hs: nil, or in new memory; what was there is as it was. -/
def Fresh (w : World) (n : Nat) (hs : List ByteArray) (e : Ending) (w' : World) : Prop := ∃ ao c, e = .returned (.slice ao n c) ∧ RowV w' ao (strs hs) ∧ Below w.heap.size w w' ∧ n ≤ c ∧ ((ao = none ∧ n = 0 ∧ c = 0) ∨ ∃ b, ao = some ⟨b, 0, none⟩)

set_option maxHeartbeats 400000 in
theorem clone_any (n : Nat) (hs : List ByteArray) (ah : Option Addr) (ch : Nat) (w : World) (hh : RowV w ah (strs hs)) (l1 : Hid (hs.length = n)) (n1 : n ≤ 65536) (h0 : ah = none → n = 0 ∧ ch = 0) :
    Calls Try.prog 7 #[.slice ah n ch] w fun e w' => Fresh w n hs e w' := by
  have hq := fun (w' : World) => Lib.run_eql_slice_nil (P := Try.prog) w' 22 9 ah n ch 0 0 Try.underlying22
  cases ah with
  | none =>
    obtain ⟨rfl, rfl⟩ := h0 rfl
    go_enter Try.func7, Try.ntmps7
    go_wp2
    go_ret
    exact ⟨none, 0, rfl, hh, Below.refl _ _, Nat.le_refl _, .inl ⟨rfl, rfl, rfl⟩⟩
  | some a =>
    have hmk := fun (w' : World) => run_make_row' (P := Try.prog) 22 9 (.string ByteArray.empty) 16 Try.underlying22 Try.info9 rfl .i64 .i64 n (by omega) (by omega) w'
    clear h0
    go_enter Try.func7, Try.ntmps7
    go_wp2
    clear hq hmk
    go_loopw [4] (fun s wr => ∃ k : Nat, s = .int .i64 k ∧ k ≤ n ∧ wr.rowIs w.heap.size 9 n (fun j => if j < k then .string (wordAt hs j) else .string ByteArray.empty) ∧ Below w.heap.size w wr) (fun s _ => n - (intOf s).toNat)
    case atStart => exact ⟨0, rfl, by omega, clone_start _, (Below.refl _ _).alloc (Nat.le_refl _) _⟩
    case round =>
      obtain ⟨k, rfl, h1, hrow, hbel⟩ := hrel
      by_cases hlt : k < n
      · obtain ⟨b, off, he, hbs, hc⟩ := hh.strs (by rw [l1.out]; omega)
        obtain rfl : a = ⟨b, off, none⟩ := Option.some.inj he
        have hm := (hbel.cell (p := ⟨b, off + k, none⟩) hbs).trans (hc k (by rw [l1.out]; omega))
        have ho := clone_cell hrow hlt
        have hfz := hrow.frozen k
        have R1 := clone_next hrow
        have R2 := hbel.setCell (p := ⟨w.heap.size, k, none⟩) (Nat.le_refl _) (.string (wordAt hs k))
        clear hc he hrow hbel hh
        go_wp2
        go_roundw
        case rel => exact ⟨k + 1, by go_num, by omega, R1, R2⟩
        case measure => simp [intOf]; omega
      · go_wp2
        go_ret
        exact ⟨_, _, rfl, clone_row hrow h1 hlt (by rw [strs_len, l1.out]) (fun i hi => strs_at hs i (by rw [l1.out]; exact hi)), hbel, Nat.le_refl _, .inr ⟨_, rfl⟩⟩


/-- Some bool; nothing has turned. -/
def AnyB (w : World) (e : Ending) (w' : World) : Prop := (∃ b, e = .returned (.bool b)) ∧ w' = w
/-- Some int; nothing has turned. -/
def AnyI (w : World) (e : Ending) (w' : World) : Prop := (∃ t : Int, e = .returned (.int .i64 t)) ∧ w' = w

theorem size_at (hs : List ByteArray) (k : Nat) (h : ∀ s ∈ hs, s.size ≤ maxLen) : (wordAt hs k).size ≤ 9223372036854775807 := by
  by_cases hk : k < hs.length
  · exact h _ (by simp [wordAt, hk])
  · have : wordAt hs k = ByteArray.empty := by unfold wordAt; rw [List.getD_eq_getElem?_getD, List.getElem?_eq_none (by omega)]; rfl
    rw [this]
    show 0 ≤ _
    omega

set_option maxHeartbeats 1000000 in
theorem zz5_any (hs : List ByteArray) (n : Nat) (ao : Option Addr) (c : Nat) (w : World) (hh : RowV w ao (strs hs)) (l1 : Hid (hs.length = n)) (b1 : n ≤ maxLen) (D : Hid (∀ s ∈ hs, s.size ≤ maxLen)) :
    Calls Try.prog 5 #[.slice ao n c] w fun e w' => AnyB w e w' := by
  unfold maxLen at b1
  go_enter Try.func5, Try.ntmps5
  go_wp2
  all_goals first | (go_ret; exact ⟨⟨_, rfl⟩, rfl⟩) | skip
  go_loop [3, 4] (fun s t => ∃ (z : Int) (k : Nat), s = .int .i64 z ∧ t = .int .i64 k ∧ k ≤ n ∧ 0 ≤ z ∧ z ≤ 1048576) (fun _ t => n - (intOf t).toNat)
  case atStart => exact ⟨_, 0, rfl, rfl, by omega, by omega, by omega⟩
  case round =>
    obtain ⟨z, k, rfl, rfl, h1, h2, h3⟩ := hrel
    by_cases hlt : k < n
    · obtain ⟨b, off, rfl, hbs, hcell⟩ := hh.strs (by rw [l1.out]; omega)
      have hm := hcell k (by rw [l1.out]; omega)
      have hz := size_at hs k D.out
      clear hcell
      go_wp2
      · go_ret
        exact ⟨⟨_, rfl⟩, rfl⟩
      · go_ret
        exact ⟨⟨_, rfl⟩, rfl⟩
      · go_round
        case rel => exact ⟨_, k + 1, rfl, by go_num, by omega, by omega, by assumption⟩
        case measure => simp [intOf]; omega
    · go_wp2
      all_goals (go_ret; exact ⟨⟨_, rfl⟩, rfl⟩)

set_option maxHeartbeats 1000000 in
theorem bytes6_any (hs : List ByteArray) (n : Nat) (ao : Option Addr) (c : Nat) (x : Int) (w : World) (hh : RowV w ao (strs hs)) (l1 : Hid (hs.length = n)) (b1 : n ≤ maxLen) :
    Calls Try.prog 6 #[.int .i64 x, .slice ao n c] w fun e w' => AnyI w e w' := by
  unfold maxLen at b1
  go_enter Try.func6, Try.ntmps6
  go_wp2
  go_loop [0, 5] (fun s t => ∃ (z : Int) (k : Nat), s = .int .i64 z ∧ t = .int .i64 k ∧ k ≤ n) (fun _ t => n - (intOf t).toNat)
  case atStart => exact ⟨_, 0, rfl, rfl, by omega⟩
  case round =>
    obtain ⟨z, k, rfl, rfl, h1⟩ := hrel
    by_cases hlt : k < n
    · obtain ⟨b, off, rfl, hbs, hcell⟩ := hh.strs (by rw [l1.out]; omega)
      have hm := hcell k (by rw [l1.out]; omega)
      clear hcell
      go_wp2
      · go_ret
        exact ⟨⟨_, rfl⟩, rfl⟩
      · go_round
        case rel => exact ⟨_, k + 1, rfl, by go_num, by omega⟩
        case measure => simp [intOf]; omega
    · go_wp2
      go_ret
      exact ⟨⟨_, rfl⟩, rfl⟩

end Go.Proofs.Qxb6602667a
