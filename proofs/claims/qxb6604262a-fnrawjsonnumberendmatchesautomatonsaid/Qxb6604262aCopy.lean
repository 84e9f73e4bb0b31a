/-
  ZZnumberEnd (16), the zzBytes (15, 18); the law SelfDelimiting (6), walked.
-/
import Derived.Test.Qxb6604262aWalks
import Derived.Deep.OwnRows
import Derived.Laws.CopyOwn
namespace Go.Proofs.Qxb6604262a
open Go.RowKit Plain

theorem Try.info5 : (Try.prog.info? 5).map (fun i => (i.zero, i.size, i.bytes)) = some (some (.int .u8 0), 1, 1) := by kernel_rfl

set_option maxHeartbeats 400000 in
theorem zzNumberEnd_any (zs : List Int) (n i : Nat) (ao : Option Addr) (c : Nat) (w : World) (hb : BV w ao zs) (hn : n ≤ zs.length) (hi : i < n) (hm : n ≤ 2097152) :
    Calls Try.prog 16 #[.slice ao n c, .int .i64 i] w fun e w' => e = .returned (.int .i64 (numE (byteAt zs) n i)) ∧ w' = w := by
  go_enter Try.func16, Try.ntmps16
  go_wp2_with fail
  refine (numberEnd_any zs n i ao c _ hb hn hi hm).mono ?_
  rintro e wz ⟨rfl, hw⟩
  subst wz
  go_wp2_with fail
  go_ret
  exact ⟨rfl, rfl⟩

/-- Some bool; nothing has turned. -/
def AnyB (w : World) (e : Ending) (w' : World) : Prop := (∃ b, e = .returned (.bool b)) ∧ w' = w

set_option maxHeartbeats 400000 in
theorem zz15_any (n : Nat) (ao : Option Addr) (c : Nat) (i : Int) (w : World) (hn : n ≤ maxLen) : Calls Try.prog 15 #[.slice ao n c, .int .i64 i] w fun e w' => AnyB w e w' := by
  unfold maxLen at hn
  go_enter Try.func15, Try.ntmps15
  go_wp2
  all_goals (go_ret; exact ⟨⟨_, rfl⟩, rfl⟩)
set_option maxHeartbeats 400000 in
theorem zz18_any (n : Nat) (ao : Option Addr) (c : Nat) (i : Int) (w : World) (hn : n ≤ maxLen) : Calls Try.prog 18 #[.slice ao n c, .int .i64 i] w fun e w' => AnyB w e w' := by
  unfold maxLen at hn
  go_enter Try.func18, Try.ntmps18
  go_wp2
  all_goals (go_ret; exact ⟨⟨_, rfl⟩, rfl⟩)

/-- The law's end. -/
def LawOk (w : World) (e : Ending) (w' : World) : Prop := e = .returned (.bool true) ∧ Below w.heap.size w w'

/-- What is known of the text as it comes in. -/
structure InB (w : World) (zs : List Int) (ao : Option Addr) (n c : Nat) : Prop where
  bv : BV w ao zs
  len : zs.length = n
  bd : n ≤ maxLen
  nil : ao = none → n = 0 ∧ c = 0

theorem Try.size5 : (Try.prog.info? 5).map (·.size) = some 1 := by kernel_rfl

/-- 'zzc := make([]byte, n); copy(zzc, text)': behind it the new row holds the text's bytes. -/
theorem copy_fresh (zs : List Int) (n b off c : Nat) (w : World) (hl : zs.length = n) (hc : ∀ i, i < zs.length → w.cell? ⟨b, off + i, none⟩ = some (.int .u8 (byteAt zs i))) (hb : b < w.heap.size) :
    ∃ W1, (Builtin.copy_ #[22, 22] 3 #[.slice (some ⟨w.heap.size, 0, none⟩) n n, .slice (some ⟨b, off, none⟩) n c]).run Try.prog (w.alloc (.cells (madeCells #[.int .u8 0] n) 5)) = .ok (goInt n) W1 ∧ BV W1 (some ⟨w.heap.size, 0, none⟩) zs ∧ Below w.heap.size w W1 := by
  have hg : (w.alloc (.cells (madeCells #[.int .u8 0] n) 5)).heap[w.heap.size]? = some (.cells (madeCells #[.int .u8 0] n) 5 (0, 0)) := heap_alloc_new w _
  have hlen : (zs.map (Value.int .u8)).length = n := by rw [List.length_map]; exact hl
  have hsrc : ∀ j v, (zs.map (Value.int .u8))[j]? = some v → (w.alloc (.cells (madeCells #[.int .u8 0] n) 5)).cell? ((⟨b, off, none⟩ : Addr).add j) = some v := by
    intro j v hv
    have hj : j < zs.length := by have := (List.getElem?_eq_some_iff.1 hv).1; simpa using this
    rw [Addr.add_lit, World.cell?_alloc_past _ _ _ hb, hc j hj, ← hv]
    simp [byteAt, hj]
  have hr := run_copy_row (P := Try.prog) (w.alloc (.cells (madeCells #[.int .u8 0] n) 5)) 22 22 3 5 w.heap.size 0 n n ⟨b, off, none⟩ n c (madeCells #[.int .u8 0] n) 5 (zs.map (Value.int .u8)) Try.underlying22 Try.size5 hg (by rw [hlen]; exact (Nat.min_self n).symm) hsrc (by rw [size_madeCells]; omega) (by
    intro v hv
    obtain ⟨x, _, rfl⟩ := List.mem_map.1 hv
    rfl)
  rw [hlen] at hr
  refine ⟨_, hr, ⟨.inr ⟨w.heap.size, 0, rfl, by simp [World.setRow], fun i hi => ?_⟩⟩, ?_⟩
  · rw [cell_setRow_same _ _ _ _ _ _ _ hg]
    simp only [List.take_zero, List.nil_append, List.getElem?_toArray, Nat.zero_add]
    rw [List.getElem?_append_left (by simpa using hi)]
    simp [byteAt, hi]
  · exact below_setRow ((Below.refl _ _).alloc (Nat.le_refl _) _) (Nat.le_refl _) _

set_option maxRecDepth 10000 in
set_option maxHeartbeats 2000000 in
theorem lawSelf (zs : List Int) (n : Nat) (ao : Option Addr) (c : Nat) (i : Int) (w : World) (A : InB w zs ao n c) (i1 : -9223372036854775808 ≤ i) (i2 : i ≤ 9223372036854775807) :
    Calls Try.prog 6 #[.slice ao n c, .int .i64 i] w fun e w' => LawOk w e w' := by
  have hnl := fun (w' : World) => run_neq_slice_nil_any (P := Try.prog) w' 22 5 ao n c 0 0 Try.underlying22
  go_enter Try.func6, Try.ntmps6
  go_wp2_with fail
  refine (zz18_any n ao c i _ A.bd).mono ?_
  rintro e w1 ⟨⟨z, rfl⟩, hw⟩
  subst w1
  cases z
  · go_wp2_with fail
    go_ret
    exact ⟨rfl, Below.refl _ _⟩
  by_cases h1 : n ≤ 1048576
  rotate_left
  · go_wp2_with fail
    go_ret
    exact ⟨rfl, Below.refl _ _⟩
  by_cases h2 : 0 ≤ i
  rotate_left
  · go_wp2_with fail
    go_ret
    exact ⟨rfl, Below.refl _ _⟩
  by_cases h3 : i < (n : Int)
  rotate_left
  · go_wp2_with fail
    go_ret
    exact ⟨rfl, Below.refl _ _⟩
  obtain ⟨k, rfl⟩ := Int.eq_ofNat_of_zero_le h2
  obtain ⟨b, off, rfl, hbs, hc⟩ := A.bv.cells (by rw [A.len]; omega)
  have hmk := fun (w' : World) => run_make_row' (P := Try.prog) 22 5 (.int .u8 0) 1 Try.underlying22 Try.info5 rfl .i64 .i64 n (by omega) (by omega) w'
  obtain ⟨W1, hcp, bv1, b1⟩ := copy_fresh zs n b off c w A.len hc hbs
  have hn1 : n ≤ zs.length := by rw [A.len]; exact Nat.le_refl _
  have hkn : k < n := by omega
  clear hc hbs A h2 h3 i1 i2
  go_wp2_with fail
  clear hcp hmk hnl
  refine (zzNumberEnd_any zs n k _ n _ bv1 hn1 hkn (by omega)).mono ?_
  rintro e wz ⟨rfl, hw⟩
  subst wz
  rcases numE_ends (T := byteAt zs) hkn with hE | hE
  · rw [hE]
    go_wp2_with fail
    go_ret
    exact ⟨rfl, b1⟩
  · obtain ⟨m, hm⟩ := Int.eq_ofNat_of_zero_le (show 0 ≤ numE (byteAt zs) n k by omega)
    have HM : Hid (numE (byteAt zs) m k = (m : Int)) := numE_cut hkn hm
    rw [hm] at hE ⊢
    clear hm
    obtain ⟨g1, g2⟩ := hE
    have g1' : k < m := by omega
    have g2' : m ≤ n := by omega
    go_wp2_with fail
    refine (zzNumberEnd_any zs m k _ n _ bv1 (by omega) g1' (by omega)).mono ?_
    rintro e wz ⟨rfl, hw⟩
    subst wz
    rw [HM.out]
    go_wp2_with fail
    go_ret
    exact ⟨rfl, b1⟩

end Go.Proofs.Qxb6604262a
