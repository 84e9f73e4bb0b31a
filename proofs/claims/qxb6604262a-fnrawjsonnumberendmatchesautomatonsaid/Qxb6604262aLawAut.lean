/-
  THE WALKS of rjb1NumberAccepting (31), rjb1NumberEndModel (17), and the law FnRawjsonNumberEndMatchesAutomaton (5).
-/
import Derived.Test.Qxb6604262aStep
namespace Go.Proofs.Qxb6604262a
open Go.RowKit Plain

theorem step_any (s : Nat) (hs : s ≤ 8) (c v : Int) (w : World) (hv : stp s c = v) : Calls Try.prog 30 #[.int .i64 (s : Int), .int .u8 c] w fun e w' => e = .returned (.int .i64 v) ∧ w' = w := by
  subst hv
  rcases (show s = 0 ∨ s = 1 ∨ s = 2 ∨ s = 3 ∨ s = 4 ∨ s = 5 ∨ s = 6 ∨ s = 7 ∨ s = 8 from by omega) with rfl | rfl | rfl | rfl | rfl | rfl | rfl | rfl | rfl
  · exact step0_any c w
  · exact step1_any c w
  · exact step2_any c w
  · exact step3_any c w
  · exact step4_any c w
  · exact step5_any c w
  · exact step6_any c w
  · exact step7_any c w
  · exact step8_any c w

set_option maxRecDepth 10000 in
set_option maxHeartbeats 1000000 in
theorem acc_any (s : Nat) (hs : s ≤ 8) (b : Bool) (w : World) (hb : acc s = b) : Calls Try.prog 31 #[.int .i64 (s : Int)] w fun e w' => e = .returned (.bool b) ∧ w' = w := by
  subst hb
  rcases (show s = 0 ∨ s = 1 ∨ s = 2 ∨ s = 3 ∨ s = 4 ∨ s = 5 ∨ s = 6 ∨ s = 7 ∨ s = 8 from by omega) with rfl | rfl | rfl | rfl | rfl | rfl | rfl | rfl | rfl
  all_goals
    go_enter Try.func31, Try.ntmps31
    go_wp2
    go_ret
    exact ⟨rfl, rfl⟩

set_option maxRecDepth 10000 in
set_option maxHeartbeats 1000000 in
theorem model_any (zs : List Int) (n i : Nat) (ao : Option Addr) (c : Nat) (w : World) (hb : BV w ao zs) (hn : n ≤ zs.length) (hi : i < n) (hm : n ≤ 2097152) :
    Calls Try.prog 17 #[.slice ao n c, .int .i64 i] w fun e w' => e = .returned (.int .i64 (M (byteAt zs) n 0 i)) ∧ w' = w := by
  obtain ⟨b, off, rfl, hbs, hc⟩ := hb.cells (by omega)
  have HC : Hid (∀ i, i < n → w.cell? ⟨b, off + i, none⟩ = some (.int .u8 (byteAt zs i))) := fun i hi => hc i (by omega)
  clear hc hb
  go_enter Try.func17, Try.ntmps17
  go_wp2
  go_loopw [5, 6] (fun s5 s6 wr => ∃ s j : Nat, s5 = .int .i64 s ∧ s6 = .int .i64 j ∧ s ≤ 8 ∧ j ≤ n ∧ Hid (M (byteAt zs) n 0 i = M (byteAt zs) n s j) ∧ wr = w) (fun _ s6 _ => n - (intOf s6).toNat)
  case atStart => exact ⟨0, i, rfl, rfl, by omega, by omega, rfl, rfl⟩
  case round =>
    obtain ⟨s, j, rfl, rfl, hs, hj, HM, hwr⟩ := hrel
    subst wr
    by_cases hlt : j < n
    · have hx := HC.out j hlt
      by_cases hneg : stp s (byteAt zs j) < 0
      · have hv : Hid (stp s (byteAt zs j) = -1) := stp_neg hneg
        clear hneg
        rcases ha : acc s with _ | _
        · have H : Hid (M (byteAt zs) n 0 i = -1) := by rw [HM.out, M_stop hlt hv.out, ha]; rfl
          have HA : Hid (acc s = false) := ha
          clear ha
          go_wp2_with fail
          refine (step_any s hs _ (-1) _ hv.out).mono ?_
          rintro e wz ⟨rfl, hw⟩
          subst wz
          go_wp2_with fail
          refine (acc_any s hs false _ HA.out).mono ?_
          rintro e wz ⟨rfl, hw⟩
          subst wz
          go_wp2_with fail
          go_ret
          exact ⟨ret_int (by rw [H.out]), rfl⟩
        · have H : Hid (M (byteAt zs) n 0 i = (j : Int)) := by rw [HM.out, M_stop hlt hv.out, ha]; rfl
          have HA : Hid (acc s = true) := ha
          clear ha
          go_wp2_with fail
          refine (step_any s hs _ (-1) _ hv.out).mono ?_
          rintro e wz ⟨rfl, hw⟩
          subst wz
          go_wp2_with fail
          refine (acc_any s hs true _ HA.out).mono ?_
          rintro e wz ⟨rfl, hw⟩
          subst wz
          go_wp2_with fail
          go_ret
          exact ⟨ret_int (by rw [H.out]), rfl⟩
      · obtain ⟨t, ht⟩ := Int.eq_ofNat_of_zero_le (show 0 ≤ stp s (byteAt zs j) by omega)
        have ht8 : t ≤ 8 := by have := stp_le (s := s) (c := byteAt zs j); omega
        have H : Hid (M (byteAt zs) n 0 i = M (byteAt zs) n t (j + 1)) := by rw [HM.out, M_to hlt ht]; rfl
        have HT : Hid (stp s (byteAt zs j) = (t : Int)) := ht
        clear hneg ht
        go_wp2_with fail
        refine (step_any s hs _ (t : Int) _ HT.out).mono ?_
        rintro e wz ⟨rfl, hw⟩
        subst wz
        go_wp2_with fail
        go_roundw
        case rel => exact ⟨t, j + 1, rfl, by go_num, ht8, by omega, H, by first | rfl | trivial⟩
        case measure => simp [intOf]; omega
    · obtain rfl : j = n := by omega
      rcases ha : acc s with _ | _
      · have H : Hid (M (byteAt zs) j 0 i = -1) := by rw [HM.out, M_end, ha]; rfl
        have HA : Hid (acc s = false) := ha
        clear ha
        go_wp2_with fail
        refine (acc_any s hs false _ HA.out).mono ?_
        rintro e wz ⟨rfl, hw⟩
        subst wz
        go_wp2_with fail
        go_ret
        exact ⟨ret_int (by rw [H.out]), rfl⟩
      · have H : Hid (M (byteAt zs) j 0 i = (j : Int)) := by rw [HM.out, M_end, ha]; rfl
        have HA : Hid (acc s = true) := ha
        clear ha
        go_wp2_with fail
        refine (acc_any s hs true _ HA.out).mono ?_
        rintro e wz ⟨rfl, hw⟩
        subst wz
        go_wp2_with fail
        go_ret
        exact ⟨ret_int (by rw [H.out]), rfl⟩

set_option maxRecDepth 10000 in
set_option maxHeartbeats 2000000 in
theorem lawAut (zs : List Int) (n : Nat) (ao : Option Addr) (c : Nat) (i : Int) (w : World) (A : InB w zs ao n c) (i1 : -9223372036854775808 ≤ i) (i2 : i ≤ 9223372036854775807) :
    Calls Try.prog 5 #[.slice ao n c, .int .i64 i] w fun e w' => LawOk w e w' := by
  have hnl := fun (w' : World) => run_neq_slice_nil_any (P := Try.prog) w' 22 5 ao n c 0 0 Try.underlying22
  go_enter Try.func5, Try.ntmps5
  go_wp2_with fail
  refine (zz15_any n ao c i _ A.bd).mono ?_
  rintro e w1 ⟨⟨z, rfl⟩, hw⟩
  subst w1
  cases z
  · go_wp2_with fail
    go_ret
    exact ⟨rfl, Below.refl _ _⟩
  by_cases h1 : n ≤ 1048576
  rotate_left
  · go_wp2_with fail
    go_ret
    exact ⟨rfl, Below.refl _ _⟩
  by_cases h2 : 0 ≤ i
  rotate_left
  · go_wp2_with fail
    go_ret
    exact ⟨rfl, Below.refl _ _⟩
  by_cases h3 : i < (n : Int)
  rotate_left
  · go_wp2_with fail
    go_ret
    exact ⟨rfl, Below.refl _ _⟩
  obtain ⟨k, rfl⟩ := Int.eq_ofNat_of_zero_le h2
  obtain ⟨b, off, rfl, hbs, hc⟩ := A.bv.cells (by rw [A.len]; omega)
  have hmk := fun (w' : World) => run_make_row' (P := Try.prog) 22 5 (.int .u8 0) 1 Try.underlying22 Try.info5 rfl .i64 .i64 n (by omega) (by omega) w'
  obtain ⟨W1, hcp, bv1, b1⟩ := copy_fresh zs n b off c w A.len hc hbs
  have hn1 : n ≤ zs.length := by rw [A.len]; exact Nat.le_refl _
  have hkn : k < n := by omega
  have HE : Hid (numE (byteAt zs) n k = M (byteAt zs) n 0 k) := numE_mdl hkn
  clear hc hbs A h2 h3 i1 i2
  go_wp2_with fail
  clear hcp hmk hnl
  refine (zzNumberEnd_any zs n k _ n _ bv1 hn1 hkn (by omega)).mono ?_
  rintro e wz ⟨rfl, hw⟩
  subst wz
  rw [HE.out]
  go_wp2_with fail
  refine (model_any zs n k _ n _ bv1 hn1 hkn (by omega)).mono ?_
  rintro e wz ⟨rfl, hw⟩
  subst wz
  go_wp2_with fail
  go_ret
  exact ⟨rfl, b1⟩

end Go.Proofs.Qxb6604262a
