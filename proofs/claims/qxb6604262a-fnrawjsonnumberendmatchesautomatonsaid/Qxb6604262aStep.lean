/-
  THE WALKS of rjb1NumberStep (30), rjb1NumberAccepting (31), rjb1NumberEndModel (17), and the law FnRawjsonNumberEndMatchesAutomaton (5).
-/
import Derived.Test.Qxb6604262aPlain3
import Derived.Test.Qxb6604262aLawFmt
namespace Go.Proofs.Qxb6604262a
open Go.RowKit Plain

set_option maxRecDepth 10000 in
set_option maxHeartbeats 1000000 in
theorem step0_any (c : Int) (w : World) : Calls Try.prog 30 #[.int .i64 0, .int .u8 c] w fun e w' => e = .returned (.int .i64 (stp 0 c)) ∧ w' = w := by
  by_cases e45 : c = 45
  · have t45 : (c == 45) = true := beq_iff_eq.2 e45
    have H : Hid (stp 0 c = 1) := by rw [e45]; show stp 0 _ = _; decide
    clear e45
    go_enter Try.func30, Try.ntmps30
    go_wp2
    go_ret
    exact ⟨ret_int (by rw [H.out]), rfl⟩
  · have t45 : (c == 45) = false := beq_eq_false_iff_ne.2 e45
    by_cases e48 : c = 48
    · have t48 : (c == 48) = true := beq_iff_eq.2 e48
      have H : Hid (stp 0 c = 2) := by rw [e48]; show stp 0 _ = _; decide
      clear e45 e48
      go_enter Try.func30, Try.ntmps30
      go_wp2
      go_ret
      exact ⟨ret_int (by rw [H.out]), rfl⟩
    · have t48 : (c == 48) = false := beq_eq_false_iff_ne.2 e48
      by_cases r1 : 49 ≤ c
      · by_cases r2 : c ≤ 57
        · have H : Hid (stp 0 c = 3) := by simp [Hid, stp, e45, e48, r1, r2]
          clear e45 e48
          go_enter Try.func30, Try.ntmps30
          go_wp2
          go_ret
          exact ⟨ret_int (by rw [H.out]), rfl⟩
        · have H : Hid (stp 0 c = -1) := by simp [Hid, stp, e45, e48, r1, r2]
          clear e45 e48
          go_enter Try.func30, Try.ntmps30
          go_wp2
          go_ret
          exact ⟨ret_int (by rw [H.out]), rfl⟩
      · have H : Hid (stp 0 c = -1) := by simp [Hid, stp, e45, e48, r1]
        clear e45 e48
        go_enter Try.func30, Try.ntmps30
        go_wp2
        go_ret
        exact ⟨ret_int (by rw [H.out]), rfl⟩

set_option maxRecDepth 10000 in
set_option maxHeartbeats 1000000 in
theorem step1_any (c : Int) (w : World) : Calls Try.prog 30 #[.int .i64 1, .int .u8 c] w fun e w' => e = .returned (.int .i64 (stp 1 c)) ∧ w' = w := by
  by_cases e48 : c = 48
  · have t48 : (c == 48) = true := beq_iff_eq.2 e48
    have H : Hid (stp 1 c = 2) := by rw [e48]; show stp 1 _ = _; decide
    clear e48
    go_enter Try.func30, Try.ntmps30
    go_wp2
    go_ret
    exact ⟨ret_int (by rw [H.out]), rfl⟩
  · have t48 : (c == 48) = false := beq_eq_false_iff_ne.2 e48
    by_cases r1 : 49 ≤ c
    · by_cases r2 : c ≤ 57
      · have H : Hid (stp 1 c = 3) := by simp [Hid, stp, e48, r1, r2]
        clear e48
        go_enter Try.func30, Try.ntmps30
        go_wp2
        go_ret
        exact ⟨ret_int (by rw [H.out]), rfl⟩
      · have H : Hid (stp 1 c = -1) := by simp [Hid, stp, e48, r1, r2]
        clear e48
        go_enter Try.func30, Try.ntmps30
        go_wp2
        go_ret
        exact ⟨ret_int (by rw [H.out]), rfl⟩
    · have H : Hid (stp 1 c = -1) := by simp [Hid, stp, e48, r1]
      clear e48
      go_enter Try.func30, Try.ntmps30
      go_wp2
      go_ret
      exact ⟨ret_int (by rw [H.out]), rfl⟩

set_option maxRecDepth 10000 in
set_option maxHeartbeats 1000000 in
theorem step2_any (c : Int) (w : World) : Calls Try.prog 30 #[.int .i64 2, .int .u8 c] w fun e w' => e = .returned (.int .i64 (stp 2 c)) ∧ w' = w := by
  by_cases e46 : c = 46
  · have t46 : (c == 46) = true := beq_iff_eq.2 e46
    have H : Hid (stp 2 c = 4) := by rw [e46]; show stp 2 _ = _; decide
    clear e46
    go_enter Try.func30, Try.ntmps30
    go_wp2
    go_ret
    exact ⟨ret_int (by rw [H.out]), rfl⟩
  · have t46 : (c == 46) = false := beq_eq_false_iff_ne.2 e46
    by_cases e101 : c = 101
    · have t101 : (c == 101) = true := beq_iff_eq.2 e101
      have H : Hid (stp 2 c = 6) := by rw [e101]; show stp 2 _ = _; decide
      clear e46 e101
      go_enter Try.func30, Try.ntmps30
      go_wp2
      go_ret
      exact ⟨ret_int (by rw [H.out]), rfl⟩
    · have t101 : (c == 101) = false := beq_eq_false_iff_ne.2 e101
      by_cases e69 : c = 69
      · have t69 : (c == 69) = true := beq_iff_eq.2 e69
        have H : Hid (stp 2 c = 6) := by rw [e69]; show stp 2 _ = _; decide
        clear e46 e101 e69
        go_enter Try.func30, Try.ntmps30
        go_wp2
        go_ret
        exact ⟨ret_int (by rw [H.out]), rfl⟩
      · have t69 : (c == 69) = false := beq_eq_false_iff_ne.2 e69
        have H : Hid (stp 2 c = -1) := by simp [Hid, stp, e46, e101, e69]
        clear e46 e101 e69
        go_enter Try.func30, Try.ntmps30
        go_wp2
        go_ret
        exact ⟨ret_int (by rw [H.out]), rfl⟩

set_option maxRecDepth 10000 in
set_option maxHeartbeats 1000000 in
theorem step3_any (c : Int) (w : World) : Calls Try.prog 30 #[.int .i64 3, .int .u8 c] w fun e w' => e = .returned (.int .i64 (stp 3 c)) ∧ w' = w := by
  rcases hd : isD c with _ | _
  · by_cases e46 : c = 46
    · have t46 : (c == 46) = true := beq_iff_eq.2 e46
      have H : Hid (stp 3 c = 4) := by rw [e46]; show stp 3 _ = _; decide
      clear e46
      have HD : Hid (isD c = false) := hd
      clear hd
      go_enter Try.func30, Try.ntmps30
      go_wp2_with fail
      refine (isDigit_is c false _ HD.out).mono ?_
      rintro e wz ⟨rfl, hw⟩
      subst wz
      go_wp2_with fail
      go_ret
      exact ⟨ret_int (by rw [H.out]), rfl⟩
    · have t46 : (c == 46) = false := beq_eq_false_iff_ne.2 e46
      by_cases e101 : c = 101
      · have t101 : (c == 101) = true := beq_iff_eq.2 e101
        have H : Hid (stp 3 c = 6) := by rw [e101]; show stp 3 _ = _; decide
        clear e46 e101
        have HD : Hid (isD c = false) := hd
        clear hd
        go_enter Try.func30, Try.ntmps30
        go_wp2_with fail
        refine (isDigit_is c false _ HD.out).mono ?_
        rintro e wz ⟨rfl, hw⟩
        subst wz
        go_wp2_with fail
        go_ret
        exact ⟨ret_int (by rw [H.out]), rfl⟩
      · have t101 : (c == 101) = false := beq_eq_false_iff_ne.2 e101
        by_cases e69 : c = 69
        · have t69 : (c == 69) = true := beq_iff_eq.2 e69
          have H : Hid (stp 3 c = 6) := by rw [e69]; show stp 3 _ = _; decide
          clear e46 e101 e69
          have HD : Hid (isD c = false) := hd
          clear hd
          go_enter Try.func30, Try.ntmps30
          go_wp2_with fail
          refine (isDigit_is c false _ HD.out).mono ?_
          rintro e wz ⟨rfl, hw⟩
          subst wz
          go_wp2_with fail
          go_ret
          exact ⟨ret_int (by rw [H.out]), rfl⟩
        · have t69 : (c == 69) = false := beq_eq_false_iff_ne.2 e69
          have H : Hid (stp 3 c = -1) := by simp [Hid, stp, hd, e46, e101, e69]
          clear e46 e101 e69
          have HD : Hid (isD c = false) := hd
          clear hd
          go_enter Try.func30, Try.ntmps30
          go_wp2_with fail
          refine (isDigit_is c false _ HD.out).mono ?_
          rintro e wz ⟨rfl, hw⟩
          subst wz
          go_wp2_with fail
          go_ret
          exact ⟨ret_int (by rw [H.out]), rfl⟩
  · have H : Hid (stp 3 c = 3) := by simp [Hid, stp, hd]
    have HD : Hid (isD c = true) := hd
    clear hd
    go_enter Try.func30, Try.ntmps30
    go_wp2_with fail
    refine (isDigit_is c true _ HD.out).mono ?_
    rintro e wz ⟨rfl, hw⟩
    subst wz
    go_wp2_with fail
    go_ret
    exact ⟨ret_int (by rw [H.out]), rfl⟩

set_option maxRecDepth 10000 in
set_option maxHeartbeats 1000000 in
theorem step4_any (c : Int) (w : World) : Calls Try.prog 30 #[.int .i64 4, .int .u8 c] w fun e w' => e = .returned (.int .i64 (stp 4 c)) ∧ w' = w := by
  rcases hd : isD c with _ | _
  · have H : Hid (stp 4 c = -1) := by simp [Hid, stp, hd]
    have HD : Hid (isD c = false) := hd
    clear hd
    go_enter Try.func30, Try.ntmps30
    go_wp2_with fail
    refine (isDigit_is c false _ HD.out).mono ?_
    rintro e wz ⟨rfl, hw⟩
    subst wz
    go_wp2_with fail
    go_ret
    exact ⟨ret_int (by rw [H.out]), rfl⟩
  · have H : Hid (stp 4 c = 5) := by simp [Hid, stp, hd]
    have HD : Hid (isD c = true) := hd
    clear hd
    go_enter Try.func30, Try.ntmps30
    go_wp2_with fail
    refine (isDigit_is c true _ HD.out).mono ?_
    rintro e wz ⟨rfl, hw⟩
    subst wz
    go_wp2_with fail
    go_ret
    exact ⟨ret_int (by rw [H.out]), rfl⟩

set_option maxRecDepth 10000 in
set_option maxHeartbeats 1000000 in
theorem step5_any (c : Int) (w : World) : Calls Try.prog 30 #[.int .i64 5, .int .u8 c] w fun e w' => e = .returned (.int .i64 (stp 5 c)) ∧ w' = w := by
  rcases hd : isD c with _ | _
  · by_cases e101 : c = 101
    · have t101 : (c == 101) = true := beq_iff_eq.2 e101
      have H : Hid (stp 5 c = 6) := by rw [e101]; show stp 5 _ = _; decide
      clear e101
      have HD : Hid (isD c = false) := hd
      clear hd
      go_enter Try.func30, Try.ntmps30
      go_wp2_with fail
      refine (isDigit_is c false _ HD.out).mono ?_
      rintro e wz ⟨rfl, hw⟩
      subst wz
      go_wp2_with fail
      go_ret
      exact ⟨ret_int (by rw [H.out]), rfl⟩
    · have t101 : (c == 101) = false := beq_eq_false_iff_ne.2 e101
      by_cases e69 : c = 69
      · have t69 : (c == 69) = true := beq_iff_eq.2 e69
        have H : Hid (stp 5 c = 6) := by rw [e69]; show stp 5 _ = _; decide
        clear e101 e69
        have HD : Hid (isD c = false) := hd
        clear hd
        go_enter Try.func30, Try.ntmps30
        go_wp2_with fail
        refine (isDigit_is c false _ HD.out).mono ?_
        rintro e wz ⟨rfl, hw⟩
        subst wz
        go_wp2_with fail
        go_ret
        exact ⟨ret_int (by rw [H.out]), rfl⟩
      · have t69 : (c == 69) = false := beq_eq_false_iff_ne.2 e69
        have H : Hid (stp 5 c = -1) := by simp [Hid, stp, hd, e101, e69]
        clear e101 e69
        have HD : Hid (isD c = false) := hd
        clear hd
        go_enter Try.func30, Try.ntmps30
        go_wp2_with fail
        refine (isDigit_is c false _ HD.out).mono ?_
        rintro e wz ⟨rfl, hw⟩
        subst wz
        go_wp2_with fail
        go_ret
        exact ⟨ret_int (by rw [H.out]), rfl⟩
  · have H : Hid (stp 5 c = 5) := by simp [Hid, stp, hd]
    have HD : Hid (isD c = true) := hd
    clear hd
    go_enter Try.func30, Try.ntmps30
    go_wp2_with fail
    refine (isDigit_is c true _ HD.out).mono ?_
    rintro e wz ⟨rfl, hw⟩
    subst wz
    go_wp2_with fail
    go_ret
    exact ⟨ret_int (by rw [H.out]), rfl⟩

set_option maxRecDepth 10000 in
set_option maxHeartbeats 1000000 in
theorem step6_any (c : Int) (w : World) : Calls Try.prog 30 #[.int .i64 6, .int .u8 c] w fun e w' => e = .returned (.int .i64 (stp 6 c)) ∧ w' = w := by
  by_cases e43 : c = 43
  · have t43 : (c == 43) = true := beq_iff_eq.2 e43
    have H : Hid (stp 6 c = 7) := by rw [e43]; show stp 6 _ = _; decide
    clear e43
    go_enter Try.func30, Try.ntmps30
    go_wp2
    go_ret
    exact ⟨ret_int (by rw [H.out]), rfl⟩
  · have t43 : (c == 43) = false := beq_eq_false_iff_ne.2 e43
    by_cases e45 : c = 45
    · have t45 : (c == 45) = true := beq_iff_eq.2 e45
      have H : Hid (stp 6 c = 7) := by rw [e45]; show stp 6 _ = _; decide
      clear e43 e45
      go_enter Try.func30, Try.ntmps30
      go_wp2
      go_ret
      exact ⟨ret_int (by rw [H.out]), rfl⟩
    · have t45 : (c == 45) = false := beq_eq_false_iff_ne.2 e45
      rcases hd : isD c with _ | _
      · have H : Hid (stp 6 c = -1) := by simp [Hid, stp, e43, e45, hd]
        clear e43 e45
        have HD : Hid (isD c = false) := hd
        clear hd
        go_enter Try.func30, Try.ntmps30
        go_wp2_with fail
        refine (isDigit_is c false _ HD.out).mono ?_
        rintro e wz ⟨rfl, hw⟩
        subst wz
        go_wp2_with fail
        go_ret
        exact ⟨ret_int (by rw [H.out]), rfl⟩
      · have H : Hid (stp 6 c = 8) := by simp [Hid, stp, e43, e45, hd]
        clear e43 e45
        have HD : Hid (isD c = true) := hd
        clear hd
        go_enter Try.func30, Try.ntmps30
        go_wp2_with fail
        refine (isDigit_is c true _ HD.out).mono ?_
        rintro e wz ⟨rfl, hw⟩
        subst wz
        go_wp2_with fail
        go_ret
        exact ⟨ret_int (by rw [H.out]), rfl⟩

set_option maxRecDepth 10000 in
set_option maxHeartbeats 1000000 in
theorem step7_any (c : Int) (w : World) : Calls Try.prog 30 #[.int .i64 7, .int .u8 c] w fun e w' => e = .returned (.int .i64 (stp 7 c)) ∧ w' = w := by
  rcases hd : isD c with _ | _
  · have H : Hid (stp 7 c = -1) := by simp [Hid, stp, hd]
    have HD : Hid (isD c = false) := hd
    clear hd
    go_enter Try.func30, Try.ntmps30
    go_wp2_with fail
    refine (isDigit_is c false _ HD.out).mono ?_
    rintro e wz ⟨rfl, hw⟩
    subst wz
    go_wp2_with fail
    go_ret
    exact ⟨ret_int (by rw [H.out]), rfl⟩
  · have H : Hid (stp 7 c = 8) := by simp [Hid, stp, hd]
    have HD : Hid (isD c = true) := hd
    clear hd
    go_enter Try.func30, Try.ntmps30
    go_wp2_with fail
    refine (isDigit_is c true _ HD.out).mono ?_
    rintro e wz ⟨rfl, hw⟩
    subst wz
    go_wp2_with fail
    go_ret
    exact ⟨ret_int (by rw [H.out]), rfl⟩

set_option maxRecDepth 10000 in
set_option maxHeartbeats 1000000 in
theorem step8_any (c : Int) (w : World) : Calls Try.prog 30 #[.int .i64 8, .int .u8 c] w fun e w' => e = .returned (.int .i64 (stp 8 c)) ∧ w' = w := by
  rcases hd : isD c with _ | _
  · have H : Hid (stp 8 c = -1) := by simp [Hid, stp, hd]
    have HD : Hid (isD c = false) := hd
    clear hd
    go_enter Try.func30, Try.ntmps30
    go_wp2_with fail
    refine (isDigit_is c false _ HD.out).mono ?_
    rintro e wz ⟨rfl, hw⟩
    subst wz
    go_wp2_with fail
    go_ret
    exact ⟨ret_int (by rw [H.out]), rfl⟩
  · have H : Hid (stp 8 c = 8) := by simp [Hid, stp, hd]
    have HD : Hid (isD c = true) := hd
    clear hd
    go_enter Try.func30, Try.ntmps30
    go_wp2_with fail
    refine (isDigit_is c true _ HD.out).mono ?_
    rintro e wz ⟨rfl, hw⟩
    subst wz
    go_wp2_with fail
    go_ret
    exact ⟨ret_int (by rw [H.out]), rfl⟩

end Go.Proofs.Qxb6604262a
