/-
  THE WALKS of digitsEnd (35), numberEnd (29), ZZnumberEnd (16), the zzBytes (15, 18).
-/
import Derived.Test.Qxb6604262aRows
import Derived.Test.Qxb6604262aPlain
import Derived.WalkKit
import Derived.WalkSpells
import Derived.WalkLawsBesides
import Derived.Deep.CutBlock
namespace Go.Proofs.Qxb6604262a
open Go.RowKit Plain

/-- The byte at place k. -/
def byteAt (zs : List Int) (k : Nat) : Int := zs.getD k 0

/-- From the address 'ao' on lie the bytes 'zs'. -/
structure BV (w : World) (ao : Option Addr) (zs : List Int) : Prop where
  lies : zs = [] ∨ ∃ b off, ao = some ⟨b, off, none⟩ ∧ b < w.heap.size ∧ ∀ i, i < zs.length → w.cell? ⟨b, off + i, none⟩ = some (.int .u8 (byteAt zs i))

theorem BV.below {w w' : World} {ao : Option Addr} {zs : List Int} (h : BV w ao zs) (hb : Below w.heap.size w w') : BV w' ao zs := by
  refine ⟨?_⟩
  rcases h.lies with h | ⟨b, off, h1, h2, h3⟩
  · exact .inl h
  · exact .inr ⟨b, off, h1, Nat.lt_of_lt_of_le h2 hb.size, fun i hi => (hb.cell (p := ⟨b, off + i, none⟩) h2).trans (h3 i hi)⟩

theorem BV.cells {w : World} {ao : Option Addr} {zs : List Int} (h : BV w ao zs) (hne : 0 < zs.length) :
    ∃ b off, ao = some ⟨b, off, none⟩ ∧ b < w.heap.size ∧ ∀ i, i < zs.length → w.cell? ⟨b, off + i, none⟩ = some (.int .u8 (byteAt zs i)) := by
  rcases h.lies with h | h
  · rw [h] at hne; simp at hne
  · exact h

theorem ret_int {k : IntKind} {a b : Int} (h : a = b) : Ending.returned (.int k a) = .returned (.int k b) := by rw [h]
theorem ret_bool {a b : Bool} (h : a = b) : Ending.returned (.bool a) = .returned (.bool b) := by rw [h]

/-- What holds of the run's place. -/
def RunTo (T : Nat → Int) (i k : Nat) : Prop := i ≤ k ∧ ∀ m, i ≤ m → m < k → isD (T m) = true

theorem digE_stop {T : Nat → Int} {n i k : Nat} (h : RunTo T i k) (hk : k ≤ n) (hs : k < n → isD (T k) = false) : digE T n i = if k = i then -1 else (k : Int) := by
  unfold digE
  rw [rn_eq ⟨h.1, hk, h.2, hs⟩]
theorem runTo_next {T : Nat → Int} {i k : Nat} (h : RunTo T i k) (hd : isD (T k) = true) : RunTo T i (k + 1) :=
  ⟨by have := h.1; omega, fun m h1 h2 => by
    by_cases e : m = k
    · rw [e]; exact hd
    · exact h.2 m h1 (by omega)⟩

set_option maxHeartbeats 400000 in
theorem digitsEnd_any (zs : List Int) (n i : Nat) (ao : Option Addr) (c : Nat) (w : World) (hb : BV w ao zs) (hn : n ≤ zs.length) (hi : i ≤ n) (hm : n ≤ 2097152) :
    Calls Try.prog 35 #[.slice ao n c, .int .i64 i] w fun e w' => e = .returned (.int .i64 (digE (byteAt zs) n i)) ∧ w' = w := by
  go_enter Try.func35, Try.ntmps35
  go_wp2
  go_loop [1] (fun s => ∃ k : Nat, s = .int .i64 k ∧ k ≤ n ∧ Hid (RunTo (byteAt zs) i k)) (fun s => n - (intOf s).toNat)
  case atStart => exact ⟨i, rfl, hi, Nat.le_refl _, fun m h1 h2 => by omega⟩
  case round =>
    obtain ⟨k, rfl, h1, H⟩ := hrel
    by_cases hlt : k < n
    · obtain ⟨b, off, rfl, hbs, hc⟩ := hb.cells (by omega)
      have hm := hc k (by omega)
      clear hc
      by_cases d1 : 48 ≤ byteAt zs k
      · by_cases d2 : byteAt zs k ≤ 57
        · go_wp2
          go_round
          case rel => exact ⟨k + 1, by go_num, by omega, runTo_next H.out (by simp [isD]; omega)⟩
          case measure => simp [intOf]; omega
        · have HD : Hid (digE (byteAt zs) n i = if k = i then -1 else (k : Int)) := digE_stop (n := n) H.out h1 (fun _ => by simp [isD]; omega)
          by_cases ki : k = i
          · subst ki
            go_wp2
            go_ret
            exact ⟨ret_int (by rw [HD.out]; simp), rfl⟩
          · go_wp2
            go_ret
            exact ⟨ret_int (by rw [HD.out, if_neg ki]), rfl⟩
      · have HD : Hid (digE (byteAt zs) n i = if k = i then -1 else (k : Int)) := digE_stop (n := n) H.out h1 (fun _ => by simp [isD]; omega)
        by_cases ki : k = i
        · subst ki
          go_wp2
          go_ret
          exact ⟨ret_int (by rw [HD.out]; simp), rfl⟩
        · go_wp2
          go_ret
          exact ⟨ret_int (by rw [HD.out, if_neg ki]), rfl⟩
    · have HD : Hid (digE (byteAt zs) n i = if k = i then -1 else (k : Int)) := digE_stop (n := n) H.out h1 (fun h => absurd h hlt)
      by_cases ki : k = i
      · subst ki
        go_wp2
        go_ret
        exact ⟨ret_int (by rw [HD.out]; simp), rfl⟩
      · go_wp2
        go_ret
        exact ⟨ret_int (by rw [HD.out, if_neg ki]), rfl⟩

theorem digitsEnd_is (zs : List Int) (n i : Nat) (ao : Option Addr) (c : Nat) (w : World) (x v : Int) (hb : BV w ao zs) (hn : n ≤ zs.length) (hi : i ≤ n) (hm : n ≤ 2097152) (hx : x = (i : Int)) (hv : digE (byteAt zs) n i = v) :
    Calls Try.prog 35 #[.slice ao n c, .int .i64 x] w fun e w' => e = .returned (.int .i64 v) ∧ w' = w := by
  subst hx
  subst hv
  exact digitsEnd_any zs n i ao c w hb hn hi hm

theorem digE_pos {T : Nat → Int} {n i : Nat} (h : i < n) (hd : isD (T i) = true) : digE T n i = (rn T n i : Int) := by
  unfold digE
  rw [if_neg (by have := rn_pos h hd; omega)]

set_option maxRecDepth 10000 in
set_option maxHeartbeats 2000000 in
theorem numberEnd_any (zs : List Int) (n i : Nat) (ao : Option Addr) (c : Nat) (w : World) (hb : BV w ao zs) (hn : n ≤ zs.length) (hi : i < n) (hm : n ≤ 2097152) :
    Calls Try.prog 29 #[.slice ao n c, .int .i64 i] w fun e w' => e = .returned (.int .i64 (numE (byteAt zs) n i)) ∧ w' = w := by
  obtain ⟨b, off, rfl, hbs, hc⟩ := hb.cells (by omega)
  have HC : Hid (∀ i, i < n → w.cell? ⟨b, off + i, none⟩ = some (.int .u8 (byteAt zs i))) := fun i hi => hc i (by omega)
  have hx0 := HC.out i hi
  clear hc
  go_enter Try.func29, Try.ntmps29
  go_upto_if 9 with fail
  go_cut [1] from 5 (fun s wx => ∃ j : Nat, s = .int .i64 j ∧ j ≤ n ∧ Hid (numE (byteAt zs) n i = intg (byteAt zs) n j) ∧ wx = w)
  case first =>
    by_cases c0 : byteAt zs i = 45
    · have t0 : (byteAt zs i == 45) = true := beq_iff_eq.2 c0
      have H0 : Hid (numE (byteAt zs) n i = intg (byteAt zs) n (i + 1)) := by unfold numE; rw [if_pos c0]; exact rfl
      clear c0
      go_wp2
      go_meet
      exact ⟨i + 1, by go_num, by omega, H0, rfl⟩
    · have t0 : (byteAt zs i == 45) = false := beq_eq_false_iff_ne.2 c0
      have H0 : Hid (numE (byteAt zs) n i = intg (byteAt zs) n i) := by unfold numE; rw [if_neg c0]; exact rfl
      clear c0
      go_wp2
      go_meet
      exact ⟨i, by go_num, by omega, H0, rfl⟩
  case rest =>
    obtain ⟨j, rfl, hj, HJ, hwc⟩ := hcut
    subst wc
    clear hx0
    go_upto_block 0 with fail
    go_cut [1] from 5 (fun s wx => ∃ j : Nat, s = .int .i64 j ∧ j ≤ n ∧ Hid (numE (byteAt zs) n i = frac (byteAt zs) n j) ∧ wx = w)
    case first =>
      by_cases c0 : j = n
      · have H0 : Hid (numE (byteAt zs) n i = -1) := by rw [HJ.out]; unfold intg; rw [if_pos c0]; exact rfl
        have t0 : ((j : Int) == (n : Int)) = true := beq_iff_eq.2 (by omega)
        clear c0
        go_wp2
        go_ret
        exact ⟨ret_int (by rw [H0.out]), rfl⟩
      · have t0 : ((j : Int) == (n : Int)) = false := beq_eq_false_iff_ne.2 (by omega)
        have hx1 := HC.out j (by omega)
        have hjn : j < n := by omega
        by_cases c1 : byteAt zs j = 48
        · have H0 : Hid (numE (byteAt zs) n i = frac (byteAt zs) n (j + 1)) := by rw [HJ.out]; unfold intg; rw [if_neg c0, if_pos c1]; exact rfl
          have t1 : (byteAt zs j == 48) = true := beq_iff_eq.2 c1
          clear c0 c1
          go_wp2
          go_meet
          exact ⟨j + 1, by go_num, by omega, H0, rfl⟩
        · have t1 : (byteAt zs j == 48) = false := beq_eq_false_iff_ne.2 c1
          by_cases c2 : 49 ≤ byteAt zs j ∧ byteAt zs j ≤ 57
          · have H0 : Hid (numE (byteAt zs) n i = frac (byteAt zs) n (rn (byteAt zs) n j)) := by rw [HJ.out]; unfold intg; rw [if_neg c0, if_neg c1, if_pos c2]; exact rfl
            have HV : Hid (digE (byteAt zs) n j = (rn (byteAt zs) n j : Int)) := digE_pos hjn (isD_of c2)
            have HN : Hid (rn (byteAt zs) n j ≤ n) := rn_hi (by omega)
            obtain ⟨d1, d2⟩ := c2
            clear c0 c1
            go_wp2_with fail
            refine (digitsEnd_is zs n (j) _ c _ _ (_) hb hn (by omega) hm (by go_num) HV.out).mono ?_
            rintro e wz ⟨rfl, hw⟩
            subst wz
            go_wp2_with fail
            go_meet
            exact ⟨rn (byteAt zs) n j, rfl, HN.out, H0, rfl⟩
          · have H0 : Hid (numE (byteAt zs) n i = -1) := by rw [HJ.out]; unfold intg; rw [if_neg c0, if_neg c1, if_neg c2]; exact rfl
            by_cases d1 : 49 ≤ byteAt zs j
            · have d2 : ¬ byteAt zs j ≤ 57 := fun h => c2 ⟨d1, h⟩
              clear c0 c1 c2
              go_wp2
              go_ret
              exact ⟨ret_int (by rw [H0.out]), rfl⟩
            · clear c0 c1 c2
              go_wp2
              go_ret
              exact ⟨ret_int (by rw [H0.out]), rfl⟩
    case rest =>
      clear HJ hj
      obtain ⟨j, rfl, hj, HJ, hwc⟩ := hcut
      subst wc
      go_upto_region 10 with fail
      go_cut [51] from 5 (fun s wx => s = .bool (decide (j < n ∧ byteAt zs j = 46)) ∧ wx = w)
      case first =>
        by_cases c0 : j < n
        · have hx1 := HC.out j c0
          by_cases c1 : byteAt zs j = 46
          · have t1 : (byteAt zs j == 46) = true := beq_iff_eq.2 c1
            have H0 : Hid (decide (j < n ∧ byteAt zs j = 46) = true) := decide_eq_true ⟨c0, c1⟩
            clear c1
            go_wp2
            go_meet
            exact ⟨by rw [H0.out], rfl⟩
          · have t1 : (byteAt zs j == 46) = false := beq_eq_false_iff_ne.2 c1
            have H0 : Hid (decide (j < n ∧ byteAt zs j = 46) = false) := decide_eq_false (fun a => c1 a.2)
            clear c1
            go_wp2
            go_meet
            exact ⟨by rw [H0.out], rfl⟩
        · have H0 : Hid (decide (j < n ∧ byteAt zs j = 46) = false) := decide_eq_false (fun a => c0 a.1)
          go_wp2
          go_meet
          exact ⟨by rw [H0.out], rfl⟩
      case rest =>
        obtain ⟨hs, hwc⟩ := hcut
        subst wc
        have HS : Hid (u51 = .bool (decide (j < n ∧ byteAt zs j = 46))) := hs
        clear hs
        go_upto_if 51 with fail
        go_cut [1] from 5 (fun s wx => ∃ j : Nat, s = .int .i64 j ∧ j ≤ n ∧ Hid (numE (byteAt zs) n i = expo (byteAt zs) n j) ∧ wx = w)
        case first =>
          by_cases c0 : j < n ∧ byteAt zs j = 46
          · rw [HS.out, decide_eq_true c0]
            clear HS
            by_cases c1 : rn (byteAt zs) n (j + 1) = j + 1
            · have H0 : Hid (numE (byteAt zs) n i = -1) := by rw [HJ.out]; unfold frac; rw [if_pos c0, if_pos c1]; exact rfl
              have HV : Hid (digE (byteAt zs) n (j + 1) = -1) := by unfold digE; rw [if_pos c1]; exact rfl
              obtain ⟨c0, c2⟩ := c0
              clear c1 c2
              go_wp2_with fail
              refine (digitsEnd_is zs n (j + 1) _ c _ _ (-1) hb hn (by omega) hm (by go_num) HV.out).mono ?_
              rintro e wz ⟨rfl, hw⟩
              subst wz
              go_wp2_with fail
              go_ret
              exact ⟨ret_int (by rw [H0.out]), rfl⟩
            · have H0 : Hid (numE (byteAt zs) n i = expo (byteAt zs) n (rn (byteAt zs) n (j + 1))) := by rw [HJ.out]; unfold frac; rw [if_pos c0, if_neg c1]; exact rfl
              have HV : Hid (digE (byteAt zs) n (j + 1) = (rn (byteAt zs) n (j + 1) : Int)) := by unfold digE; rw [if_neg c1]; exact rfl
              have HN : Hid (rn (byteAt zs) n (j + 1) ≤ n) := rn_hi (by omega)
              obtain ⟨c0, c2⟩ := c0
              clear c1 c2
              generalize rn (byteAt zs) n (j + 1) = r at H0 HV HN
              go_wp2_with fail
              refine (digitsEnd_is zs n (j + 1) _ c _ _ ((r : Int)) hb hn (by omega) hm (by go_num) HV.out).mono ?_
              rintro e wz ⟨rfl, hw⟩
              subst wz
              go_wp2_with fail
              go_meet
              exact ⟨r, rfl, HN.out, H0, rfl⟩
          · have H0 : Hid (numE (byteAt zs) n i = expo (byteAt zs) n j) := by rw [HJ.out]; unfold frac; rw [if_neg c0]; exact rfl
            rw [HS.out, decide_eq_false c0]
            clear HS c0
            go_wp2_with fail
            go_meet
            exact ⟨j, rfl, hj, H0, rfl⟩
        case rest =>
          clear HS HJ hj
          obtain ⟨j, rfl, hj, HJ, hwc⟩ := hcut
          subst wc
          go_upto_region 14 with fail
          go_cut [75] from 5 (fun s wx => s = .bool (decide (j < n ∧ (byteAt zs j = 101 ∨ byteAt zs j = 69))) ∧ wx = w)
          case first =>
            by_cases c0 : j < n
            · have hx1 := HC.out j c0
              by_cases c1 : byteAt zs j = 101
              · have t1 : (byteAt zs j == 101) = true := beq_iff_eq.2 c1
                have H0 : Hid (decide (j < n ∧ (byteAt zs j = 101 ∨ byteAt zs j = 69)) = true) := decide_eq_true ⟨c0, .inl c1⟩
                clear c1
                go_wp2
                go_meet
                exact ⟨by rw [H0.out], rfl⟩
              · have t1 : (byteAt zs j == 101) = false := beq_eq_false_iff_ne.2 c1
                by_cases c2 : byteAt zs j = 69
                · have t2 : (byteAt zs j == 69) = true := beq_iff_eq.2 c2
                  have H0 : Hid (decide (j < n ∧ (byteAt zs j = 101 ∨ byteAt zs j = 69)) = true) := decide_eq_true ⟨c0, .inr c2⟩
                  clear c1 c2
                  go_wp2
                  go_meet
                  exact ⟨by rw [H0.out], rfl⟩
                · have t2 : (byteAt zs j == 69) = false := beq_eq_false_iff_ne.2 c2
                  have H0 : Hid (decide (j < n ∧ (byteAt zs j = 101 ∨ byteAt zs j = 69)) = false) := decide_eq_false (fun a => a.2.elim c1 c2)
                  clear c1 c2
                  go_wp2
                  go_meet
                  exact ⟨by rw [H0.out], rfl⟩
            · have H0 : Hid (decide (j < n ∧ (byteAt zs j = 101 ∨ byteAt zs j = 69)) = false) := decide_eq_false (fun a => c0 a.1)
              go_wp2
              go_meet
              exact ⟨by rw [H0.out], rfl⟩
          case rest =>
            obtain ⟨hs, hwc⟩ := hcut
            subst wc
            by_cases c0 : j < n ∧ (byteAt zs j = 101 ∨ byteAt zs j = 69)
            · rw [decide_eq_true c0] at hs
              subst hs
              have HE : Hid (numE (byteAt zs) n i = digE (byteAt zs) n (if j + 1 < n ∧ (byteAt zs (j + 1) = 43 ∨ byteAt zs (j + 1) = 45) then j + 2 else j + 1)) := by rw [HJ.out]; unfold expo; rw [if_pos c0]; exact rfl
              have c1 : j < n := c0.1
              clear c0 HJ hj
              go_upto_region 16 with fail
              go_cut [95] from 5 (fun s wx => s = .bool (decide (j + 1 < n ∧ (byteAt zs (j + 1) = 43 ∨ byteAt zs (j + 1) = 45))) ∧ wx = w)
              case first =>
                by_cases c0 : j + 1 < n
                · have hx1 := HC.out (j + 1) c0
                  by_cases c1 : byteAt zs (j + 1) = 43
                  · have t1 : (byteAt zs (j + 1) == 43) = true := beq_iff_eq.2 c1
                    have H0 : Hid (decide (j + 1 < n ∧ (byteAt zs (j + 1) = 43 ∨ byteAt zs (j + 1) = 45)) = true) := decide_eq_true ⟨c0, .inl c1⟩
                    clear c1
                    go_wp2
                    go_meet
                    exact ⟨by rw [H0.out], rfl⟩
                  · have t1 : (byteAt zs (j + 1) == 43) = false := beq_eq_false_iff_ne.2 c1
                    by_cases c2 : byteAt zs (j + 1) = 45
                    · have t2 : (byteAt zs (j + 1) == 45) = true := beq_iff_eq.2 c2
                      have H0 : Hid (decide (j + 1 < n ∧ (byteAt zs (j + 1) = 43 ∨ byteAt zs (j + 1) = 45)) = true) := decide_eq_true ⟨c0, .inr c2⟩
                      clear c1 c2
                      go_wp2
                      go_meet
                      exact ⟨by rw [H0.out], rfl⟩
                    · have t2 : (byteAt zs (j + 1) == 45) = false := beq_eq_false_iff_ne.2 c2
                      have H0 : Hid (decide (j + 1 < n ∧ (byteAt zs (j + 1) = 43 ∨ byteAt zs (j + 1) = 45)) = false) := decide_eq_false (fun a => a.2.elim c1 c2)
                      clear c1 c2
                      go_wp2
                      go_meet
                      exact ⟨by rw [H0.out], rfl⟩
                · have H0 : Hid (decide (j + 1 < n ∧ (byteAt zs (j + 1) = 43 ∨ byteAt zs (j + 1) = 45)) = false) := decide_eq_false (fun a => c0 a.1)
                  go_wp2
                  go_meet
                  exact ⟨by rw [H0.out], rfl⟩
              case rest =>
                obtain ⟨hs, hwc⟩ := hcut
                subst wc
                by_cases c0 : j + 1 < n ∧ (byteAt zs (j + 1) = 43 ∨ byteAt zs (j + 1) = 45)
                · rw [decide_eq_true c0] at hs
                  subst hs
                  have HV : Hid (digE (byteAt zs) n (j + 2) = numE (byteAt zs) n i) := by rw [HE.out, if_pos c0]; exact rfl
                  have c2 : j + 1 < n := c0.1
                  clear c0 HE
                  go_wp2_with fail
                  refine (digitsEnd_is zs n (j + 2) _ c _ _ (_) hb hn (by omega) hm (by go_num) HV.out).mono ?_
                  rintro e wz ⟨rfl, hw⟩
                  subst wz
                  go_wp2_with fail
                  go_ret
                  exact ⟨rfl, rfl⟩
                · rw [decide_eq_false c0] at hs
                  subst hs
                  have HV : Hid (digE (byteAt zs) n (j + 1) = numE (byteAt zs) n i) := by rw [HE.out, if_neg c0]; exact rfl
                  clear c0 HE
                  go_wp2_with fail
                  refine (digitsEnd_is zs n (j + 1) _ c _ _ (_) hb hn (by omega) hm (by go_num) HV.out).mono ?_
                  rintro e wz ⟨rfl, hw⟩
                  subst wz
                  go_wp2_with fail
                  go_ret
                  exact ⟨rfl, rfl⟩
            · rw [decide_eq_false c0] at hs
              subst hs
              have H0 : Hid (numE (byteAt zs) n i = (j : Int)) := by rw [HJ.out]; unfold expo; rw [if_neg c0]; exact rfl
              clear c0 HJ
              go_wp2_with fail
              go_ret
              exact ⟨ret_int (by rw [H0.out]), rfl⟩

end Go.Proofs.Qxb6604262a
