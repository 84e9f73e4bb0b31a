/-
  THE WALK of findStartPoints (12).
-/
import Derived.Test.Qxb6602667aBase
import Derived.Deep.QuietTactic
import Derived.BigQuiet
import Derived.Deep.CutBlock
namespace Go.Proofs.Qxb6602667a
open Go.RowKit Plain

/-- A part of a row. -/
theorem RowV.part {w : World} {b off : Nat} {ws : List ByteArray} (h : RowV w (some ⟨b, off, none⟩) (Qxb6602667a.strs ws)) (F : Nat) {vs : List ByteArray} (hv : ∀ i, i < vs.length → F + i < ws.length ∧ wordAt vs i = wordAt ws (F + i)) : RowV w (some ⟨b, off + F, none⟩) (Qxb6602667a.strs vs) := by
  refine ⟨?_⟩
  by_cases h0 : vs.length = 0
  · exact .inl (by rw [List.length_eq_zero_iff.1 h0]; rfl)
  · have hne := (hv 0 (by omega)).1
    obtain ⟨b', off', he, hb, hc⟩ := h.strs (by omega)
    obtain ⟨rfl, rfl⟩ : b = b' ∧ off = off' := by simpa using he
    refine .inr ⟨b, off + F, rfl, hb, fun i hi => ?_⟩
    rw [strs_len] at hi
    obtain ⟨g1, g2⟩ := hv i hi
    rw [strs_at vs i hi, g2, Nat.add_assoc]
    exact hc (F + i) g1
theorem RowV.take {w : World} {b : Nat} {ws : List ByteArray} (h : RowV w (some ⟨b, 0, none⟩) (Qxb6602667a.strs ws)) (F : Nat) : RowV w (some ⟨b, 0, none⟩) (Qxb6602667a.strs (ws.take F)) := by
  have := h.part 0 (vs := ws.take F) (fun i hi => by
    have : i < F ∧ i < ws.length := by simp at hi; omega
    refine ⟨by omega, ?_⟩
    simp [wordAt, this.1])
  simpa using this
theorem RowV.drop {w : World} {b : Nat} {ws : List ByteArray} (h : RowV w (some ⟨b, 0, none⟩) (Qxb6602667a.strs ws)) (E : Nat) : RowV w (some ⟨b, E, none⟩) (Qxb6602667a.strs (ws.drop E)) := by
  have := h.part E (vs := ws.drop E) (fun i hi => by
    have : E + i < ws.length := by simp at hi; omega
    refine ⟨this, ?_⟩
    simp [wordAt])
  simpa using this
theorem RowV.mid {w : World} {b : Nat} {ws : List ByteArray} (h : RowV w (some ⟨b, 0, none⟩) (Qxb6602667a.strs ws)) (F k : Nat) : RowV w (some ⟨b, F, none⟩) (Qxb6602667a.strs ((ws.drop F).take k)) := by
  have := h.part F (vs := (ws.drop F).take k) (fun i hi => by
    have : i < k ∧ F + i < ws.length := by simp at hi; omega
    refine ⟨this.2, ?_⟩
    simp [wordAt, this.1])
  simpa using this
theorem rowV_dot (w : World) : RowV (w.alloc (.cells #[.string ⟨#[46]⟩] 9)) (some ⟨w.heap.size, 0, none⟩) (strs [⟨#[46]⟩]) := by
  refine ⟨.inr ⟨w.heap.size, 0, rfl, by simp, fun i hi => ?_⟩⟩
  have : i = 0 := by simp [strs] at hi; omega
  subst this
  simp [strs]

/-- The starting points as they are handed back. -/
def startsOf (ws : List ByteArray) (F E : Nat) : List ByteArray := if F < E then (ws.drop F).take (E - F) else [⟨#[46]⟩]

/-- What findStartPoints hands back. -/
def Split (w : World) (ws : List ByteArray) (n F : Nat) (e : Ending) (w' : World) : Prop :=
  ∃ E oa oc sa sl sc ea ec, e = .returned (.tuple #[.slice oa F oc, .slice sa sl sc, .slice ea (n - E) ec]) ∧ EndAt (wordAt ws) n F E ∧ RowV w' oa (strs (ws.take F)) ∧ RowV w' sa (strs (startsOf ws F E)) ∧ (startsOf ws F E).length = sl ∧ RowV w' ea (strs (ws.drop E)) ∧ Below w.heap.size w w'

set_option maxRecDepth 10000 in
set_option maxHeartbeats 4000000 in
theorem fsp_any (ws : List ByteArray) (n : Nat) (ao : Option Addr) (c : Nat) (w : World) (hh : RowV w ao (strs ws)) (l1 : Hid (ws.length = n)) (n1 : n ≤ 65536) (hc : n ≤ c) (hao : Hid ((ao = none ∧ n = 0 ∧ c = 0) ∨ ∃ b, ao = some ⟨b, 0, none⟩)) (D : Hid (∀ s ∈ ws, s.size ≤ maxLen)) (R F : Nat) (HR : Hid (At (wordAt ws) n R 0)) (HF : Hid (F = min R n)) :
    Calls Try.prog 12 #[.slice ao n c] w fun e w' => Split w ws n F e w' := by
  go_enter Try.func12, Try.ntmps12
  go_upto_block 0 with fail
  go_cut [5] from 8 (fun s wx => s = .int .i64 (R : Int) ∧ wx = w)
  case first =>
    go_wp2_with fail
    go_loopw [5] (fun s wr => ∃ i : Nat, s = .int .i64 i ∧ i ≤ n + 1 ∧ Hid (At (wordAt ws) n R i) ∧ wr = w) (fun s _ => n + 1 - (intOf s).toNat)
    case atStart => exact ⟨0, rfl, by omega, HR, rfl⟩
    case round =>
      obtain ⟨i, rfl, hi, H, hwr⟩ := hrel
      subst wr
      by_cases hlt : i < n
      · obtain ⟨b, off, rfl, hbs, hcell⟩ := hh.strs (by rw [l1.out]; omega)
        have hx := hcell i (by rw [l1.out]; exact hlt)
        have hsz := size_at ws i D.out
        clear hcell
        rcases tD : ((wordAt ws i).toList == [45, 68]) with _ | _
        · have hpD : Hid (pD (wordAt ws i) = false) := tD
          rcases tH : ((wordAt ws i).toList == [45, 72]) with _ | _
          · rcases tL : ((wordAt ws i).toList == [45, 76]) with _ | _
            · rcases tP : ((wordAt ws i).toList == [45, 80]) with _ | _
              · rcases qD : pre (wordAt ws i) [45, 68] with _ | _
                · rcases qO : pre (wordAt ws i) [45, 79] with _ | _
                  · have hop : Hid (opt (wordAt ws i) = false) := by simp [Hid, opt, tH, tL, tP, qD, qO]
                    rcases tM : ((wordAt ws i).toList == [45, 45]) with _ | _
                    · have HE : Hid (R = i) := H.out.other hlt hpD.out hop.out tM
                      go_wp2_with fail
                      refine (pre15_any (wordAt ws i) 45 68 _ false hsz qD).mono ?_
                      rintro e wz ⟨rfl, hw⟩
                      subst wz
                      go_wp2_with fail
                      refine (pre15_any (wordAt ws i) 45 79 _ false hsz qO).mono ?_
                      rintro e wz ⟨rfl, hw⟩
                      subst wz
                      go_wp2_with fail
                      go_meet
                      exact ⟨by rw [HE.out], rfl⟩
                    · have HE : Hid (R = i + 1) := H.out.dd hlt hpD.out hop.out tM
                      go_wp2_with fail
                      refine (pre15_any (wordAt ws i) 45 68 _ false hsz qD).mono ?_
                      rintro e wz ⟨rfl, hw⟩
                      subst wz
                      go_wp2_with fail
                      refine (pre15_any (wordAt ws i) 45 79 _ false hsz qO).mono ?_
                      rintro e wz ⟨rfl, hw⟩
                      subst wz
                      go_wp2_with fail
                      go_meet
                      exact ⟨by rw [HE.out]; go_num, rfl⟩
                  · have HA' : Hid (At (wordAt ws) n R (i + 1)) := H.out.opt hlt hpD.out (by simp [opt, qO])
                    go_wp2_with fail
                    refine (pre15_any (wordAt ws i) 45 68 _ false hsz qD).mono ?_
                    rintro e wz ⟨rfl, hw⟩
                    subst wz
                    go_wp2_with fail
                    refine (pre15_any (wordAt ws i) 45 79 _ true hsz qO).mono ?_
                    rintro e wz ⟨rfl, hw⟩
                    subst wz
                    go_wp2_with fail
                    go_roundw
                    case rel => exact ⟨i + 1, by go_num, by omega, HA', by first | rfl | trivial⟩
                    case measure => simp [intOf]; omega
                · have HA' : Hid (At (wordAt ws) n R (i + 1)) := H.out.opt hlt hpD.out (by simp [opt, qD])
                  go_wp2_with fail
                  refine (pre15_any (wordAt ws i) 45 68 _ true hsz qD).mono ?_
                  rintro e wz ⟨rfl, hw⟩
                  subst wz
                  go_wp2_with fail
                  go_roundw
                  case rel => exact ⟨i + 1, by go_num, by omega, HA', by first | rfl | trivial⟩
                  case measure => simp [intOf]; omega
              · have HA := H.out.opt hlt hpD.out (by simp [opt, tP])
                have HA' : Hid (At (wordAt ws) n R (i + 1)) := HA
                clear HA
                go_wp2_with fail
                go_roundw
                case rel => exact ⟨i + 1, by go_num, by omega, HA', by first | rfl | trivial⟩
                case measure => simp [intOf]; omega
            · have HA := H.out.opt hlt hpD.out (by simp [opt, tL])
              have HA' : Hid (At (wordAt ws) n R (i + 1)) := HA
              clear HA
              go_wp2_with fail
              go_roundw
              case rel => exact ⟨i + 1, by go_num, by omega, HA', by first | rfl | trivial⟩
              case measure => simp [intOf]; omega
          · have HA := H.out.opt hlt hpD.out (by simp [opt, tH])
            have HA' : Hid (At (wordAt ws) n R (i + 1)) := HA
            clear HA
            go_wp2_with fail
            go_roundw
            case rel => exact ⟨i + 1, by go_num, by omega, HA', by first | rfl | trivial⟩
            case measure => simp [intOf]; omega
        · have HA' : Hid (At (wordAt ws) n R (i + 2)) := H.out.bare hlt tD
          go_wp2_with fail
          go_roundw
          case rel => exact ⟨i + 2, by go_num, by omega, HA', by first | rfl | trivial⟩
          case measure => simp [intOf]; omega
      · have HE : Hid (R = i) := H.out.stop hlt
        go_wp2_with fail
        go_meet
        exact ⟨by rw [HE.out], rfl⟩
  case rest =>
    obtain ⟨rfl, hwc⟩ := hcut
    subst wc
    have hFn : F ≤ n := by have := HF.out; omega
    have hmin : (if n < R then (n : Int) else (R : Int)) = (F : Int) := by have := HF.out; split <;> omega
    go_upto_block 3 with fail
    clear hmin HR
    go_cut [7] from 8 (fun s wx => ∃ E : Nat, s = .int .i64 E ∧ F ≤ E ∧ E ≤ n ∧ Hid (EndAt (wordAt ws) n F E) ∧ wx = w)
    case first =>
      go_wp2_with fail
      go_loopw [7] (fun s wr => ∃ k : Nat, s = .int .i64 k ∧ F ≤ k ∧ k ≤ n ∧ Hid (∀ m, F ≤ m → m < k → opn (wordAt ws m) = false) ∧ wr = w) (fun s _ => n - (intOf s).toNat)
      case atStart => exact ⟨F, rfl, Nat.le_refl _, hFn, fun m a b => by omega, rfl⟩
      case round =>
        obtain ⟨k, rfl, hk1, hk2, H, hwr⟩ := hrel
        subst wr
        by_cases hlt : k < n
        · obtain ⟨b, off, rfl, hbs, hcell⟩ := hh.strs (by rw [l1.out]; omega)
          have hx := hcell k (by rw [l1.out]; exact hlt)
          have hsz := size_at ws k D.out
          clear hcell
          rcases ho : opn (wordAt ws k) with _ | _
          · have H2 : Hid (∀ m, F ≤ m → m < k + 1 → opn (wordAt ws m) = false) := fun m a b => by
              by_cases e : m = k
              · rw [e]; exact ho
              · exact H.out m a (by omega)
            go_wp2_with fail
            refine (opn16_any (wordAt ws k) _ false hsz ho).mono ?_
            rintro e wz ⟨rfl, hw⟩
            subst wz
            go_wp2_with fail
            go_roundw
            case rel => exact ⟨k + 1, by go_num, by omega, by omega, H2, by first | rfl | trivial⟩
            case measure => simp [intOf]; omega
          · have HE : Hid (EndAt (wordAt ws) n F k) := ⟨hk1, hk2, H.out, fun _ => ho⟩
            go_wp2_with fail
            refine (opn16_any (wordAt ws k) _ true hsz ho).mono ?_
            rintro e wz ⟨rfl, hw⟩
            subst wz
            go_wp2_with fail
            go_meet
            exact ⟨k, rfl, hk1, hk2, HE, rfl⟩
        · have HE : Hid (EndAt (wordAt ws) n F k) := ⟨hk1, hk2, H.out, fun h => absurd h hlt⟩
          go_wp2_with fail
          go_meet
          exact ⟨k, rfl, hk1, hk2, HE, rfl⟩
    case rest =>
      obtain ⟨E, rfl, e1, e2, HE, hwc⟩ := hcut
      subst wc
      rcases hao.out with ⟨rfl, rfl, rfl⟩ | ⟨b, rfl⟩
      · obtain rfl : F = 0 := by omega
        obtain rfl : E = 0 := by omega
        have hws : ws = [] := List.length_eq_zero_iff.1 l1.out
        have v1 : RowV ((w.alloc (.cells #[.string ⟨#[46]⟩] 9))) none (strs (ws.take 0)) := rowV_nil _ _
        have v2 : RowV ((w.alloc (.cells #[.string ⟨#[46]⟩] 9))) (some ⟨w.heap.size, 0, none⟩) (strs (startsOf ws 0 0)) := rowV_dot w
        have v3 : RowV ((w.alloc (.cells #[.string ⟨#[46]⟩] 9))) none (strs (ws.drop 0)) := by rw [hws]; exact rowV_nil _ _
        have bl : Below w.heap.size w (w.alloc (.cells #[.string ⟨#[46]⟩] 9)) := (Below.refl _ _).alloc (Nat.le_refl _) _
        clear hws
        go_wp2
        go_quiet (fail)
        go_wp2
        go_ret3
        exact ⟨_, _, _, _, _, _, _, _, rfl, HE.out, v1.drewN _, v2.drewN _, rfl, v3.drewN _, below_drewN bl _⟩
      · by_cases hFE : F < E
        · have v1 := hh.take F
          have v2 : RowV w (some ⟨b, F, none⟩) (strs (startsOf ws F E)) := by unfold startsOf; rw [if_pos hFE]; exact hh.mid F (E - F)
          have hl : Hid ((startsOf ws F E).length = E - F) := by unfold startsOf; rw [if_pos hFE]; simp [Hid, l1.out]; omega
          by_cases hcE : c = E
          · have v3 : RowV w (some ⟨b, 0, none⟩) (strs (ws.drop E)) := by rw [List.drop_eq_nil_of_le (by rw [l1.out]; omega)]; exact rowV_nil _ _
            go_wp2
            go_quiet (fail)
            go_wp2
            go_ret3
            exact ⟨_, _, _, _, _, _, _, _, rfl, HE.out, v1.drewN _, v2.drewN _, hl.out, v3.drewN _, below_drewN' _ _⟩
          · have v3 := hh.drop E
            go_wp2
            go_quiet (fail)
            go_wp2
            go_ret3
            exact ⟨_, _, _, _, _, _, _, _, rfl, HE.out, v1.drewN _, v2.drewN _, hl.out, v3.drewN _, below_drewN' _ _⟩
        · obtain rfl : F = E := by omega
          have bl : Below w.heap.size w (w.alloc (.cells #[.string ⟨#[46]⟩] 9)) := (Below.refl _ _).alloc (Nat.le_refl _) _
          have v1 := (hh.take F).below bl
          have v2 : RowV ((w.alloc (.cells #[.string ⟨#[46]⟩] 9))) (some ⟨w.heap.size, 0, none⟩) (strs (startsOf ws F F)) := by unfold startsOf; rw [if_neg (by omega)]; exact rowV_dot w
          have hl : Hid ((startsOf ws F F).length = 1) := by unfold startsOf; rw [if_neg (by omega)]; exact rfl
          by_cases hcF : c = F
          · have v3 : RowV ((w.alloc (.cells #[.string ⟨#[46]⟩] 9))) (some ⟨b, 0, none⟩) (strs (ws.drop F)) := by rw [List.drop_eq_nil_of_le (by rw [l1.out]; omega)]; exact rowV_nil _ _
            go_wp2
            go_quiet (fail)
            go_wp2
            go_ret3
            exact ⟨_, _, _, _, _, _, _, _, rfl, HE.out, v1.drewN _, v2.drewN _, hl.out, v3.drewN _, below_drewN bl _⟩
          · have v3 := (hh.drop F).below bl
            go_wp2
            go_quiet (fail)
            go_wp2
            go_ret3
            exact ⟨_, _, _, _, _, _, _, _, rfl, HE.out, v1.drewN _, v2.drewN _, hl.out, v3.drewN _, below_drewN bl _⟩

end Go.Proofs.Qxb6602667a
