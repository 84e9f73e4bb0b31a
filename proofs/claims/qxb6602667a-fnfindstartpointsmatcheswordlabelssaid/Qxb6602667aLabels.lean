/-
  THE WALKS of ZZfindStartPoints (8), fspLabels (9).
-/
import Derived.Test.Qxb6602667aSplit
namespace Go.Proofs.Qxb6602667a
open Go.RowKit Plain

set_option maxRecDepth 10000 in
set_option maxHeartbeats 1000000 in
theorem zzfsp_any (ws : List ByteArray) (n : Nat) (ao : Option Addr) (c : Nat) (w : World) (hh : RowV w ao (strs ws)) (l1 : Hid (ws.length = n)) (n1 : n ≤ 65536) (hc : n ≤ c) (hao : Hid ((ao = none ∧ n = 0 ∧ c = 0) ∨ ∃ b, ao = some ⟨b, 0, none⟩)) (D : Hid (∀ s ∈ ws, s.size ≤ maxLen)) (R F : Nat) (HR : Hid (At (wordAt ws) n R 0)) (HF : Hid (F = min R n)) :
    Calls Try.prog 8 #[.slice ao n c] w fun e w' => Split w ws n F e w' := by
  go_enter Try.func8, Try.ntmps8
  go_wp2_with fail
  refine (fsp_any ws n ao c _ hh l1 n1 hc hao D R F HR HF).mono ?_
  rintro e w1 ⟨E, oa, oc, sa, sl, sc, ea, ec, rfl, h1, h2, h3, h4, h5, h6⟩
  go_wp2_with fail
  go_ret3
  exact ⟨E, oa, oc, sa, sl, sc, ea, ec, rfl, h1, h2, h3, h4, h5, h6⟩

theorem Try.info3 : (Try.prog.info? 3).map (fun i => (i.zero, i.size, i.bytes)) = some (some (.int .i64 0), 1, 8) := by kernel_rfl

/-- The labels' row behind i rounds. -/
def labRow (F E i : Nat) : Nat → Value := fun j => if j < i then .int .i64 (lab F E j) else .int .i64 0

theorem lab_cell {w : World} {B n i F E : Nat} (h : w.rowIs B 3 n (labRow F E i)) (hi : i < n) : w.cell? ⟨B, i, none⟩ = some (.int .i64 0) := by
  have := h.cell hi
  simpa [labRow] using this
theorem lab_put {w : World} {B n i F E : Nat} {v : Int} (h : w.rowIs B 3 n (labRow F E i)) (hv : lab F E i = v) : (w.setCell ⟨B, i, none⟩ (.int .i64 v)).rowIs B 3 n (labRow F E (i + 1)) := by
  refine (h.set i (.int .i64 v)).congr fun j _ => ?_
  unfold labRow
  by_cases e : j = i
  · subst e; rw [if_pos rfl, if_pos (by omega), hv]
  · rw [if_neg e]
    by_cases l : j < i
    · rw [if_pos l, if_pos (by omega)]
    · rw [if_neg l, if_neg (by omega)]
theorem lab_skip {w : World} {B n i F E : Nat} (h : w.rowIs B 3 n (labRow F E i)) (hv : lab F E i = 0) : w.rowIs B 3 n (labRow F E (i + 1)) := by
  refine h.congr fun j _ => ?_
  unfold labRow
  by_cases l : j < i
  · rw [if_pos l, if_pos (by omega)]
  · by_cases e : j = i
    · subst e; rw [if_neg l, if_pos (by omega), hv]
    · rw [if_neg l, if_neg (by omega)]

/-- The labels handed back. -/
def Labels (w : World) (n F E : Nat) (e : Ending) (w' : World) : Prop := ∃ B c, e = .returned (.slice (some ⟨B, 0, none⟩) n c) ∧ B < w'.heap.size ∧ (∀ j, j < n → w'.cell? ⟨B, j, none⟩ = some (.int .i64 (lab F E j))) ∧ Below w.heap.size w w'

theorem labels_mk {w w' : World} {n F E i : Nat} (h : w'.rowIs w.heap.size 3 n (labRow F E i)) (h1 : i ≤ n) (h2 : ¬ i < n) (hb : Below w.heap.size w w') : Labels w n F E (.returned (.slice (some ⟨w.heap.size, 0, none⟩) n n)) w' := by
  refine ⟨_, _, rfl, h.lt, fun j hj => ?_, hb⟩
  have := h.cell hj
  unfold labRow at this
  rw [if_pos (by omega)] at this
  exact this

theorem lab_start {w : World} {n F E : Nat} : (w.alloc (.cells (madeCells #[.int .i64 0] n) 3)).rowIs w.heap.size 3 n (labRow F E 0) :=
  (World.rowIs_made w (.int .i64 0) n 3).congr fun i _ => by simp [labRow]

set_option maxRecDepth 10000 in
set_option maxHeartbeats 4000000 in
theorem labels_any (ws : List ByteArray) (n : Nat) (ao : Option Addr) (c : Nat) (w : World) (hh : RowV w ao (strs ws)) (l1 : Hid (ws.length = n)) (n1 : n ≤ 65536) (D : Hid (∀ s ∈ ws, s.size ≤ maxLen)) (R F E : Nat) (HR : Hid (At (wordAt ws) n R 0)) (HF : Hid (F = min R n)) (HE : Hid (EndAt (wordAt ws) n F E)) :
    Calls Try.prog 9 #[.slice ao n c] w fun e w' => Labels w n F E e w' := by
  have hmk := fun (w' : World) => run_make_row' (P := Try.prog) 28 3 (.int .i64 0) 8 Try.underlying28 Try.info3 rfl .i64 .i64 n (by omega) (by omega) w'
  go_enter Try.func9, Try.ntmps9
  go_wp2
  clear hmk
  go_loopw [4, 5, 6] (fun s4 s5 s6 wr => ∃ (s : Nat) (p : Bool) (i : Nat), s4 = .int .i64 s ∧ s5 = .bool p ∧ s6 = .int .i64 i ∧ i ≤ n ∧ Hid (LabI (wordAt ws) n R F E i s p) ∧ s ≤ 2 ∧ wr.rowIs w.heap.size 3 n (labRow F E i) ∧ Below w.heap.size w wr) (fun _ _ s6 _ => n - (intOf s6).toNat)
  case atStart => exact ⟨0, false, 0, rfl, rfl, rfl, by omega, ⟨.inl ⟨rfl, rfl, HR.out, by omega⟩⟩, by omega, lab_start, (Below.refl _ _).alloc (Nat.le_refl _) _⟩
  case round =>
    obtain ⟨s, p, i, rfl, rfl, rfl, hi, H, hs2, hrow, hbel⟩ := hrel
    by_cases hlt : i < n
    · obtain ⟨b, off, rfl, hbs, hcell⟩ := hh.strs (by rw [l1.out]; omega)
      have hx := (hbel.cell (p := ⟨b, off + i, none⟩) hbs).trans (hcell i (by rw [l1.out]; exact hlt))
      have hsz := size_at ws i D.out
      have ho0 := lab_cell hrow hlt
      have hfz := hrow.frozen i
      clear hcell
      rcases (show s = 0 ∨ s = 1 ∨ s = 2 from by omega) with rfl | rfl | rfl
      · rcases p with _ | _
        · rcases tD : ((wordAt ws i).toList == [45, 68]) with _ | _
          · have hpD : Hid (pD (wordAt ws i) = false) := tD
            rcases tH : ((wordAt ws i).toList == [45, 72]) with _ | _
            · rcases tL : ((wordAt ws i).toList == [45, 76]) with _ | _
              · rcases tP : ((wordAt ws i).toList == [45, 80]) with _ | _
                · rcases qD : pre (wordAt ws i) [45, 68] with _ | _
                  · rcases qO : pre (wordAt ws i) [45, 79] with _ | _
                    · have hop : Hid (opt (wordAt ws i) = false) := by simp [Hid, opt, tH, tL, tP, qD, qO]
                      rcases tM : ((wordAt ws i).toList == [45, 45]) with _ | _
                      · have H1 := H.out.other HF.out HE.out hlt hpD.out hop.out tM false
                        rcases ho : opn (wordAt ws i) with _ | _
                        · have J := H1.start HE.out hlt ho false
                          have hrow' := lab_put hrow J.2
                          have JJ : Hid (LabI (wordAt ws) n R F E (i + 1) 1 false) := J.1
                          have hbel' := hbel.setCell (p := ⟨w.heap.size, i, none⟩) (Nat.le_refl _) (.int .i64 1)
                          clear J hrow hbel
                          go_wp2_with fail
                          refine (pre13_any (wordAt ws i) 45 68 _ false hsz qD).mono ?_
                          rintro e wz ⟨rfl, hw⟩
                          subst wz
                          go_wp2_with fail
                          refine (pre13_any (wordAt ws i) 45 79 _ false hsz qO).mono ?_
                          rintro e wz ⟨rfl, hw⟩
                          subst wz
                          go_wp2_with fail
                          refine (opn14_any (wordAt ws i) _ false hsz ho).mono ?_
                          rintro e wz ⟨rfl, hw⟩
                          subst wz
                          go_wp2_with fail
                          go_roundw
                          case rel => exact ⟨1, false, i + 1, rfl, rfl, by go_num, by omega, JJ, by omega, hrow', hbel'⟩
                          case measure => simp [intOf]; omega
                        · have J := H1.open HE.out ho false
                          have hrow' := lab_put hrow J.2
                          have JJ : Hid (LabI (wordAt ws) n R F E (i + 1) 2 false) := J.1
                          have hbel' := hbel.setCell (p := ⟨w.heap.size, i, none⟩) (Nat.le_refl _) (.int .i64 2)
                          clear J hrow hbel
                          go_wp2_with fail
                          refine (pre13_any (wordAt ws i) 45 68 _ false hsz qD).mono ?_
                          rintro e wz ⟨rfl, hw⟩
                          subst wz
                          go_wp2_with fail
                          refine (pre13_any (wordAt ws i) 45 79 _ false hsz qO).mono ?_
                          rintro e wz ⟨rfl, hw⟩
                          subst wz
                          go_wp2_with fail
                          refine (opn14_any (wordAt ws i) _ true hsz ho).mono ?_
                          rintro e wz ⟨rfl, hw⟩
                          subst wz
                          go_wp2_with fail
                          go_roundw
                          case rel => exact ⟨2, false, i + 1, rfl, rfl, by go_num, by omega, JJ, by omega, hrow', hbel'⟩
                          case measure => simp [intOf]; omega
                      · have J := H.out.dd HF.out HE.out hlt hpD.out hop.out tM false
                        have hrow' := lab_skip hrow J.2
                        have JJ : Hid (LabI (wordAt ws) n R F E (i + 1) 1 false) := J.1
                        clear J hrow
                        go_wp2_with fail
                        refine (pre13_any (wordAt ws i) 45 68 _ false hsz qD).mono ?_
                        rintro e wz ⟨rfl, hw⟩
                        subst wz
                        go_wp2_with fail
                        refine (pre13_any (wordAt ws i) 45 79 _ false hsz qO).mono ?_
                        rintro e wz ⟨rfl, hw⟩
                        subst wz
                        go_wp2_with fail
                        go_roundw
                        case rel => exact ⟨1, false, i + 1, rfl, rfl, by go_num, by omega, JJ, by omega, hrow', hbel⟩
                        case measure => simp [intOf]; omega
                    · have J := H.out.opt HF.out hlt hpD.out (by simp [opt, qO])
                      have hrow' := lab_skip hrow J.2
                      have JJ : Hid (LabI (wordAt ws) n R F E (i + 1) 0 false) := J.1
                      clear J hrow
                      go_wp2_with fail
                      refine (pre13_any (wordAt ws i) 45 68 _ false hsz qD).mono ?_
                      rintro e wz ⟨rfl, hw⟩
                      subst wz
                      go_wp2_with fail
                      refine (pre13_any (wordAt ws i) 45 79 _ true hsz qO).mono ?_
                      rintro e wz ⟨rfl, hw⟩
                      subst wz
                      go_wp2_with fail
                      go_roundw
                      case rel => exact ⟨0, false, i + 1, rfl, rfl, by go_num, by omega, JJ, by omega, hrow', hbel⟩
                      case measure => simp [intOf]; omega
                  · have J := H.out.opt HF.out hlt hpD.out (by simp [opt, qD])
                    have hrow' := lab_skip hrow J.2
                    have JJ : Hid (LabI (wordAt ws) n R F E (i + 1) 0 false) := J.1
                    clear J hrow
                    go_wp2_with fail
                    refine (pre13_any (wordAt ws i) 45 68 _ true hsz qD).mono ?_
                    rintro e wz ⟨rfl, hw⟩
                    subst wz
                    go_wp2_with fail
                    go_roundw
                    case rel => exact ⟨0, false, i + 1, rfl, rfl, by go_num, by omega, JJ, by omega, hrow', hbel⟩
                    case measure => simp [intOf]; omega
                · have J := H.out.opt HF.out hlt hpD.out (by simp [opt, tP])
                  have hrow' := lab_skip hrow J.2
                  have JJ : Hid (LabI (wordAt ws) n R F E (i + 1) 0 false) := J.1
                  clear J hrow
                  go_wp2_with fail
                  go_roundw
                  case rel => exact ⟨0, false, i + 1, rfl, rfl, by go_num, by omega, JJ, by omega, hrow', hbel⟩
                  case measure => simp [intOf]; omega
              · have J := H.out.opt HF.out hlt hpD.out (by simp [opt, tL])
                have hrow' := lab_skip hrow J.2
                have JJ : Hid (LabI (wordAt ws) n R F E (i + 1) 0 false) := J.1
                clear J hrow
                go_wp2_with fail
                go_roundw
                case rel => exact ⟨0, false, i + 1, rfl, rfl, by go_num, by omega, JJ, by omega, hrow', hbel⟩
                case measure => simp [intOf]; omega
            · have J := H.out.opt HF.out hlt hpD.out (by simp [opt, tH])
              have hrow' := lab_skip hrow J.2
              have JJ : Hid (LabI (wordAt ws) n R F E (i + 1) 0 false) := J.1
              clear J hrow
              go_wp2_with fail
              go_roundw
              case rel => exact ⟨0, false, i + 1, rfl, rfl, by go_num, by omega, JJ, by omega, hrow', hbel⟩
              case measure => simp [intOf]; omega
          · have J := H.out.bare HF.out hlt tD
            have hrow' := lab_skip hrow J.2
            have JJ : Hid (LabI (wordAt ws) n R F E (i + 1) 0 true) := J.1
            clear J hrow
            go_wp2_with fail
            go_roundw
            case rel => exact ⟨0, true, i + 1, rfl, rfl, by go_num, by omega, JJ, by omega, hrow', hbel⟩
            case measure => simp [intOf]; omega
        · have J := H.out.pend HF.out hlt
          have hrow' := lab_skip hrow J.2
          have JJ : Hid (LabI (wordAt ws) n R F E (i + 1) 0 false) := J.1
          clear J hrow
          go_wp2_with fail
          go_roundw
          case rel => exact ⟨0, false, i + 1, rfl, rfl, by go_num, by omega, JJ, by omega, hrow', hbel⟩
          case measure => simp [intOf]; omega
      · have H1 := H.out
        rcases ho : opn (wordAt ws i) with _ | _
        · have J := H1.start HE.out hlt ho p
          have hrow' := lab_put hrow J.2
          have JJ : Hid (LabI (wordAt ws) n R F E (i + 1) 1 p) := J.1
          have hbel' := hbel.setCell (p := ⟨w.heap.size, i, none⟩) (Nat.le_refl _) (.int .i64 1)
          clear J hrow hbel
          go_wp2_with fail
          refine (opn14_any (wordAt ws i) _ false hsz ho).mono ?_
          rintro e wz ⟨rfl, hw⟩
          subst wz
          go_wp2_with fail
          go_roundw
          case rel => exact ⟨1, p, i + 1, rfl, rfl, by go_num, by omega, JJ, by omega, hrow', hbel'⟩
          case measure => simp [intOf]; omega
        · have J := H1.open HE.out ho p
          have hrow' := lab_put hrow J.2
          have JJ : Hid (LabI (wordAt ws) n R F E (i + 1) 2 p) := J.1
          have hbel' := hbel.setCell (p := ⟨w.heap.size, i, none⟩) (Nat.le_refl _) (.int .i64 2)
          clear J hrow hbel
          go_wp2_with fail
          refine (opn14_any (wordAt ws i) _ true hsz ho).mono ?_
          rintro e wz ⟨rfl, hw⟩
          subst wz
          go_wp2_with fail
          go_roundw
          case rel => exact ⟨2, p, i + 1, rfl, rfl, by go_num, by omega, JJ, by omega, hrow', hbel'⟩
          case measure => simp [intOf]; omega
      · have J := H.out.two HE.out p
        have hrow' := lab_put hrow J.2
        have JJ : Hid (LabI (wordAt ws) n R F E (i + 1) 2 p) := J.1
        have hbel' := hbel.setCell (p := ⟨w.heap.size, i, none⟩) (Nat.le_refl _) (.int .i64 2)
        clear J hrow hbel
        go_wp2_with fail
        go_roundw
        case rel => exact ⟨2, p, i + 1, rfl, rfl, by go_num, by omega, JJ, by omega, hrow', hbel'⟩
        case measure => simp [intOf]; omega
    · have hR := labels_mk hrow hi hlt hbel
      clear hrow hbel
      go_wp2_with fail
      go_ret
      exact hR

end Go.Proofs.Qxb6602667a
