/-
  THE LAW FnFindStartPointsMatchesWordLabels (3), walked.
-/
import Derived.Test.Qxb6602667aLabels
namespace Go.Proofs.Qxb6602667a
open Go.RowKit Plain

/-- What is known of the words as they come in. -/
structure InS (w : World) (ws : List ByteArray) (ao : Option Addr) (n c : Nat) : Prop where
  rv : RowV w ao (strs ws)
  len : ws.length = n
  bd : n ≤ maxLen
  sz : ∀ s ∈ ws, s.size ≤ maxLen
  nil : ao = none → n = 0 ∧ c = 0

/-- The law's end. -/
def LawOk (w : World) (e : Ending) (w' : World) : Prop := e = .returned (.bool true) ∧ Below w.heap.size w w'

theorem belStep {w w1 w2 : World} (h : Below w.heap.size w w1) (k : Below w1.heap.size w1 w2) : Below w.heap.size w w2 := h.trans (k.mono h.size)

theorem word_take {ws : List ByteArray} {F i : Nat} (h : i < F) : wordAt (ws.take F) i = wordAt ws i := by simp [wordAt, h]
theorem word_mid {ws : List ByteArray} {F E k : Nat} (h : F + k < E) : wordAt (startsOf ws F E) k = wordAt ws (F + k) := by
  unfold startsOf
  rw [if_pos (by omega)]
  simp [wordAt, show k < E - F by omega]
theorem word_drop {ws : List ByteArray} {E k : Nat} : wordAt (ws.drop E) k = wordAt ws (E + k) := by simp [wordAt]

theorem drewn_next {w3 wr : World} (h : ∃ q, wr = w3.drewN q) (k : Nat) : ∃ q, wr.drewN k = w3.drewN q := by
  obtain ⟨q, hq⟩ := h
  exact ⟨q + k, by rw [hq]; exact World.drewN_drewN _ _ _⟩

set_option maxRecDepth 10000 in
set_option maxHeartbeats 4000000 in
theorem law_any (ws : List ByteArray) (n : Nat) (ao : Option Addr) (c : Nat) (w : World) (A : InS w ws ao n c) :
    Calls Try.prog 3 #[.slice ao n c] w fun e w' => LawOk w e w' := by
  go_enter Try.func3, Try.ntmps3
  go_wp2_with fail
  refine (zz5_any ws n ao c _ A.rv A.len A.bd A.sz).mono ?_
  rintro e w1 ⟨⟨z, rfl⟩, hw⟩
  subst w1
  cases z
  · go_wp2_with fail
    go_ret
    exact ⟨rfl, Below.refl _ _⟩
  by_cases h1 : n ≤ 65536
  rotate_left
  · go_wp2_with fail
    go_ret
    exact ⟨rfl, Below.refl _ _⟩
  go_wp2_with fail
  refine (bytes6_any ws n ao c 0 _ A.rv A.len A.bd).mono ?_
  rintro e w1 ⟨⟨t, rfl⟩, hw⟩
  subst w1
  by_cases h2 : t ≤ 1048576
  rotate_left
  · go_wp2_with fail
    go_ret
    exact ⟨rfl, Below.refl _ _⟩
  go_wp2_with fail
  refine (clone_any n ws ao c _ A.rv A.len h1 A.nil).mono ?_
  rintro e w1 ⟨a1, c1, rfl, r1, b1, hc1, hao⟩
  have HL : Hid (ws.length = n) := A.len
  have HD : Hid (∀ s ∈ ws, s.size ≤ maxLen) := A.sz
  have HO : Hid ((a1 = none ∧ n = 0 ∧ c1 = 0) ∨ ∃ b, a1 = some ⟨b, 0, none⟩) := hao
  obtain ⟨R, HR⟩ : ∃ R, Hid (At (wordAt ws) n R 0) := ⟨_, n, by omega, rfl⟩
  obtain ⟨F, HF⟩ : ∃ F, Hid (F = min R n) := ⟨_, rfl⟩
  clear A h2 hao
  go_wp2_with fail
  refine (zzfsp_any ws n a1 c1 _ r1 HL h1 hc1 HO HD R F HR HF).mono ?_
  rintro e w2 ⟨E, oa, oc, sa, sl, sc, ea, ec, rfl, he, v1, v2, hl, v3, b2'⟩
  have b2 := belStep b1 b2'
  replace r1 := r1.below b2'
  have HE : Hid (EndAt (wordAt ws) n F E) := he
  have HS : Hid ((startsOf ws F E).length = sl) := hl
  have e1 : F ≤ E := he.lo
  have e2 : E ≤ n := he.hi
  clear he hl b1 b2'
  generalize hm : n - E = m
  have Hm : Hid (n - E = m) := hm
  clear hm
  go_wp2_with fail
  refine (labels_any ws n a1 c1 _ r1 HL h1 HD R F E HR HF HE).mono ?_
  rintro e w3 ⟨B, c2, rfl, hB, hlab, b3'⟩
  have b3 := belStep b2 b3'
  replace r1 := r1.below b3'
  replace v1 := v1.below b3'
  replace v2 := v2.below b3'
  replace v3 := v3.below b3'
  have HB : Hid (∀ j, j < n → w3.cell? ⟨B, j, none⟩ = some (.int .i64 (lab F E j))) := hlab
  clear b2 b3' hlab HR HF HE HD HO hc1
  go_wp2_with fail
  go_loopw [7, 8, 9, 10] (fun s7 s8 s9 s10 wr => ∃ (i x y z : Nat), s7 = .int .i64 x ∧ s8 = .int .i64 y ∧ s9 = .int .i64 z ∧ s10 = .int .i64 i ∧ i ≤ n ∧ Hid (x = min i F ∧ y = min i E - F ∧ z = i - E) ∧ Hid (∃ q, wr = w3.drewN q)) (fun _ _ _ s10 _ => n - (intOf s10).toNat)
  case atStart => exact ⟨0, 0, 0, 0, rfl, rfl, rfl, rfl, by omega, ⟨by omega, by omega, by omega⟩, 0, rfl⟩
  case round =>
    obtain ⟨i, x, y, z, rfl, rfl, rfl, rfl, hi, HX, HW⟩ := hrel
    have bw : Below w3.heap.size w3 wr := by obtain ⟨q, hq⟩ := HW.out; rw [hq]; exact below_drewN' _ _
    by_cases hlt : i < n
    · obtain ⟨b, off, rfl, hbs, hcell⟩ := (r1.below bw).strs (by rw [HL.out]; omega)
      have hx := hcell i (by rw [HL.out]; exact hlt)
      have hy := (bw.cell (p := ⟨B, i, none⟩) hB).trans (HB.out i hlt)
      clear hcell
      by_cases c1 : i < F
      · obtain rfl : x = i := by have := HX.out; omega
        have HX' : Hid (x + 1 = min (x + 1) F ∧ y = min (x + 1) E - F ∧ z = x + 1 - E) := by have := HX.out; exact ⟨by omega, by omega, by omega⟩
        rw [show lab F E x = 0 from by unfold lab; rw [if_pos c1]] at hy
        obtain ⟨b4, o4, rfl, hb4, hc4⟩ := (v1.below bw).strs (by rw [List.length_take, HL.out]; omega)
        have hz := hc4 x (by rw [List.length_take, HL.out]; omega)
        rw [word_take c1] at hz
        have hd : decide (F ≤ x) = false := decide_eq_false (by omega)
        clear hc4 HX bw
        go_wp2
        go_quiet (fail)
        go_wp2
        go_roundw
        case rel => exact ⟨x + 1, x + 1, y, z, by go_num, rfl, rfl, by go_num, by omega, HX', drewn_next HW.out _⟩
        case measure => simp [intOf]; omega
      · by_cases c2 : i < E
        · have hFy : Hid (F + y = i) := by have := HX.out; show F + y = i; omega
          have HX' : Hid (x = min (i + 1) F ∧ y + 1 = min (i + 1) E - F ∧ z = i + 1 - E) := by have := HX.out; exact ⟨by omega, by omega, by omega⟩
          rw [show lab F E i = 1 from by unfold lab; rw [if_neg c1, if_pos c2]] at hy
          have hFE : F < E := by omega
          have hsl : Hid (sl = E - F) := by rw [← HS.out]; unfold startsOf; rw [if_pos hFE]; simp [Hid, HL.out]; omega
          have hys : y < sl := by rw [hsl.out]; have := hFy.out; omega
          have hyb : y ≤ 65536 := by have := hFy.out; omega
          obtain ⟨b4, o4, rfl, hb4, hc4⟩ := (v2.below bw).strs (by rw [HS.out]; omega)
          have hz := hc4 y (by rw [HS.out]; exact hys)
          rw [word_mid (by have := hFy.out; omega), hFy.out] at hz
          have hd : decide (sl ≤ y) = false := decide_eq_false (by omega)
          clear hc4 HX bw
          go_wp2
          go_quiet (fail)
          go_wp2
          go_roundw
          case rel => exact ⟨i + 1, x, y + 1, z, rfl, by go_num, rfl, by go_num, by omega, HX', drewn_next HW.out _⟩
          case measure => simp [intOf]; omega
        · have hFy : Hid (E + z = i) := by have := HX.out; show E + z = i; omega
          have HX' : Hid (x = min (i + 1) F ∧ y = min (i + 1) E - F ∧ z + 1 = i + 1 - E) := by have := HX.out; exact ⟨by omega, by omega, by omega⟩
          rw [show lab F E i = 2 from by unfold lab; rw [if_neg c1, if_neg c2]] at hy
          have hys : z < m := by rw [← Hm.out]; have := hFy.out; omega
          have hyb : z ≤ 65536 := by have := hFy.out; omega
          have hlen : Hid ((ws.drop E).length = m) := by rw [List.length_drop, HL.out]; exact Hm.out
          obtain ⟨b4, o4, rfl, hb4, hc4⟩ := (v3.below bw).strs (by rw [hlen.out]; omega)
          have hz := hc4 z (by rw [hlen.out]; exact hys)
          rw [word_drop, hFy.out] at hz
          have hd : decide (m ≤ z) = false := decide_eq_false (by omega)
          clear hc4 HX bw
          go_wp2
          go_quiet (fail)
          go_wp2
          go_roundw
          case rel => exact ⟨i + 1, x, y, z + 1, rfl, rfl, by go_num, by go_num, by omega, HX', drewn_next HW.out _⟩
          case measure => simp [intOf]; omega
    · obtain ⟨hxF, hyE, hzm⟩ : x = F ∧ y = E - F ∧ z = m := by have := HX.out; have := Hm.out; omega
      subst x
      subst z
      have bF := belStep b3 bw
      by_cases hFE : F < E
      · have hsl : E - F = sl := by rw [← HS.out]; unfold startsOf; rw [if_pos hFE]; simp [HL.out]; omega
        rw [hsl] at hyE
        subst y
        have hp : 0 < sl := by omega
        clear hsl HX
        go_wp2
        go_ret
        exact ⟨rfl, bF⟩
      · obtain rfl : sl = 1 := by rw [← HS.out]; unfold startsOf; rw [if_neg hFE]; rfl
        obtain ⟨b4, o4, rfl, hb4, hc4⟩ := (v2.below bw).strs (by rw [HS.out]; omega)
        have hz : wr.cell? ⟨b4, o4, none⟩ = some (.string ⟨#[46]⟩) := by
          have := hc4 0 (by rw [HS.out]; omega)
          unfold startsOf at this
          rw [if_neg hFE] at this
          exact this
        obtain rfl : y = 0 := by omega
        clear hc4 hyE HX
        go_wp2
        go_ret
        exact ⟨rfl, bF⟩

end Go.Proofs.Qxb6602667a
