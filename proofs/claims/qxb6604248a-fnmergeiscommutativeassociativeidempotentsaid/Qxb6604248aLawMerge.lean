/-
  THE LAW FnMergeMatchesModel (4), walked.
-/
import Derived.Test.Qxb6604248aLawCompare
import Derived.Test.Qxb6604248aZZmerge
import Derived.Test.Qxb6604248aParts
namespace Go.Proofs.Qxb6604248a
open Go.RowKit Plain

/-- A block of one cell. -/
structure CellV (w : World) (b : Nat) (v : Value) : Prop where
  lt : b < w.heap.size
  cell : w.cell? ⟨b, 0, none⟩ = some v
theorem CellV.below {w w' : World} {b : Nat} {v : Value} (h : CellV w b v) (hb : Below w.heap.size w w') : CellV w' b v :=
  ⟨Nat.lt_of_lt_of_le h.lt hb.size, (hb.cell (p := ⟨b, 0, none⟩) h.lt).trans h.cell⟩

theorem vld_of_vec {hs : List ByteArray} {ns : List Int} {n : Nat} {b : Bool} (v : Vec hs ns) (hl : hs.length = n) (h : vld hs ns n n b) : b = true :=
  h.2 ⟨rfl, fun i hi => ⟨by have := v.pos (i := i) (by omega); omega, fun h0 => v.lt (i := i - 1) (j := i) (by omega) (by omega)⟩⟩

theorem mg_left_ne {ha hb : List ByteArray} {na nb : List Int} (va : Vec ha na) (vb : Vec hb nb) {i : Nat} (hi : i < ha.length) : (get (((mg (ha.zip na) (hb.zip nb)).map (·.1)).zip ((mg (ha.zip na) (hb.zip nb)).map (·.2))) (hostAt ha i) == 0) = false := by
  rw [zip_parts, mg_get va.good vb.good, va.getAt hi]
  have := va.pos hi
  exact beq_eq_false_iff_ne.2 (by omega)
theorem mg_right_ne {ha hb : List ByteArray} {na nb : List Int} (va : Vec ha na) (vb : Vec hb nb) {i : Nat} (hi : i < hb.length) : (get (((mg (ha.zip na) (hb.zip nb)).map (·.1)).zip ((mg (ha.zip na) (hb.zip nb)).map (·.2))) (hostAt hb i) == 0) = false := by
  rw [zip_parts, mg_get va.good vb.good, vb.getAt hi]
  have := vb.pos hi
  exact beq_eq_false_iff_ne.2 (by omega)
theorem mg_at {ha hb : List ByteArray} {na nb : List Int} (va : Vec ha na) (vb : Vec hb nb) {i : Nat} (hi : i < ((mg (ha.zip na) (hb.zip nb)).map (·.1)).length) :
    numAt ((mg (ha.zip na) (hb.zip nb)).map (·.2)) i = max (get (ha.zip na) (hostAt ((mg (ha.zip na) (hb.zip nb)).map (·.1)) i)) (get (hb.zip nb) (hostAt ((mg (ha.zip na) (hb.zip nb)).map (·.1)) i)) := by
  rw [← mg_get va.good vb.good]
  have := (vec_parts (mg_good va.good vb.good)).getAt hi
  rw [zip_parts] at this
  exact this.symm

set_option maxRecDepth 10000 in
set_option maxHeartbeats 4000000 in
theorem lawMerge (ha : List ByteArray) (na : List Int) (pa qa : Option Addr) (la ma ca da : Nat) (hb : List ByteArray) (nb : List Int) (pb qb : Option Addr) (lb mb cb db : Nat) (w : World) (A : InV w ha na pa qa la ma ca da) (B : InV w hb nb pb qb lb mb cb db) :
    Calls Try.prog 4 #[.slice pa la ca, .slice qa ma da, .slice pb lb cb, .slice qb mb db] w fun e w' => LawOk w e w' := by
  go_enter Try.func4, Try.ntmps4
  go_wp2_with fail
  refine (zz17_any ha pa qa la ma ca da hb pb qb lb mb cb db _ A.vh A.eh A.bh A.bn A.sz B.vh B.eh B.bh B.bn B.sz).mono ?_
  rintro e w1 ⟨⟨z, rfl⟩, hw⟩
  subst w1
  cases z
  · go_wp2
    go_ret
    exact ⟨rfl, Below.refl _ _⟩
  go_wp2_with fail
  refine (vecSize_any ha pa qa la ma ca da _ A.vh A.eh A.bh A.bn A.sz).mono ?_
  rintro e w1 ⟨⟨ta, rfl, sa⟩, hw⟩
  subst w1
  have oa : 0 ≤ ta ∧ ta ≤ 1048577 := ⟨sa.1, sa.2.1⟩
  go_wp2_with fail
  refine (vecSize_any hb pb qb lb mb cb db _ B.vh B.eh B.bh B.bn B.sz).mono ?_
  rintro e w1 ⟨⟨tb, rfl, sb⟩, hw⟩
  subst w1
  have ob : 0 ≤ tb ∧ tb ≤ 1048577 := ⟨sb.1, sb.2.1⟩
  by_cases hst : ta + tb ≤ 1048576
  rotate_left
  · go_wp2_with fail
    go_ret
    exact ⟨rfl, Below.refl _ _⟩
  have ua : la ≤ 65536 ∧ ma ≤ 131072 := by have := sa.2.2 (by omega); omega
  have ub : lb ≤ 65536 ∧ mb ≤ 131072 := by have := sb.2.2 (by omega); omega
  clear sa sb
  go_wp2_with fail
  refine (validVec_any ha na pa qa la ma ca da _ A.vh A.vn A.eh A.en (by omega) (by omega)).mono ?_
  rintro e w1 ⟨⟨za, rfl, hza⟩, q1, hw⟩
  have b' : Below w.heap.size w w1 := by rw [hw]; exact below_drewN' _ _
  clear hw
  have b1 := b'
  cases za
  · go_wp2_with fail
    go_ret
    exact ⟨rfl, b1⟩
  obtain ⟨va, rfl⟩ := A.vec hza
  replace A := A.below b'
  replace B := B.below b'
  clear hza b'
  go_wp2_with fail
  refine (validVec_any hb nb pb qb lb mb cb db _ B.vh B.vn B.eh B.en (by omega) (by omega)).mono ?_
  rintro e w2 ⟨⟨zb, rfl, hzb⟩, q1, hw⟩
  have b' : Below w1.heap.size w1 w2 := by rw [hw]; exact below_drewN' _ _
  clear hw
  have b2 := belStep b1 b'
  cases zb
  · go_wp2_with fail
    go_ret
    exact ⟨rfl, b2⟩
  obtain ⟨vb, rfl⟩ := B.vec hzb
  replace A := A.below b'
  replace B := B.below b'
  clear hzb b' b1
  replace ua : la ≤ 65536 := ua.1
  replace ub : lb ≤ 65536 := ub.1
  clear hst oa ob
  go_wp2_with fail
  refine (cloneStrings_any la ha pa ca _ A.vh A.eh (by omega) A.zh).mono ?_
  rintro e w3 ⟨aha, cha, rfl, rha, b'⟩
  have b3 := belStep b2 b'
  replace A := A.below b'
  replace B := B.below b'
  clear b2 b'
  go_wp2_with fail
  refine (cloneU64_any la na qa da _ A.vn A.en (by omega) A.zn).mono ?_
  rintro e w4 ⟨ana, cna, rfl, rna, b'⟩
  have b4 := belStep b3 b'
  replace A := A.below b'
  replace B := B.below b'
  replace rha := rha.below b'
  clear b3 b'
  have Ea : Hid (ha.length = la) := A.eh
  have Fa : Hid (na.length = la) := A.en
  clear A
  go_wp2_with fail
  refine (cloneStrings_any lb hb pb cb _ B.vh B.eh (by omega) B.zh).mono ?_
  rintro e w5 ⟨ahb, chb, rfl, rhb, b'⟩
  have b5 := belStep b4 b'
  replace B := B.below b'
  replace rha := rha.below b'
  replace rna := rna.below b'
  clear b4 b'
  go_wp2_with fail
  refine (cloneU64_any lb nb qb db _ B.vn B.en (by omega) B.zn).mono ?_
  rintro e w6 ⟨anb, cnb, rfl, rnb, b'⟩
  have b6 := belStep b5 b'
  replace B := B.below b'
  replace rha := rha.below b'
  replace rna := rna.below b'
  replace rhb := rhb.below b'
  clear b5 b'
  have Eb : Hid (hb.length = lb) := B.eh
  have Fb : Hid (nb.length = lb) := B.en
  clear B
  go_wp2_with fail
  refine (zzVector_any la ha na aha ana cha cna _ rha rna Ea Fa (by omega)).mono ?_
  rintro e w7 ⟨aa, ka, ga, rfl, ea, kga, ra, b', _⟩
  have b7 := belStep b6 b'
  replace rha := rha.below b'
  replace rna := rna.below b'
  replace rhb := rhb.below b'
  replace rnb := rnb.below b'
  clear b6 b'
  have eab : ka ≤ 65536 := by rw [← ea]; simp [Ea.out, Fa.out]; omega
  have Xa : Hid ((ha.zip na).length = ka) := ea
  clear ea
  go_wp2_with fail
  refine (zzVector_any lb hb nb ahb anb chb cnb _ rhb rnb Eb Fb (by omega)).mono ?_
  rintro e w8 ⟨ab, kb, gb, rfl, eb, kgb, rb, b', _⟩
  have b8 := belStep b7 b'
  replace rha := rha.below b'
  replace rna := rna.below b'
  replace rhb := rhb.below b'
  replace rnb := rnb.below b'
  replace ra := ra.below b'
  clear b7 b'
  have ebb : kb ≤ 65536 := by rw [← eb]; simp [Eb.out, Fb.out]; omega
  have Xb : Hid ((hb.zip nb).length = kb) := eb
  clear eb
  go_wp2_with fail
  refine (zzMerge_any (ha.zip na) (hb.zip nb) ka kb aa ab ga gb _ ra rb Xa Xb (by omega) (by omega) kga kgb).mono ?_
  rintro e w9 ⟨am, km, gm, rfl, em, kgm, rm, b', _⟩
  have b9 := belStep b8 b'
  replace rha := rha.below b'
  replace rna := rna.below b'
  replace rhb := rhb.below b'
  replace rnb := rnb.below b'
  replace ra := ra.below b'
  replace rb := rb.below b'
  clear b8 b'
  have emb : km ≤ 131072 := by have := mg_len ((ha.zip na)) ((hb.zip nb)); rw [Xa.out, Xb.out] at this; omega
  have Xm : Hid ((mg (ha.zip na) (hb.zip nb)).length = km) := em
  clear em
  go_wp2_with fail
  have b' : Below w9.heap.size w9 (w9.alloc (.cells #[.slice am km gm] 33)) := (Below.refl _ _).alloc (Nat.le_refl _) _
  have cM : CellV (w9.alloc (.cells #[.slice am km gm] 33)) w9.heap.size (.slice am km gm) := ⟨by simp, by simp⟩
  generalize w9.alloc (.cells #[.slice am km gm] 33) = w10 at b' cM ⊢
  have b10 := belStep b9 b'
  replace rha := rha.below b'
  replace rna := rna.below b'
  replace rhb := rhb.below b'
  replace rnb := rnb.below b'
  replace ra := ra.below b'
  replace rb := rb.below b'
  replace rm := rm.below b'
  clear b9 b'
  have xcM := cM.cell
  go_wp2_with fail
  refine (zzParts_any (mg (ha.zip na) (hb.zip nb)) km am gm _ rm Xm (by omega)).mono ?_
  rintro e w11 ⟨ahm, chm, anm, cnm, rfl, rhm, rnm, b'⟩
  have b11 := belStep b10 b'
  replace rha := rha.below b'
  replace rna := rna.below b'
  replace rhb := rhb.below b'
  replace rnb := rnb.below b'
  replace ra := ra.below b'
  replace rb := rb.below b'
  replace rm := rm.below b'
  replace cM := cM.below b'
  replace xcM := cM.cell
  clear b10 b'
  clear xcM cM rm ra rb
  have VM := vec_parts (mg_good va.good vb.good)
  have HM : Hid (((mg (ha.zip na) (hb.zip nb)).map (·.1)).length = km) := by rw [List.length_map]; exact Xm.out
  have NM : Hid (((mg (ha.zip na) (hb.zip nb)).map (·.2)).length = km) := by rw [List.length_map]; exact Xm.out
  have MA : Hid (∀ i, i < la → (get (((mg (ha.zip na) (hb.zip nb)).map (·.1)).zip ((mg (ha.zip na) (hb.zip nb)).map (·.2))) (hostAt ha i) == 0) = false) := fun i hi => mg_left_ne va vb (by rw [Ea.out]; exact hi)
  have MB : Hid (∀ i, i < lb → (get (((mg (ha.zip na) (hb.zip nb)).map (·.1)).zip ((mg (ha.zip na) (hb.zip nb)).map (·.2))) (hostAt hb i) == 0) = false) := fun i hi => mg_right_ne va vb (by rw [Eb.out]; exact hi)
  have MM : Hid (∀ i, i < km → numAt ((mg (ha.zip na) (hb.zip nb)).map (·.2)) i = max (get (ha.zip na) (hostAt ((mg (ha.zip na) (hb.zip nb)).map (·.1)) i)) (get (hb.zip nb) (hostAt ((mg (ha.zip na) (hb.zip nb)).map (·.1)) i))) := fun i hi => mg_at va vb (by rw [HM.out]; exact hi)
  generalize (mg (ha.zip na) (hb.zip nb)).map (·.1) = hm at *
  generalize (mg (ha.zip na) (hb.zip nb)).map (·.2) = nm at *
  go_wp2_with fail
  refine (validVec_any hm nm ahm anm km km chm cnm _ rhm rnm HM NM (by omega) (by omega)).mono ?_
  rintro e w12 ⟨⟨zm, rfl, hzm⟩, q1, hw⟩
  have b' : Below w11.heap.size w11 w12 := by rw [hw]; exact below_drewN' _ _
  clear hw
  have b12 := belStep b11 b'
  replace rha := rha.below b'
  replace rna := rna.below b'
  replace rhb := rhb.below b'
  replace rnb := rnb.below b'
  replace rhm := rhm.below b'
  replace rnm := rnm.below b'
  clear b11 b'
  obtain rfl := vld_of_vec VM HM.out hzm
  clear hzm
  go_wp2_with fail
  go_loopw [12] (fun s wr => ∃ k : Nat, s = .int .i64 k ∧ k ≤ km ∧ wr = w12) (fun s _ => km - (intOf s).toNat)
  case atStart => exact ⟨0, rfl, by omega, rfl⟩
  case round =>
    obtain ⟨k, rfl, h1, hwr⟩ := hrel
    subst wr
    by_cases hlt : k < km
    · obtain ⟨b1, o1, rfl, _, hc1⟩ := rhm.strs (by rw [HM.out]; omega)
      obtain ⟨b2, o2, rfl, _, hc2⟩ := rnm.u64s (by rw [NM.out]; omega)
      have hx1 := hc1 k (by rw [HM.out]; omega)
      have hx2 := hc2 k (by rw [NM.out]; omega)
      have em := MM.out k hlt
      clear hc1 hc2
      by_cases hgt : get (ha.zip na) (hostAt hm k) < get (hb.zip nb) (hostAt hm k)
      · rw [em, show max (get (ha.zip na) (hostAt hm k)) (get (hb.zip nb) (hostAt hm k)) = get (hb.zip nb) (hostAt hm k) from by omega] at hx2
        clear em
        go_wp2_with fail
        refine (lookup_any la ha na aha ana cha cna (hostAt hm k) _ rha rna Ea va (by omega)).mono ?_
        rintro e wz ⟨rfl, hw⟩
        subst wz
        go_wp2_with fail
        refine (lookup_any lb hb nb ahb anb chb cnb (hostAt hm k) _ rhb rnb Eb vb (by omega)).mono ?_
        rintro e wz ⟨rfl, hw⟩
        subst wz
        go_wp2_with fail
        go_roundw
        case rel => exact ⟨k + 1, by go_num, by omega, trivial⟩
        case measure => simp [intOf]; omega
      · rw [em, show max (get (ha.zip na) (hostAt hm k)) (get (hb.zip nb) (hostAt hm k)) = get (ha.zip na) (hostAt hm k) from by omega] at hx2
        clear em
        go_wp2_with fail
        refine (lookup_any la ha na aha ana cha cna (hostAt hm k) _ rha rna Ea va (by omega)).mono ?_
        rintro e wz ⟨rfl, hw⟩
        subst wz
        go_wp2_with fail
        refine (lookup_any lb hb nb ahb anb chb cnb (hostAt hm k) _ rhb rnb Eb vb (by omega)).mono ?_
        rintro e wz ⟨rfl, hw⟩
        subst wz
        go_wp2_with fail
        go_roundw
        case rel => exact ⟨k + 1, by go_num, by omega, trivial⟩
        case measure => simp [intOf]; omega
    · go_wp2_with fail
      go_loopw [15] (fun s wr => ∃ k : Nat, s = .int .i64 k ∧ k ≤ la ∧ wr = w12) (fun s _ => la - (intOf s).toNat)
      case atStart => exact ⟨0, rfl, by omega, rfl⟩
      case round =>
        obtain ⟨k, rfl, h1, hwr⟩ := hrel
        subst wr
        by_cases hlt : k < la
        · obtain ⟨b1, o1, rfl, _, hc1⟩ := rha.strs (by rw [Ea.out]; omega)
          have hx1 := hc1 k (by rw [Ea.out]; omega)
          have hne := MA.out k hlt
          clear hc1
          go_wp2_with fail
          refine (lookup_any km hm nm ahm anm chm cnm (hostAt ha k) _ rhm rnm HM VM (by omega)).mono ?_
          rintro e wz ⟨rfl, hw⟩
          subst wz
          go_wp2_with fail
          go_roundw
          case rel => exact ⟨k + 1, by go_num, by omega, trivial⟩
          case measure => simp [intOf]; omega
        · go_wp2_with fail
          go_loopw [16] (fun s wr => ∃ k : Nat, s = .int .i64 k ∧ k ≤ lb ∧ wr = w12) (fun s _ => lb - (intOf s).toNat)
          case atStart => exact ⟨0, rfl, by omega, rfl⟩
          case round =>
            obtain ⟨k, rfl, h1, hwr⟩ := hrel
            subst wr
            by_cases hlt : k < lb
            · obtain ⟨b1, o1, rfl, _, hc1⟩ := rhb.strs (by rw [Eb.out]; omega)
              have hx1 := hc1 k (by rw [Eb.out]; omega)
              have hne := MB.out k hlt
              clear hc1
              go_wp2_with fail
              refine (lookup_any km hm nm ahm anm chm cnm (hostAt hb k) _ rhm rnm HM VM (by omega)).mono ?_
              rintro e wz ⟨rfl, hw⟩
              subst wz
              go_wp2_with fail
              go_roundw
              case rel => exact ⟨k + 1, by go_num, by omega, trivial⟩
              case measure => simp [intOf]; omega
            · go_wp2_with fail
              go_ret
              exact ⟨rfl, b12⟩

end Go.Proofs.Qxb6604248a
