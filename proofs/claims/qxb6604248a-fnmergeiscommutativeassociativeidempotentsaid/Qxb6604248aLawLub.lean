/-
  THE LAW FnMergeIsLeastUpperBound (5), walked.
-/
import Derived.Test.Qxb6604248aLawMerge
import Derived.Test.Qxb6604248aZz6
namespace Go.Proofs.Qxb6604248a
open Go.RowKit Plain

theorem atMost_is (r : Int) (b : Bool) (w : World) (h : atm r = b) : Calls Try.prog 22 #[.int .i64 r] w fun e w' => e = .returned (.bool b) ∧ w' = w := by
  subst h
  exact atMost_any r w

theorem lub_eq {x y : List Ent} (gx : Plain.Good x) (gy : Plain.Good y) : (cmpOf x (mg x y) == 3) = atm (cmpOf y x) := by
  rw [eq_cmp gx (mg_good gx gy), atm_cmp gy gx, leq_mg_left gx gy, leq_mg_back gx gy]; rfl
theorem lub_least {x y z : List Ent} (gx : Plain.Good x) (gy : Plain.Good y) (gz : Plain.Good z) : atm (cmpOf x z) = true → atm (cmpOf y z) = true → atm (cmpOf (mg x y) z) = true := by
  rw [atm_cmp gx gz, atm_cmp gy gz, atm_cmp (mg_good gx gy) gz]
  exact leq_mg_least gx gy gz

set_option maxRecDepth 10000 in
set_option maxHeartbeats 4000000 in
theorem lawLub (ha : List ByteArray) (na : List Int) (pa qa : Option Addr) (la ma ca da : Nat) (hb : List ByteArray) (nb : List Int) (pb qb : Option Addr) (lb mb cb db : Nat) (hc : List ByteArray) (nc : List Int) (pc qc : Option Addr) (lc mc cc dc : Nat) (w : World) (A : InV w ha na pa qa la ma ca da) (B : InV w hb nb pb qb lb mb cb db) (C : InV w hc nc pc qc lc mc cc dc) :
    Calls Try.prog 5 #[.slice pa la ca, .slice qa ma da, .slice pb lb cb, .slice qb mb db, .slice pc lc cc, .slice qc mc dc] w fun e w' => LawOk w e w' := by
  go_enter Try.func5, Try.ntmps5
  go_wp2_with fail
  refine (zz21_any ha pa qa la ma ca da hb pb qb lb mb cb db hc pc qc lc mc cc dc _ A.vh A.eh A.bh A.bn A.sz B.vh B.eh B.bh B.bn B.sz C.vh C.eh C.bh C.bn C.sz).mono ?_
  rintro e w1 ⟨⟨z, rfl⟩, hw⟩
  subst w1
  cases z
  · go_wp2
    go_ret
    exact ⟨rfl, Below.refl _ _⟩
  go_wp2_with fail
  refine (vecSize_any ha pa qa la ma ca da _ A.vh A.eh A.bh A.bn A.sz).mono ?_
  rintro e w1 ⟨⟨ta, rfl, sa⟩, hw⟩
  subst w1
  have oa : 0 ≤ ta ∧ ta ≤ 1048577 := ⟨sa.1, sa.2.1⟩
  go_wp2_with fail
  refine (vecSize_any hb pb qb lb mb cb db _ B.vh B.eh B.bh B.bn B.sz).mono ?_
  rintro e w1 ⟨⟨tb, rfl, sb⟩, hw⟩
  subst w1
  have ob : 0 ≤ tb ∧ tb ≤ 1048577 := ⟨sb.1, sb.2.1⟩
  go_wp2_with fail
  refine (vecSize_any hc pc qc lc mc cc dc _ C.vh C.eh C.bh C.bn C.sz).mono ?_
  rintro e w1 ⟨⟨tc, rfl, sc⟩, hw⟩
  subst w1
  have oc : 0 ≤ tc ∧ tc ≤ 1048577 := ⟨sc.1, sc.2.1⟩
  by_cases hst : ta + tb + tc ≤ 1048576
  rotate_left
  · go_wp2_with fail
    go_ret
    exact ⟨rfl, Below.refl _ _⟩
  have ua : la ≤ 65536 ∧ ma ≤ 131072 := by have := sa.2.2 (by omega); omega
  have ub : lb ≤ 65536 ∧ mb ≤ 131072 := by have := sb.2.2 (by omega); omega
  have uc : lc ≤ 65536 ∧ mc ≤ 131072 := by have := sc.2.2 (by omega); omega
  clear sa sb sc
  go_wp2_with fail
  refine (validVec_any ha na pa qa la ma ca da _ A.vh A.vn A.eh A.en (by omega) (by omega)).mono ?_
  rintro e w1 ⟨⟨za, rfl, hza⟩, q1, hw⟩
  have b' : Below w.heap.size w w1 := by rw [hw]; exact below_drewN' _ _
  clear hw
  have b1 := b'
  cases za
  · go_wp2_with fail
    go_ret
    exact ⟨rfl, b1⟩
  obtain ⟨va, rfl⟩ := A.vec hza
  replace A := A.below b'
  replace B := B.below b'
  replace C := C.below b'
  clear hza b'
  go_wp2_with fail
  refine (validVec_any hb nb pb qb lb mb cb db _ B.vh B.vn B.eh B.en (by omega) (by omega)).mono ?_
  rintro e w2 ⟨⟨zb, rfl, hzb⟩, q1, hw⟩
  have b' : Below w1.heap.size w1 w2 := by rw [hw]; exact below_drewN' _ _
  clear hw
  have b2 := belStep b1 b'
  cases zb
  · go_wp2_with fail
    go_ret
    exact ⟨rfl, b2⟩
  obtain ⟨vb, rfl⟩ := B.vec hzb
  replace A := A.below b'
  replace B := B.below b'
  replace C := C.below b'
  clear hzb b' b1
  go_wp2_with fail
  refine (validVec_any hc nc pc qc lc mc cc dc _ C.vh C.vn C.eh C.en (by omega) (by omega)).mono ?_
  rintro e w3 ⟨⟨zc, rfl, hzc⟩, q1, hw⟩
  have b' : Below w2.heap.size w2 w3 := by rw [hw]; exact below_drewN' _ _
  clear hw
  have b3 := belStep b2 b'
  cases zc
  · go_wp2_with fail
    go_ret
    exact ⟨rfl, b3⟩
  obtain ⟨vc, rfl⟩ := C.vec hzc
  replace A := A.below b'
  replace B := B.below b'
  replace C := C.below b'
  clear hzc b' b2
  replace ua : la ≤ 65536 := ua.1
  replace ub : lb ≤ 65536 := ub.1
  replace uc : lc ≤ 65536 := uc.1
  clear hst oa ob oc
  go_wp2_with fail
  refine (cloneStrings_any la ha pa ca _ A.vh A.eh (by omega) A.zh).mono ?_
  rintro e w4 ⟨aha, cha, rfl, rha, b'⟩
  have b4 := belStep b3 b'
  replace A := A.below b'
  replace B := B.below b'
  replace C := C.below b'
  clear b3 b'
  go_wp2_with fail
  refine (cloneU64_any la na qa da _ A.vn A.en (by omega) A.zn).mono ?_
  rintro e w5 ⟨ana, cna, rfl, rna, b'⟩
  have b5 := belStep b4 b'
  replace A := A.below b'
  replace B := B.below b'
  replace C := C.below b'
  replace rha := rha.below b'
  clear b4 b'
  have Ea : Hid (ha.length = la) := A.eh
  have Fa : Hid (na.length = la) := A.en
  clear A
  go_wp2_with fail
  refine (cloneStrings_any lb hb pb cb _ B.vh B.eh (by omega) B.zh).mono ?_
  rintro e w6 ⟨ahb, chb, rfl, rhb, b'⟩
  have b6 := belStep b5 b'
  replace B := B.below b'
  replace C := C.below b'
  replace rha := rha.below b'
  replace rna := rna.below b'
  clear b5 b'
  go_wp2_with fail
  refine (cloneU64_any lb nb qb db _ B.vn B.en (by omega) B.zn).mono ?_
  rintro e w7 ⟨anb, cnb, rfl, rnb, b'⟩
  have b7 := belStep b6 b'
  replace B := B.below b'
  replace C := C.below b'
  replace rha := rha.below b'
  replace rna := rna.below b'
  replace rhb := rhb.below b'
  clear b6 b'
  have Eb : Hid (hb.length = lb) := B.eh
  have Fb : Hid (nb.length = lb) := B.en
  clear B
  go_wp2_with fail
  refine (cloneStrings_any lc hc pc cc _ C.vh C.eh (by omega) C.zh).mono ?_
  rintro e w8 ⟨ahc, chc, rfl, rhc, b'⟩
  have b8 := belStep b7 b'
  replace C := C.below b'
  replace rha := rha.below b'
  replace rna := rna.below b'
  replace rhb := rhb.below b'
  replace rnb := rnb.below b'
  clear b7 b'
  go_wp2_with fail
  refine (cloneU64_any lc nc qc dc _ C.vn C.en (by omega) C.zn).mono ?_
  rintro e w9 ⟨anc, cnc, rfl, rnc, b'⟩
  have b9 := belStep b8 b'
  replace C := C.below b'
  replace rha := rha.below b'
  replace rna := rna.below b'
  replace rhb := rhb.below b'
  replace rnb := rnb.below b'
  replace rhc := rhc.below b'
  clear b8 b'
  have Ec : Hid (hc.length = lc) := C.eh
  have Fc : Hid (nc.length = lc) := C.en
  clear C
  go_wp2_with fail
  refine (zzVector_any la ha na aha ana cha cna _ rha rna Ea Fa (by omega)).mono ?_
  rintro e w10 ⟨aa, ka, ga, rfl, ea, kga, ra, b', _⟩
  have b10 := belStep b9 b'
  replace rha := rha.below b'
  replace rna := rna.below b'
  replace rhb := rhb.below b'
  replace rnb := rnb.below b'
  replace rhc := rhc.below b'
  replace rnc := rnc.below b'
  clear b9 b'
  have eab : ka ≤ 65536 := by rw [← ea]; simp [Ea.out, Fa.out]; omega
  have Xa : Hid ((ha.zip na).length = ka) := ea
  clear ea
  go_wp2_with fail
  have b' : Below w10.heap.size w10 (w10.alloc (.cells #[.slice aa ka ga] 33)) := (Below.refl _ _).alloc (Nat.le_refl _) _
  have cA : CellV (w10.alloc (.cells #[.slice aa ka ga] 33)) w10.heap.size (.slice aa ka ga) := ⟨by simp, by simp⟩
  generalize w10.alloc (.cells #[.slice aa ka ga] 33) = w11 at b' cA ⊢
  have b11 := belStep b10 b'
  replace rha := rha.below b'
  replace rna := rna.below b'
  replace rhb := rhb.below b'
  replace rnb := rnb.below b'
  replace rhc := rhc.below b'
  replace rnc := rnc.below b'
  replace ra := ra.below b'
  clear b10 b'
  have xcA := cA.cell
  have ycA := cA.lt
  go_wp2_with fail
  refine (zzVector_any lb hb nb ahb anb chb cnb _ rhb rnb Eb Fb (by omega)).mono ?_
  rintro e w12 ⟨ab, kb, gb, rfl, eb, kgb, rb, b', _⟩
  have b12 := belStep b11 b'
  replace rha := rha.below b'
  replace rna := rna.below b'
  replace rhb := rhb.below b'
  replace rnb := rnb.below b'
  replace rhc := rhc.below b'
  replace rnc := rnc.below b'
  replace ra := ra.below b'
  replace cA := cA.below b'
  replace xcA := cA.cell
  replace ycA := cA.lt
  clear b11 b'
  have ebb : kb ≤ 65536 := by rw [← eb]; simp [Eb.out, Fb.out]; omega
  have Xb : Hid ((hb.zip nb).length = kb) := eb
  clear eb
  go_wp2_with fail
  have b' : Below w12.heap.size w12 (w12.alloc (.cells #[.slice ab kb gb] 33)) := (Below.refl _ _).alloc (Nat.le_refl _) _
  have cB : CellV (w12.alloc (.cells #[.slice ab kb gb] 33)) w12.heap.size (.slice ab kb gb) := ⟨by simp, by simp⟩
  generalize w12.alloc (.cells #[.slice ab kb gb] 33) = w13 at b' cB ⊢
  have b13 := belStep b12 b'
  replace rha := rha.below b'
  replace rna := rna.below b'
  replace rhb := rhb.below b'
  replace rnb := rnb.below b'
  replace rhc := rhc.below b'
  replace rnc := rnc.below b'
  replace ra := ra.below b'
  replace rb := rb.below b'
  replace cA := cA.below b'
  replace xcA := cA.cell
  replace ycA := cA.lt
  clear b12 b'
  have xcB := cB.cell
  have ycB := cB.lt
  go_wp2_with fail
  refine (zzVector_any lc hc nc ahc anc chc cnc _ rhc rnc Ec Fc (by omega)).mono ?_
  rintro e w14 ⟨ac, kc, gc, rfl, ec, kgc, rc, b', _⟩
  have b14 := belStep b13 b'
  replace rha := rha.below b'
  replace rna := rna.below b'
  replace rhb := rhb.below b'
  replace rnb := rnb.below b'
  replace rhc := rhc.below b'
  replace rnc := rnc.below b'
  replace ra := ra.below b'
  replace rb := rb.below b'
  replace cA := cA.below b'
  replace xcA := cA.cell
  replace ycA := cA.lt
  replace cB := cB.below b'
  replace xcB := cB.cell
  replace ycB := cB.lt
  clear b13 b'
  have ecb : kc ≤ 65536 := by rw [← ec]; simp [Ec.out, Fc.out]; omega
  have Xc : Hid ((hc.zip nc).length = kc) := ec
  clear ec
  go_wp2_with fail
  have b' : Below w14.heap.size w14 (w14.alloc (.cells #[.slice ac kc gc] 33)) := (Below.refl _ _).alloc (Nat.le_refl _) _
  have cC : CellV (w14.alloc (.cells #[.slice ac kc gc] 33)) w14.heap.size (.slice ac kc gc) := ⟨by simp, by simp⟩
  generalize w14.alloc (.cells #[.slice ac kc gc] 33) = w15 at b' cC ⊢
  have b15 := belStep b14 b'
  replace rha := rha.below b'
  replace rna := rna.below b'
  replace rhb := rhb.below b'
  replace rnb := rnb.below b'
  replace rhc := rhc.below b'
  replace rnc := rnc.below b'
  replace ra := ra.below b'
  replace rb := rb.below b'
  replace rc := rc.below b'
  replace cA := cA.below b'
  replace xcA := cA.cell
  replace ycA := cA.lt
  replace cB := cB.below b'
  replace xcB := cB.cell
  replace ycB := cB.lt
  clear b14 b'
  have xcC := cC.cell
  have ycC := cC.lt
  clear rha rna
  clear rhb rnb
  clear rhc rnc
  go_wp2_with fail
  refine (zzMerge_any (ha.zip na) (hb.zip nb) ka kb aa ab ga gb _ ra rb Xa Xb (by omega) (by omega) kga kgb).mono ?_
  rintro e w16 ⟨am, km, gm, rfl, em, kgm, rm, b', _⟩
  have b16 := belStep b15 b'
  replace ra := ra.below b'
  replace rb := rb.below b'
  replace rc := rc.below b'
  replace cA := cA.below b'
  replace xcA := cA.cell
  replace ycA := cA.lt
  replace cB := cB.below b'
  replace xcB := cB.cell
  replace ycB := cB.lt
  replace cC := cC.below b'
  replace xcC := cC.cell
  replace ycC := cC.lt
  clear b15 b'
  have emb : km ≤ 131072 := by have := mg_len ((ha.zip na)) ((hb.zip nb)); rw [Xa.out, Xb.out] at this; omega
  have Xm : Hid ((mg (ha.zip na) (hb.zip nb)).length = km) := em
  clear em
  go_wp2_with fail
  have b' : Below w16.heap.size w16 (w16.alloc (.cells #[.slice am km gm] 33)) := (Below.refl _ _).alloc (Nat.le_refl _) _
  have cM : CellV (w16.alloc (.cells #[.slice am km gm] 33)) w16.heap.size (.slice am km gm) := ⟨by simp, by simp⟩
  generalize w16.alloc (.cells #[.slice am km gm] 33) = w17 at b' cM ⊢
  have b17 := belStep b16 b'
  replace ra := ra.below b'
  replace rb := rb.below b'
  replace rc := rc.below b'
  replace rm := rm.below b'
  replace cA := cA.below b'
  replace xcA := cA.cell
  replace ycA := cA.lt
  replace cB := cB.below b'
  replace xcB := cB.cell
  replace ycB := cB.lt
  replace cC := cC.below b'
  replace xcC := cC.cell
  replace ycC := cC.lt
  clear b16 b'
  have xcM := cM.cell
  have ycM := cM.lt
  have TA : Hid (atm (cmpOf (ha.zip na) (mg (ha.zip na) (hb.zip nb))) = true) := (atm_cmp va.good (mg_good va.good vb.good)).trans (leq_mg_left va.good vb.good)
  have TB : Hid (atm (cmpOf (hb.zip nb) (mg (ha.zip na) (hb.zip nb))) = true) := (atm_cmp vb.good (mg_good va.good vb.good)).trans (leq_mg_right va.good vb.good)
  have TE : Hid ((cmpOf (ha.zip na) (mg (ha.zip na) (hb.zip nb)) == 3) = atm (cmpOf (hb.zip nb) (ha.zip na))) := lub_eq va.good vb.good
  have TC : Hid (atm (cmpOf (ha.zip na) (hc.zip nc)) = true → atm (cmpOf (hb.zip nb) (hc.zip nc)) = true → atm (cmpOf (mg (ha.zip na) (hb.zip nb)) (hc.zip nc)) = true) := lub_least va.good vb.good vc.good
  generalize (mg (ha.zip na) (hb.zip nb)) = vm at *
  generalize (ha.zip na) = xa at *
  generalize (hb.zip nb) = xb at *
  generalize (hc.zip nc) = xc at *
  go_wp2_with fail
  refine (compare_any xa vm ka km aa am ga gm _ ra rm Xa Xm (by omega) (by omega) kga kgm).mono ?_
  rintro e w18 ⟨rfl, b'⟩
  have b18 := belStep b17 b'
  replace ra := ra.below b'
  replace rb := rb.below b'
  replace rc := rc.below b'
  replace rm := rm.below b'
  replace cA := cA.below b'
  replace xcA := cA.cell
  replace ycA := cA.lt
  replace cB := cB.below b'
  replace xcB := cB.cell
  replace ycB := cB.lt
  replace cC := cC.below b'
  replace xcC := cC.cell
  replace ycC := cC.lt
  replace cM := cM.below b'
  replace xcM := cM.cell
  replace ycM := cM.lt
  clear b17 b'
  go_wp2_with fail
  refine (atMost_is (cmpOf xa vm) true _ TA.out).mono ?_
  rintro e wz ⟨rfl, hw⟩
  subst wz
  go_wp2_with fail
  refine (compare_any xb vm kb km ab am gb gm _ rb rm Xb Xm (by omega) (by omega) kgb kgm).mono ?_
  rintro e w19 ⟨rfl, b'⟩
  have b19 := belStep b18 b'
  replace ra := ra.below b'
  replace rb := rb.below b'
  replace rc := rc.below b'
  replace rm := rm.below b'
  replace cA := cA.below b'
  replace xcA := cA.cell
  replace ycA := cA.lt
  replace cB := cB.below b'
  replace xcB := cB.cell
  replace ycB := cB.lt
  replace cC := cC.below b'
  replace xcC := cC.cell
  replace ycC := cC.lt
  replace cM := cM.below b'
  replace xcM := cM.cell
  replace ycM := cM.lt
  clear b18 b'
  go_wp2_with fail
  refine (atMost_is (cmpOf xb vm) true _ TB.out).mono ?_
  rintro e wz ⟨rfl, hw⟩
  subst wz
  rcases hz : atm (cmpOf xb xa) with _ | _
  · have E3 : (cmpOf xa vm == 3) = false := TE.out.trans hz
    go_wp2_with fail
    refine (compare_any xb xa kb ka ab aa gb ga _ rb ra Xb Xa (by omega) (by omega) kgb kga).mono ?_
    rintro e w20 ⟨rfl, b'⟩
    have b20 := belStep b19 b'
    replace ra := ra.below b'
    replace rb := rb.below b'
    replace rc := rc.below b'
    replace rm := rm.below b'
    replace cA := cA.below b'
    replace xcA := cA.cell
    replace ycA := cA.lt
    replace cB := cB.below b'
    replace xcB := cB.cell
    replace ycB := cB.lt
    replace cC := cC.below b'
    replace xcC := cC.cell
    replace ycC := cC.lt
    replace cM := cM.below b'
    replace xcM := cM.cell
    replace ycM := cM.lt
    clear b19 b'
    go_wp2_with fail
    refine (atMost_is (cmpOf xb xa) false _ hz).mono ?_
    rintro e wz ⟨rfl, hw⟩
    subst wz
    clear hz E3
    go_wp2_with fail
    refine (compare_any xa xc ka kc aa ac ga gc _ ra rc Xa Xc (by omega) (by omega) kga kgc).mono ?_
    rintro e w21 ⟨rfl, b'⟩
    have b21 := belStep b20 b'
    replace ra := ra.below b'
    replace rb := rb.below b'
    replace rc := rc.below b'
    replace rm := rm.below b'
    replace cA := cA.below b'
    replace xcA := cA.cell
    replace ycA := cA.lt
    replace cB := cB.below b'
    replace xcB := cB.cell
    replace ycB := cB.lt
    replace cC := cC.below b'
    replace xcC := cC.cell
    replace ycC := cC.lt
    replace cM := cM.below b'
    replace xcM := cM.cell
    replace ycM := cM.lt
    clear b20 b'
    rcases hx : atm (cmpOf xa xc) with _ | _
    · go_wp2_with fail
      refine (atMost_is (cmpOf xa xc) false _ hx).mono ?_
      rintro e wz ⟨rfl, hw⟩
      subst wz
      clear hx
      go_wp2_with fail
      go_ret
      exact ⟨rfl, b21⟩
    · go_wp2_with fail
      refine (atMost_is (cmpOf xa xc) true _ hx).mono ?_
      rintro e wz ⟨rfl, hw⟩
      subst wz
      have HX : Hid (atm (cmpOf xa xc) = true) := hx
      clear hx
      go_wp2_with fail
      refine (compare_any xb xc kb kc ab ac gb gc _ rb rc Xb Xc (by omega) (by omega) kgb kgc).mono ?_
      rintro e w22 ⟨rfl, b'⟩
      have b22 := belStep b21 b'
      replace ra := ra.below b'
      replace rb := rb.below b'
      replace rc := rc.below b'
      replace rm := rm.below b'
      replace cA := cA.below b'
      replace xcA := cA.cell
      replace ycA := cA.lt
      replace cB := cB.below b'
      replace xcB := cB.cell
      replace ycB := cB.lt
      replace cC := cC.below b'
      replace xcC := cC.cell
      replace ycC := cC.lt
      replace cM := cM.below b'
      replace xcM := cM.cell
      replace ycM := cM.lt
      clear b21 b'
      rcases hy : atm (cmpOf xb xc) with _ | _
      · go_wp2_with fail
        refine (atMost_is (cmpOf xb xc) false _ hy).mono ?_
        rintro e wz ⟨rfl, hw⟩
        subst wz
        clear hy
        go_wp2_with fail
        go_ret
        exact ⟨rfl, b22⟩
      · go_wp2_with fail
        refine (atMost_is (cmpOf xb xc) true _ hy).mono ?_
        rintro e wz ⟨rfl, hw⟩
        subst wz
        have HY : Hid (atm (cmpOf xb xc) = true) := hy
        clear hy
        go_wp2_with fail
        refine (compare_any vm xc km kc am ac gm gc _ rm rc Xm Xc (by omega) (by omega) kgm kgc).mono ?_
        rintro e w23 ⟨rfl, b'⟩
        have b23 := belStep b22 b'
        replace ra := ra.below b'
        replace rb := rb.below b'
        replace rc := rc.below b'
        replace rm := rm.below b'
        replace cA := cA.below b'
        replace xcA := cA.cell
        replace ycA := cA.lt
        replace cB := cB.below b'
        replace xcB := cB.cell
        replace ycB := cB.lt
        replace cC := cC.below b'
        replace xcC := cC.cell
        replace ycC := cC.lt
        replace cM := cM.below b'
        replace xcM := cM.cell
        replace ycM := cM.lt
        clear b22 b'
        go_wp2_with fail
        refine (atMost_is (cmpOf vm xc) true _ (TC.out HX.out HY.out)).mono ?_
        rintro e wz ⟨rfl, hw⟩
        subst wz
        go_wp2_with fail
        go_ret
        exact ⟨rfl, b23⟩
  · have E3 : (cmpOf xa vm == 3) = true := TE.out.trans hz
    go_wp2_with fail
    refine (compare_any xb xa kb ka ab aa gb ga _ rb ra Xb Xa (by omega) (by omega) kgb kga).mono ?_
    rintro e w20 ⟨rfl, b'⟩
    have b20 := belStep b19 b'
    replace ra := ra.below b'
    replace rb := rb.below b'
    replace rc := rc.below b'
    replace rm := rm.below b'
    replace cA := cA.below b'
    replace xcA := cA.cell
    replace ycA := cA.lt
    replace cB := cB.below b'
    replace xcB := cB.cell
    replace ycB := cB.lt
    replace cC := cC.below b'
    replace xcC := cC.cell
    replace ycC := cC.lt
    replace cM := cM.below b'
    replace xcM := cM.cell
    replace ycM := cM.lt
    clear b19 b'
    go_wp2_with fail
    refine (atMost_is (cmpOf xb xa) true _ hz).mono ?_
    rintro e wz ⟨rfl, hw⟩
    subst wz
    clear hz E3
    go_wp2_with fail
    refine (compare_any xa xc ka kc aa ac ga gc _ ra rc Xa Xc (by omega) (by omega) kga kgc).mono ?_
    rintro e w21 ⟨rfl, b'⟩
    have b21 := belStep b20 b'
    replace ra := ra.below b'
    replace rb := rb.below b'
    replace rc := rc.below b'
    replace rm := rm.below b'
    replace cA := cA.below b'
    replace xcA := cA.cell
    replace ycA := cA.lt
    replace cB := cB.below b'
    replace xcB := cB.cell
    replace ycB := cB.lt
    replace cC := cC.below b'
    replace xcC := cC.cell
    replace ycC := cC.lt
    replace cM := cM.below b'
    replace xcM := cM.cell
    replace ycM := cM.lt
    clear b20 b'
    rcases hx : atm (cmpOf xa xc) with _ | _
    · go_wp2_with fail
      refine (atMost_is (cmpOf xa xc) false _ hx).mono ?_
      rintro e wz ⟨rfl, hw⟩
      subst wz
      clear hx
      go_wp2_with fail
      go_ret
      exact ⟨rfl, b21⟩
    · go_wp2_with fail
      refine (atMost_is (cmpOf xa xc) true _ hx).mono ?_
      rintro e wz ⟨rfl, hw⟩
      subst wz
      have HX : Hid (atm (cmpOf xa xc) = true) := hx
      clear hx
      go_wp2_with fail
      refine (compare_any xb xc kb kc ab ac gb gc _ rb rc Xb Xc (by omega) (by omega) kgb kgc).mono ?_
      rintro e w22 ⟨rfl, b'⟩
      have b22 := belStep b21 b'
      replace ra := ra.below b'
      replace rb := rb.below b'
      replace rc := rc.below b'
      replace rm := rm.below b'
      replace cA := cA.below b'
      replace xcA := cA.cell
      replace ycA := cA.lt
      replace cB := cB.below b'
      replace xcB := cB.cell
      replace ycB := cB.lt
      replace cC := cC.below b'
      replace xcC := cC.cell
      replace ycC := cC.lt
      replace cM := cM.below b'
      replace xcM := cM.cell
      replace ycM := cM.lt
      clear b21 b'
      rcases hy : atm (cmpOf xb xc) with _ | _
      · go_wp2_with fail
        refine (atMost_is (cmpOf xb xc) false _ hy).mono ?_
        rintro e wz ⟨rfl, hw⟩
        subst wz
        clear hy
        go_wp2_with fail
        go_ret
        exact ⟨rfl, b22⟩
      · go_wp2_with fail
        refine (atMost_is (cmpOf xb xc) true _ hy).mono ?_
        rintro e wz ⟨rfl, hw⟩
        subst wz
        have HY : Hid (atm (cmpOf xb xc) = true) := hy
        clear hy
        go_wp2_with fail
        refine (compare_any vm xc km kc am ac gm gc _ rm rc Xm Xc (by omega) (by omega) kgm kgc).mono ?_
        rintro e w23 ⟨rfl, b'⟩
        have b23 := belStep b22 b'
        replace ra := ra.below b'
        replace rb := rb.below b'
        replace rc := rc.below b'
        replace rm := rm.below b'
        replace cA := cA.below b'
        replace xcA := cA.cell
        replace ycA := cA.lt
        replace cB := cB.below b'
        replace xcB := cB.cell
        replace ycB := cB.lt
        replace cC := cC.below b'
        replace xcC := cC.cell
        replace ycC := cC.lt
        replace cM := cM.below b'
        replace xcM := cM.cell
        replace ycM := cM.lt
        clear b22 b'
        go_wp2_with fail
        refine (atMost_is (cmpOf vm xc) true _ (TC.out HX.out HY.out)).mono ?_
        rintro e wz ⟨rfl, hw⟩
        subst wz
        go_wp2_with fail
        go_ret
        exact ⟨rfl, b23⟩

end Go.Proofs.Qxb6604248a
