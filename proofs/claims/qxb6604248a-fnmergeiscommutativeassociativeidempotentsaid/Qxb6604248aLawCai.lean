/-
  THE LAW FnMergeIsCommutativeAssociativeIdempotent (6), walked.
-/
import Derived.Test.Qxb6604248aLawLub
import Derived.Deep.RegionHeld3
import Derived.Deep.Cut
namespace Go.Proofs.Qxb6604248a
open Go.RowKit Plain

theorem zip_fst {hs : List ByteArray} {ns : List Int} (h : hs.length = ns.length) : (hs.zip ns).map (·.1) = hs := by
  rw [List.map_fst_zip (by omega)]
theorem zip_snd {hs : List ByteArray} {ns : List Int} (h : hs.length = ns.length) : (hs.zip ns).map (·.2) = ns := by
  rw [List.map_snd_zip (by omega)]

/-- Two slots hold the hosts and the counts of es. -/
def PartsAt (w0 : World) (es : List Ent) (s t : Value) (w : World) : Prop :=
  ∃ ao c bo d, s = .slice ao es.length c ∧ t = .slice bo es.length d ∧ RowV w ao (strs (es.map (·.1))) ∧ RowV w bo (u64s (es.map (·.2))) ∧ Below w0.heap.size w0 w

theorem len_le {X Y : List Ent} {k a b x y z : Nat} (h : (mg X Y).length = k) (hx : X.length = a) (hy : Y.length = b) (_ : x ≤ 65536) (_ : y ≤ 65536) (_ : z ≤ 65536) (hs : a + b ≤ 131072) : k ≤ 131072 := by
  have := mg_len X Y; omega
theorem len_le2 {X Y : List Ent} {k a b : Nat} (h : (mg X Y).length = k) (hx : X.length = a) (hy : Y.length = b) (hs : a + b ≤ 262144) : k ≤ 262144 := by
  have := mg_len X Y; omega
theorem len3 {X Y Z : List Ent} {a b c : Nat} (hx : X.length = a) (hy : Y.length = b) (hz : Z.length = c) (ha : a ≤ 65536) (hb : b ≤ 65536) (hc : c ≤ 65536) : (mg (mg X Y) Z).length ≤ 262144 := by
  have := mg_len X Y
  have := mg_len (mg X Y) Z
  omega

theorem sameParts_is (P Q : List Ent) (ah an bh bn : Option Addr) (ch cn dh dn : Nat) (w : World)
    (hh : RowV w ah (strs (P.map (·.1)))) (hn : RowV w an (u64s (P.map (·.2)))) (gh : RowV w bh (strs (P.map (·.1)))) (gn : RowV w bn (u64s (P.map (·.2)))) (e : Q = P) (b1 : P.length ≤ 2097152) :
    Calls Try.prog 24 #[.slice ah P.length ch, .slice an P.length cn, .slice bh Q.length dh, .slice bn Q.length dn] w fun e w' => e = .returned (.bool true) ∧ ∃ q, w' = w.drewN q := by
  subst e
  exact sameParts_any Q.length _ _ ah an bh bn ch cn dh dn w hh hn gh gn (by simp [Hid]) (by simp [Hid]) b1

set_option maxRecDepth 10000 in
set_option maxHeartbeats 4000000 in
theorem lawCai (ha : List ByteArray) (na : List Int) (pa qa : Option Addr) (la ma ca da : Nat) (hb : List ByteArray) (nb : List Int) (pb qb : Option Addr) (lb mb cb db : Nat) (hc : List ByteArray) (nc : List Int) (pc qc : Option Addr) (lc mc cc dc : Nat) (w : World) (A : InV w ha na pa qa la ma ca da) (B : InV w hb nb pb qb lb mb cb db) (C : InV w hc nc pc qc lc mc cc dc) :
    Calls Try.prog 6 #[.slice pa la ca, .slice qa ma da, .slice pb lb cb, .slice qb mb db, .slice pc lc cc, .slice qc mc dc] w fun e w' => LawOk w e w' := by
  go_enter Try.func6, Try.ntmps6
  go_wp2_with fail
  refine (zz23_any ha pa qa la ma ca da hb pb qb lb mb cb db hc pc qc lc mc cc dc _ A.vh A.eh A.bh A.bn A.sz B.vh B.eh B.bh B.bn B.sz C.vh C.eh C.bh C.bn C.sz).mono ?_
  rintro e w1 ⟨⟨z, rfl⟩, hw⟩
  subst w1
  cases z
  · go_wp2
    go_ret
    exact ⟨rfl, Below.refl _ _⟩
  go_wp2_with fail
  refine (vecSize_any ha pa qa la ma ca da _ A.vh A.eh A.bh A.bn A.sz).mono ?_
  rintro e w1 ⟨⟨ta, rfl, sa⟩, hw⟩
  subst w1
  have oa : 0 ≤ ta ∧ ta ≤ 1048577 := ⟨sa.1, sa.2.1⟩
  go_wp2_with fail
  refine (vecSize_any hb pb qb lb mb cb db _ B.vh B.eh B.bh B.bn B.sz).mono ?_
  rintro e w1 ⟨⟨tb, rfl, sb⟩, hw⟩
  subst w1
  have ob : 0 ≤ tb ∧ tb ≤ 1048577 := ⟨sb.1, sb.2.1⟩
  go_wp2_with fail
  refine (vecSize_any hc pc qc lc mc cc dc _ C.vh C.eh C.bh C.bn C.sz).mono ?_
  rintro e w1 ⟨⟨tc, rfl, sc⟩, hw⟩
  subst w1
  have oc : 0 ≤ tc ∧ tc ≤ 1048577 := ⟨sc.1, sc.2.1⟩
  by_cases hst : ta + tb + tc ≤ 1048576
  rotate_left
  · go_wp2_with fail
    go_ret
    exact ⟨rfl, Below.refl _ _⟩
  have ua : la ≤ 65536 ∧ ma ≤ 131072 := by have := sa.2.2 (by omega); omega
  have ub : lb ≤ 65536 ∧ mb ≤ 131072 := by have := sb.2.2 (by omega); omega
  have uc : lc ≤ 65536 ∧ mc ≤ 131072 := by have := sc.2.2 (by omega); omega
  clear sa sb sc
  go_wp2_with fail
  refine (validVec_any ha na pa qa la ma ca da _ A.vh A.vn A.eh A.en (by omega) (by omega)).mono ?_
  rintro e w1 ⟨⟨za, rfl, hza⟩, q1, hw⟩
  have b' : Below w.heap.size w w1 := by rw [hw]; exact below_drewN' _ _
  clear hw
  have b1 := b'
  cases za
  · go_wp2_with fail
    go_ret
    exact ⟨rfl, b1⟩
  obtain ⟨va, rfl⟩ := A.vec hza
  replace A := A.below b'
  replace B := B.below b'
  replace C := C.below b'
  clear hza b'
  go_wp2_with fail
  refine (validVec_any hb nb pb qb lb mb cb db _ B.vh B.vn B.eh B.en (by omega) (by omega)).mono ?_
  rintro e w2 ⟨⟨zb, rfl, hzb⟩, q1, hw⟩
  have b' : Below w1.heap.size w1 w2 := by rw [hw]; exact below_drewN' _ _
  clear hw
  have b2 := belStep b1 b'
  cases zb
  · go_wp2_with fail
    go_ret
    exact ⟨rfl, b2⟩
  obtain ⟨vb, rfl⟩ := B.vec hzb
  replace A := A.below b'
  replace B := B.below b'
  replace C := C.below b'
  clear hzb b' b1
  go_wp2_with fail
  refine (validVec_any hc nc pc qc lc mc cc dc _ C.vh C.vn C.eh C.en (by omega) (by omega)).mono ?_
  rintro e w3 ⟨⟨zc, rfl, hzc⟩, q1, hw⟩
  have b' : Below w2.heap.size w2 w3 := by rw [hw]; exact below_drewN' _ _
  clear hw
  have b3 := belStep b2 b'
  cases zc
  · go_wp2_with fail
    go_ret
    exact ⟨rfl, b3⟩
  obtain ⟨vc, rfl⟩ := C.vec hzc
  replace A := A.below b'
  replace B := B.below b'
  replace C := C.below b'
  clear hzc b' b2
  replace ua : la ≤ 65536 := ua.1
  replace ub : lb ≤ 65536 := ub.1
  replace uc : lc ≤ 65536 := uc.1
  clear hst oa ob oc
  go_wp2_with fail
  refine (cloneStrings_any la ha pa ca _ A.vh A.eh (by omega) A.zh).mono ?_
  rintro e w4 ⟨aha, cha, rfl, rha, b'⟩
  have b4 := belStep b3 b'
  replace A := A.below b'
  replace B := B.below b'
  replace C := C.below b'
  clear b3 b'
  go_wp2_with fail
  refine (cloneU64_any la na qa da _ A.vn A.en (by omega) A.zn).mono ?_
  rintro e w5 ⟨ana, cna, rfl, rna, b'⟩
  have b5 := belStep b4 b'
  replace A := A.below b'
  replace B := B.below b'
  replace C := C.below b'
  replace rha := rha.below b'
  clear b4 b'
  have Ea : Hid (ha.length = la) := A.eh
  have Fa : Hid (na.length = la) := A.en
  clear A
  go_wp2_with fail
  refine (cloneStrings_any lb hb pb cb _ B.vh B.eh (by omega) B.zh).mono ?_
  rintro e w6 ⟨ahb, chb, rfl, rhb, b'⟩
  have b6 := belStep b5 b'
  replace B := B.below b'
  replace C := C.below b'
  replace rha := rha.below b'
  replace rna := rna.below b'
  clear b5 b'
  go_wp2_with fail
  refine (cloneU64_any lb nb qb db _ B.vn B.en (by omega) B.zn).mono ?_
  rintro e w7 ⟨anb, cnb, rfl, rnb, b'⟩
  have b7 := belStep b6 b'
  replace B := B.below b'
  replace C := C.below b'
  replace rha := rha.below b'
  replace rna := rna.below b'
  replace rhb := rhb.below b'
  clear b6 b'
  have Eb : Hid (hb.length = lb) := B.eh
  have Fb : Hid (nb.length = lb) := B.en
  clear B
  go_wp2_with fail
  refine (cloneStrings_any lc hc pc cc _ C.vh C.eh (by omega) C.zh).mono ?_
  rintro e w8 ⟨ahc, chc, rfl, rhc, b'⟩
  have b8 := belStep b7 b'
  replace C := C.below b'
  replace rha := rha.below b'
  replace rna := rna.below b'
  replace rhb := rhb.below b'
  replace rnb := rnb.below b'
  clear b7 b'
  go_wp2_with fail
  refine (cloneU64_any lc nc qc dc _ C.vn C.en (by omega) C.zn).mono ?_
  rintro e w9 ⟨anc, cnc, rfl, rnc, b'⟩
  have b9 := belStep b8 b'
  replace C := C.below b'
  replace rha := rha.below b'
  replace rna := rna.below b'
  replace rhb := rhb.below b'
  replace rnb := rnb.below b'
  replace rhc := rhc.below b'
  clear b8 b'
  have Ec : Hid (hc.length = lc) := C.eh
  have Fc : Hid (nc.length = lc) := C.en
  clear C
  go_wp2_with fail
  refine (zzVector_any la ha na aha ana cha cna _ rha rna Ea Fa (by omega)).mono ?_
  rintro e w10 ⟨aa, ka, ga, rfl, ea, kga, ra, b', _⟩
  have b10 := belStep b9 b'
  replace rha := rha.below b'
  replace rna := rna.below b'
  replace rhb := rhb.below b'
  replace rnb := rnb.below b'
  replace rhc := rhc.below b'
  replace rnc := rnc.below b'
  clear b9 b'
  have eab : ka ≤ 65536 := by rw [← ea]; simp [Ea.out, Fa.out]; omega
  have Xa : Hid ((ha.zip na).length = ka) := ea
  clear ea
  go_wp2_with fail
  have b' : Below w10.heap.size w10 (w10.alloc (.cells #[.slice aa ka ga] 33)) := (Below.refl _ _).alloc (Nat.le_refl _) _
  have cA : CellV (w10.alloc (.cells #[.slice aa ka ga] 33)) w10.heap.size (.slice aa ka ga) := ⟨by simp, by simp⟩
  generalize w10.alloc (.cells #[.slice aa ka ga] 33) = w11 at b' cA ⊢
  have b11 := belStep b10 b'
  replace rha := rha.below b'
  replace rna := rna.below b'
  replace rhb := rhb.below b'
  replace rnb := rnb.below b'
  replace rhc := rhc.below b'
  replace rnc := rnc.below b'
  replace ra := ra.below b'
  clear b10 b'
  have xcA := cA.cell
  have ycA := cA.lt
  go_wp2_with fail
  refine (zzVector_any lb hb nb ahb anb chb cnb _ rhb rnb Eb Fb (by omega)).mono ?_
  rintro e w12 ⟨ab, kb, gb, rfl, eb, kgb, rb, b', _⟩
  have b12 := belStep b11 b'
  replace rha := rha.below b'
  replace rna := rna.below b'
  replace rhb := rhb.below b'
  replace rnb := rnb.below b'
  replace rhc := rhc.below b'
  replace rnc := rnc.below b'
  replace ra := ra.below b'
  replace cA := cA.below b'
  replace xcA := cA.cell
  replace ycA := cA.lt
  clear b11 b'
  have ebb : kb ≤ 65536 := by rw [← eb]; simp [Eb.out, Fb.out]; omega
  have Xb : Hid ((hb.zip nb).length = kb) := eb
  clear eb
  go_wp2_with fail
  have b' : Below w12.heap.size w12 (w12.alloc (.cells #[.slice ab kb gb] 33)) := (Below.refl _ _).alloc (Nat.le_refl _) _
  have cB : CellV (w12.alloc (.cells #[.slice ab kb gb] 33)) w12.heap.size (.slice ab kb gb) := ⟨by simp, by simp⟩
  generalize w12.alloc (.cells #[.slice ab kb gb] 33) = w13 at b' cB ⊢
  have b13 := belStep b12 b'
  replace rha := rha.below b'
  replace rna := rna.below b'
  replace rhb := rhb.below b'
  replace rnb := rnb.below b'
  replace rhc := rhc.below b'
  replace rnc := rnc.below b'
  replace ra := ra.below b'
  replace rb := rb.below b'
  replace cA := cA.below b'
  replace xcA := cA.cell
  replace ycA := cA.lt
  clear b12 b'
  have xcB := cB.cell
  have ycB := cB.lt
  go_wp2_with fail
  refine (zzVector_any lc hc nc ahc anc chc cnc _ rhc rnc Ec Fc (by omega)).mono ?_
  rintro e w14 ⟨ac, kc, gc, rfl, ec, kgc, rc, b', _⟩
  have b14 := belStep b13 b'
  replace rha := rha.below b'
  replace rna := rna.below b'
  replace rhb := rhb.below b'
  replace rnb := rnb.below b'
  replace rhc := rhc.below b'
  replace rnc := rnc.below b'
  replace ra := ra.below b'
  replace rb := rb.below b'
  replace cA := cA.below b'
  replace xcA := cA.cell
  replace ycA := cA.lt
  replace cB := cB.below b'
  replace xcB := cB.cell
  replace ycB := cB.lt
  clear b13 b'
  have ecb : kc ≤ 65536 := by rw [← ec]; simp [Ec.out, Fc.out]; omega
  have Xc : Hid ((hc.zip nc).length = kc) := ec
  clear ec
  go_wp2_with fail
  have b' : Below w14.heap.size w14 (w14.alloc (.cells #[.slice ac kc gc] 33)) := (Below.refl _ _).alloc (Nat.le_refl _) _
  have cC : CellV (w14.alloc (.cells #[.slice ac kc gc] 33)) w14.heap.size (.slice ac kc gc) := ⟨by simp, by simp⟩
  generalize w14.alloc (.cells #[.slice ac kc gc] 33) = w15 at b' cC ⊢
  have b15 := belStep b14 b'
  replace rha := rha.below b'
  replace rna := rna.below b'
  replace rhb := rhb.below b'
  replace rnb := rnb.below b'
  replace rhc := rhc.below b'
  replace rnc := rnc.below b'
  replace ra := ra.below b'
  replace rb := rb.below b'
  replace rc := rc.below b'
  replace cA := cA.below b'
  replace xcA := cA.cell
  replace ycA := cA.lt
  replace cB := cB.below b'
  replace xcB := cB.cell
  replace ycB := cB.lt
  clear b14 b'
  have xcC := cC.cell
  have ycC := cC.lt
  clear rhb rnb
  clear rhc rnc
  have CM : Hid (mg (hb.zip nb) (ha.zip na) = mg (ha.zip na) (hb.zip nb)) := mg_comm vb.good va.good
  have AS : Hid (mg (ha.zip na) (mg (hb.zip nb) (hc.zip nc)) = mg (mg (ha.zip na) (hb.zip nb)) (hc.zip nc)) := (mg_assoc va.good vb.good vc.good).symm
  have ID : Hid (mg (ha.zip na) (ha.zip na) = (ha.zip na)) := mg_idem va.good
  have PF : Hid (((ha.zip na)).map (·.1) = ha) := zip_fst va.len
  have PS : Hid (((ha.zip na)).map (·.2) = na) := zip_snd va.len
  go_wp2_with fail
  refine (zzMerge_any (ha.zip na) (hb.zip nb) ka kb aa ab ga gb _ ra rb Xa Xb (by omega) (by omega) kga kgb).mono ?_
  rintro e w16 ⟨am, km, gm, rfl, em, kgm, rm, b', _⟩
  have b16 := belStep b15 b'
  replace rha := rha.below b'
  replace rna := rna.below b'
  replace ra := ra.below b'
  replace rb := rb.below b'
  replace rc := rc.below b'
  replace cA := cA.below b'
  replace xcA := cA.cell
  replace ycA := cA.lt
  replace cB := cB.below b'
  replace xcB := cB.cell
  replace ycB := cB.lt
  replace cC := cC.below b'
  replace xcC := cC.cell
  replace ycC := cC.lt
  clear b15 b'
  have emb : km ≤ 131072 := by have := mg_len ((ha.zip na)) ((hb.zip nb)); have h1 := Xa.out; have h2 := Xb.out; omega
  have Xm : Hid ((mg (ha.zip na) (hb.zip nb)).length = km) := em
  clear em
  go_wp2_with fail
  refine (zzParts_any (mg (ha.zip na) (hb.zip nb)) km am gm _ rm Xm (by omega)).mono ?_
  rintro e w17 ⟨ahM, chM, anM, cnM, rfl, rhM, rnM, b'⟩
  have b17 := belStep b16 b'
  replace rha := rha.below b'
  replace rna := rna.below b'
  replace ra := ra.below b'
  replace rb := rb.below b'
  replace rc := rc.below b'
  replace rm := rm.below b'
  replace cA := cA.below b'
  replace xcA := cA.cell
  replace ycA := cA.lt
  replace cB := cB.below b'
  replace xcB := cB.cell
  replace ycB := cB.lt
  replace cC := cC.below b'
  replace xcC := cC.cell
  replace ycC := cC.lt
  clear b16 b'
  clear rm kgm
  go_wp2_with fail
  refine (zzMerge_any (hb.zip nb) (ha.zip na) kb ka ab aa gb ga _ rb ra Xb Xa (by omega) (by omega) kgb kga).mono ?_
  rintro e w18 ⟨an, kn, gn, rfl, en, kgn, rn, b', _⟩
  have b18 := belStep b17 b'
  replace rha := rha.below b'
  replace rna := rna.below b'
  replace ra := ra.below b'
  replace rb := rb.below b'
  replace rc := rc.below b'
  replace rhM := rhM.below b'
  replace rnM := rnM.below b'
  replace cA := cA.below b'
  replace xcA := cA.cell
  replace ycA := cA.lt
  replace cB := cB.below b'
  replace xcB := cB.cell
  replace ycB := cB.lt
  replace cC := cC.below b'
  replace xcC := cC.cell
  replace ycC := cC.lt
  clear b17 b'
  have enb : kn ≤ 131072 := by have := mg_len ((hb.zip nb)) ((ha.zip na)); have h1 := Xb.out; have h2 := Xa.out; omega
  have Xn : Hid ((mg (hb.zip nb) (ha.zip na)).length = kn) := en
  clear en
  go_wp2_with fail
  refine (zzParts_any (mg (hb.zip nb) (ha.zip na)) kn an gn _ rn Xn (by omega)).mono ?_
  rintro e w19 ⟨ahN, chN, anN, cnN, rfl, rhN, rnN, b'⟩
  have b19 := belStep b18 b'
  replace rha := rha.below b'
  replace rna := rna.below b'
  replace ra := ra.below b'
  replace rb := rb.below b'
  replace rc := rc.below b'
  replace rhM := rhM.below b'
  replace rnM := rnM.below b'
  replace rn := rn.below b'
  replace cA := cA.below b'
  replace xcA := cA.cell
  replace ycA := cA.lt
  replace cB := cB.below b'
  replace xcB := cB.cell
  replace ycB := cB.lt
  replace cC := cC.below b'
  replace xcC := cC.cell
  replace ycC := cC.lt
  clear b18 b'
  clear rn kgn
  rw [CM.out] at rhN rnN
  replace Xn := Xn.out
  rw [CM.out, Xm.out] at Xn
  subst kn
  have HM : Hid (((mg (ha.zip na) (hb.zip nb)).map (·.1)).length = km) := by rw [List.length_map]; exact Xm.out
  have NM : Hid (((mg (ha.zip na) (hb.zip nb)).map (·.2)).length = km) := by rw [List.length_map]; exact Xm.out
  go_wp2_with fail
  refine (sameParts_any km ((mg (ha.zip na) (hb.zip nb)).map (·.1)) ((mg (ha.zip na) (hb.zip nb)).map (·.2)) ahM anM ahN anN chM cnM chN cnN _ rhM rnM rhN rnN HM NM (by omega)).mono ?_
  rintro e w20 ⟨rfl, q1, hw⟩
  have b' : Below w19.heap.size w19 w20 := by rw [hw]; exact below_drewN' _ _
  clear hw
  have b20 := belStep b19 b'
  replace rha := rha.below b'
  replace rna := rna.below b'
  replace ra := ra.below b'
  replace rb := rb.below b'
  replace rc := rc.below b'
  replace rhM := rhM.below b'
  replace rnM := rnM.below b'
  replace rhN := rhN.below b'
  replace rnN := rnN.below b'
  replace cA := cA.below b'
  replace xcA := cA.cell
  replace ycA := cA.lt
  replace cB := cB.below b'
  replace xcB := cB.cell
  replace ycB := cB.lt
  replace cC := cC.below b'
  replace xcC := cC.cell
  replace ycC := cC.lt
  clear b19 b'
  clear rhM rnM rhN rnN HM NM Xm
  go_upto_region 20 with fail
  go_cut [20, 21] from 26 (fun s t wx => PartsAt w20 (mg (mg (ha.zip na) (hb.zip nb)) (hc.zip nc)) s t wx)
  case first =>
    have fa : RowV w20.drew aa (ents (ha.zip na)) := ra.drewN 1
    have fb : RowV w20.drew ab (ents (hb.zip nb)) := rb.drewN 1
    have fc : RowV w20.drew ac (ents (hc.zip nc)) := rc.drewN 1
    have eA := cA.below (below_drewN' w20 1)
    have eB := cB.below (below_drewN' w20 1)
    have eC := cC.below (below_drewN' w20 1)
    go_region_held3 (fun w' => w'.cell? ⟨w10.heap.size, 0, none⟩ = some (.slice aa ka ga) ∧ w'.cell? ⟨w12.heap.size, 0, none⟩ = some (.slice ab kb gb) ∧ w'.cell? ⟨w14.heap.size, 0, none⟩ = some (.slice ac kc gc)) (first | exact ⟨eA.cell, eB.cell, eC.cell⟩ | exact ⟨xAy, xBy, xCy⟩ | exact ⟨xAv, xBv, xCv⟩ | exact ⟨xAp, xBp, xCp⟩) (first
      | (go_at_call_of 18 (Value.agg #[Value.slice aa ka ga]); refine (zzMerge_any (ha.zip na) (hb.zip nb) ka kb aa ab ga gb _ (by exact fa) (by exact fb) Xa Xb (by omega) (by omega) kga kgb).mono ?_; rintro e wy ⟨ay, ky, gy, rfl, ey, kgy, ry, by1, _⟩; have xAy := (eA.below by1).cell; have xBy := (eB.below by1).cell; have xCy := (eC.below by1).cell; have Xy : Hid ((mg (ha.zip na) (hb.zip nb)).length = ky) := ey; have eyb : ky ≤ 131072 := len_le ey Xa.out Xb.out eab ebb ecb (by omega); clear ey)
      | (go_at_call_of 18 (Value.agg #[Value.slice ac kc gc]); refine (zzMerge_any (mg (ha.zip na) (hb.zip nb)) (hc.zip nc) ky kc ay ac gy gc _ ry (by exact fc.below by1) Xy Xc (by omega) (by omega) kgy kgc).mono ?_; rintro e wv ⟨av, kv, gv, rfl, ev, kgv, rv, bv1, _⟩; have xAv := ((eA.below by1).below bv1).cell; have xBv := ((eB.below by1).below bv1).cell; have xCv := ((eC.below by1).below bv1).cell; have Xv : Hid ((mg (mg (ha.zip na) (hb.zip nb)) (hc.zip nc)).length = kv) := ev; have evb : kv ≤ 262144 := len_le2 ev Xy.out Xc.out (by omega); clear ev)
      | (go_at_call 19; refine (zzParts_any (mg (mg (ha.zip na) (hb.zip nb)) (hc.zip nc)) kv av gv _ rv Xv (by omega)).mono ?_; rintro e wp ⟨ahv, chv, anv, cnv, rfl, rhv, rnv, bp1⟩; have xAp := (((eA.below by1).below bv1).below bp1).cell; have xBp := (((eB.below by1).below bv1).below bp1).cell; have xCp := (((eC.below by1).below bv1).below bp1).cell))
    all_goals go_wp2_with fail
    all_goals go_meet
    all_goals
      exact ⟨ahv, chv, anv, cnv, by rw [Xv.out], by rw [Xv.out], rhv, rnv, belStep (belStep (belStep (below_drewN' w20 1) by1) bv1) bp1⟩
  case rest =>
    obtain ⟨ahL, chL, anL, cnL, rfl, rfl, rhL, rnL, b'⟩ := hcut
    obtain ⟨w21, hwc⟩ : ∃ W, W = wc := ⟨_, rfl⟩
    subst wc
    have b21 := belStep b20 b'
    replace rha := rha.below b'
    replace rna := rna.below b'
    replace ra := ra.below b'
    replace rb := rb.below b'
    replace rc := rc.below b'
    replace cA := cA.below b'
    replace xcA := cA.cell
    replace ycA := cA.lt
    replace cB := cB.below b'
    replace xcB := cB.cell
    replace ycB := cB.lt
    replace cC := cC.below b'
    replace xcC := cC.cell
    replace ycC := cC.lt
    clear b20 b'
    go_upto_region 21 with fail
    go_cut [22, 23] from 26 (fun s t wx => PartsAt w21 (mg (ha.zip na) (mg (hb.zip nb) (hc.zip nc))) s t wx)
    case first =>
      have fa : RowV w21.drew aa (ents (ha.zip na)) := ra.drewN 1
      have fb : RowV w21.drew ab (ents (hb.zip nb)) := rb.drewN 1
      have fc : RowV w21.drew ac (ents (hc.zip nc)) := rc.drewN 1
      have eA := cA.below (below_drewN' w21 1)
      have eB := cB.below (below_drewN' w21 1)
      have eC := cC.below (below_drewN' w21 1)
      go_region_held3 (fun w' => w'.cell? ⟨w10.heap.size, 0, none⟩ = some (.slice aa ka ga) ∧ w'.cell? ⟨w12.heap.size, 0, none⟩ = some (.slice ab kb gb) ∧ w'.cell? ⟨w14.heap.size, 0, none⟩ = some (.slice ac kc gc)) (first | exact ⟨eA.cell, eB.cell, eC.cell⟩ | exact ⟨xAy, xBy, xCy⟩ | exact ⟨xAv, xBv, xCv⟩ | exact ⟨xAp, xBp, xCp⟩) (first
        | (go_at_call_of 18 (Value.agg #[Value.slice ab kb gb]); refine (zzMerge_any (hb.zip nb) (hc.zip nc) kb kc ab ac gb gc _ (by exact fb) (by exact fc) Xb Xc (by omega) (by omega) kgb kgc).mono ?_; rintro e wy ⟨ay, ky, gy, rfl, ey, kgy, ry, by1, _⟩; have xAy := (eA.below by1).cell; have xBy := (eB.below by1).cell; have xCy := (eC.below by1).cell; have Xy : Hid ((mg (hb.zip nb) (hc.zip nc)).length = ky) := ey; have eyb : ky ≤ 131072 := len_le ey Xb.out Xc.out eab ebb ecb (by omega); clear ey)
        | (go_at_call_of 18 (Value.agg #[Value.slice aa ka ga]); refine (zzMerge_any (ha.zip na) (mg (hb.zip nb) (hc.zip nc)) ka ky aa ay ga gy _ (by exact fa.below by1) ry Xa Xy (by omega) (by omega) kga kgy).mono ?_; rintro e wv ⟨av, kv, gv, rfl, ev, kgv, rv, bv1, _⟩; have xAv := ((eA.below by1).below bv1).cell; have xBv := ((eB.below by1).below bv1).cell; have xCv := ((eC.below by1).below bv1).cell; have Xv : Hid ((mg (ha.zip na) (mg (hb.zip nb) (hc.zip nc))).length = kv) := ev; have evb : kv ≤ 262144 := len_le2 ev Xa.out Xy.out (by omega); clear ev)
        | (go_at_call 19; refine (zzParts_any (mg (ha.zip na) (mg (hb.zip nb) (hc.zip nc))) kv av gv _ rv Xv (by omega)).mono ?_; rintro e wp ⟨ahv, chv, anv, cnv, rfl, rhv, rnv, bp1⟩; have xAp := (((eA.below by1).below bv1).below bp1).cell; have xBp := (((eB.below by1).below bv1).below bp1).cell; have xCp := (((eC.below by1).below bv1).below bp1).cell))
      all_goals go_wp2_with fail
      all_goals go_meet
      all_goals
        exact ⟨ahv, chv, anv, cnv, by rw [Xv.out], by rw [Xv.out], rhv, rnv, belStep (belStep (belStep (below_drewN' w21 1) by1) bv1) bp1⟩
    case rest =>
      obtain ⟨ahR, chR, anR, cnR, rfl, rfl, rhR, rnR, b'⟩ := hcut
      obtain ⟨w22, hwc⟩ : ∃ W, W = wc := ⟨_, rfl⟩
      subst wc
      have b22 := belStep b21 b'
      replace rha := rha.below b'
      replace rna := rna.below b'
      replace ra := ra.below b'
      replace rb := rb.below b'
      replace rc := rc.below b'
      replace rhL := rhL.below b'
      replace rnL := rnL.below b'
      replace cA := cA.below b'
      replace xcA := cA.cell
      replace ycA := cA.lt
      replace cB := cB.below b'
      replace xcB := cB.cell
      replace ycB := cB.lt
      replace cC := cC.below b'
      replace xcC := cC.cell
      replace ycC := cC.lt
      clear b21 b'
      rw [AS.out] at rhR rnR
      have LB : (mg (mg (ha.zip na) (hb.zip nb)) (hc.zip nc)).length ≤ 262144 := len3 Xa.out Xb.out Xc.out eab ebb ecb
      go_wp2_with fail
      refine (sameParts_is (mg (mg (ha.zip na) (hb.zip nb)) (hc.zip nc)) (mg (ha.zip na) (mg (hb.zip nb) (hc.zip nc))) ahL anL ahR anR chL cnL chR cnR _ rhL rnL rhR rnR AS.out (by omega)).mono ?_
      rintro e w23 ⟨rfl, q1, hw⟩
      have b' : Below w22.heap.size w22 w23 := by rw [hw]; exact below_drewN' _ _
      clear hw
      have b23 := belStep b22 b'
      replace rha := rha.below b'
      replace rna := rna.below b'
      replace ra := ra.below b'
      replace rb := rb.below b'
      replace rc := rc.below b'
      replace rhL := rhL.below b'
      replace rnL := rnL.below b'
      replace rhR := rhR.below b'
      replace rnR := rnR.below b'
      replace cA := cA.below b'
      replace xcA := cA.cell
      replace ycA := cA.lt
      replace cB := cB.below b'
      replace xcB := cB.cell
      replace ycB := cB.lt
      replace cC := cC.below b'
      replace xcC := cC.cell
      replace ycC := cC.lt
      clear b22 b'
      clear rhL rnL rhR rnR LB
      go_wp2_with fail
      refine (zzMerge_any (ha.zip na) (ha.zip na) ka ka aa aa ga ga _ ra ra Xa Xa (by omega) (by omega) kga kga).mono ?_
      rintro e w24 ⟨az, kz, gz, rfl, ez, kgz, rz, b', _⟩
      have b24 := belStep b23 b'
      replace rha := rha.below b'
      replace rna := rna.below b'
      replace ra := ra.below b'
      replace rb := rb.below b'
      replace rc := rc.below b'
      replace cA := cA.below b'
      replace xcA := cA.cell
      replace ycA := cA.lt
      replace cB := cB.below b'
      replace xcB := cB.cell
      replace ycB := cB.lt
      replace cC := cC.below b'
      replace xcC := cC.cell
      replace ycC := cC.lt
      clear b23 b'
      have ezb : kz ≤ 131072 := by have := mg_len ((ha.zip na)) ((ha.zip na)); have h1 := Xa.out; have h2 := Xa.out; omega
      have Xz : Hid ((mg (ha.zip na) (ha.zip na)).length = kz) := ez
      clear ez
      go_wp2_with fail
      refine (zzParts_any (mg (ha.zip na) (ha.zip na)) kz az gz _ rz Xz (by omega)).mono ?_
      rintro e w25 ⟨ahZ, chZ, anZ, cnZ, rfl, rhZ, rnZ, b'⟩
      have b25 := belStep b24 b'
      replace rha := rha.below b'
      replace rna := rna.below b'
      replace ra := ra.below b'
      replace rb := rb.below b'
      replace rc := rc.below b'
      replace rz := rz.below b'
      replace cA := cA.below b'
      replace xcA := cA.cell
      replace ycA := cA.lt
      replace cB := cB.below b'
      replace xcB := cB.cell
      replace ycB := cB.lt
      replace cC := cC.below b'
      replace xcC := cC.cell
      replace ycC := cC.lt
      clear b24 b'
      clear rz kgz
      rw [ID.out] at rhZ rnZ
      rw [PF.out] at rhZ
      rw [PS.out] at rnZ
      replace Xz := Xz.out
      rw [ID.out, Xa.out] at Xz
      have ka' : ka = la := by rw [← Xa.out]; simp [Ea.out, Fa.out]
      subst kz
      subst ka
      go_wp2_with fail
      refine (sameParts_any la ha na ahZ anZ aha ana chZ cnZ cha cna _ rhZ rnZ rha rna Ea Fa (by omega)).mono ?_
      rintro e w26 ⟨rfl, q1, hw⟩
      have b' : Below w25.heap.size w25 w26 := by rw [hw]; exact below_drewN' _ _
      clear hw
      have b26 := belStep b25 b'
      replace rha := rha.below b'
      replace rna := rna.below b'
      replace ra := ra.below b'
      replace rb := rb.below b'
      replace rc := rc.below b'
      replace rhZ := rhZ.below b'
      replace rnZ := rnZ.below b'
      replace cA := cA.below b'
      replace xcA := cA.cell
      replace ycA := cA.lt
      replace cB := cB.below b'
      replace xcB := cB.cell
      replace ycB := cB.lt
      replace cC := cC.below b'
      replace xcC := cC.cell
      replace ycC := cC.lt
      clear b25 b'
      go_wp2_with fail
      go_ret
      exact ⟨rfl, b26⟩

end Go.Proofs.Qxb6604248a
