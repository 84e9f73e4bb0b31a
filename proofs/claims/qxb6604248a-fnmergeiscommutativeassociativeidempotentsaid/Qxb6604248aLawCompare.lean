/-
  THE LAW FnCompareMatchesPointwiseOrder (3), walked.
-/
import Derived.Test.Qxb6604248aReads
import Derived.Test.Qxb6604248aClones
import Derived.Test.Qxb6604248aZz4
import Derived.Test.Qxb6604248aCompare
import Derived.Test.Qxb6604248aVector
namespace Go.Proofs.Qxb6604248a
open Go.RowKit Plain

/-- What is known of a vector's two slices as they come in. -/
structure InV (w : World) (hs : List ByteArray) (ns : List Int) (ph pn : Option Addr) (lh ln ch cn : Nat) : Prop where
  vh : RowV w ph (strs hs)
  vn : RowV w pn (u64s ns)
  eh : hs.length = lh
  en : ns.length = ln
  bh : lh ≤ maxLen
  bn : ln ≤ maxLen
  sz : ∀ s ∈ hs, s.size ≤ maxLen
  nn : ∀ n ∈ ns, 0 ≤ n
  zh : ph = none → lh = 0 ∧ ch = 0
  zn : pn = none → ln = 0 ∧ cn = 0

theorem InV.below {w w' : World} {hs : List ByteArray} {ns : List Int} {ph pn : Option Addr} {lh ln ch cn : Nat} (h : InV w hs ns ph pn lh ln ch cn) (hb : Below w.heap.size w w') : InV w' hs ns ph pn lh ln ch cn :=
  ⟨h.vh.below hb, h.vn.below hb, h.eh, h.en, h.bh, h.bn, h.sz, h.nn, h.zh, h.zn⟩

/-- The law's end. -/
def LawOk (w : World) (e : Ending) (w' : World) : Prop := e = .returned (.bool true) ∧ Below w.heap.size w w'

theorem InV.vec {w : World} {hs : List ByteArray} {ns : List Int} {ph pn : Option Addr} {lh ln ch cn : Nat} (h : InV w hs ns ph pn lh ln ch cn) (hv : vld hs ns lh ln true) : Vec hs ns ∧ lh = ln := by
  obtain ⟨e, hv⟩ := hv.1 rfl
  refine ⟨vec_of (by rw [h.eh, h.en, e]) h.nn (fun i hi => (hv i (by rw [← h.en]; exact hi)).1) (fun i h0 hi => (hv i (by rw [← h.en]; exact hi)).2 h0), e⟩

theorem belStep {w w1 w2 : World} (h : Below w.heap.size w w1) (k : Below w1.heap.size w1 w2) : Below w.heap.size w w2 := h.trans (k.mono h.size)

theorem vsz_le {a b c d : Nat} {s t : Int} (h1 : vsz a b s) (h2 : vsz c d t) (h : s + t ≤ 1048576) : a ≤ 1048576 ∧ b ≤ 1048576 ∧ c ≤ 1048576 ∧ d ≤ 1048576 := by
  obtain ⟨x1, x2, x3⟩ := h1
  obtain ⟨y1, y2, y3⟩ := h2
  have := x3 (by omega)
  have := y3 (by omega)
  omega

set_option maxRecDepth 10000 in
set_option maxHeartbeats 2000000 in
theorem lawCompare (ha : List ByteArray) (na : List Int) (pa qa : Option Addr) (la ma ca da : Nat) (hb : List ByteArray) (nb : List Int) (pb qb : Option Addr) (lb mb cb db : Nat) (w : World)
    (A : InV w ha na pa qa la ma ca da) (B : InV w hb nb pb qb lb mb cb db) :
    Calls Try.prog 3 #[.slice pa la ca, .slice qa ma da, .slice pb lb cb, .slice qb mb db] w fun e w' => LawOk w e w' := by
  go_enter Try.func3, Try.ntmps3
  go_wp2_with fail
  refine (zz9_any ha pa qa la ma ca da hb pb qb lb mb cb db _ A.vh A.eh A.bh A.bn A.sz B.vh B.eh B.bh B.bn B.sz).mono ?_
  rintro e w1 ⟨⟨z, rfl⟩, hw⟩
  subst w1
  cases z
  · go_wp2
    go_ret
    exact ⟨rfl, Below.refl _ _⟩
  go_wp2_with fail
  refine (vecSize_any ha pa qa la ma ca da _ A.vh A.eh A.bh A.bn A.sz).mono ?_
  rintro e w1 ⟨⟨s, rfl, hs⟩, hw⟩
  subst w1
  go_wp2_with fail
  refine (vecSize_any hb pb qb lb mb cb db _ B.vh B.eh B.bh B.bn B.sz).mono ?_
  rintro e w1 ⟨⟨t, rfl, ht⟩, hw⟩
  subst w1
  have hs0 : 0 ≤ s ∧ s ≤ 1048577 := ⟨hs.1, hs.2.1⟩
  have ht0 : 0 ≤ t ∧ t ≤ 1048577 := ⟨ht.1, ht.2.1⟩
  by_cases hst : s + t ≤ 1048576
  rotate_left
  · go_wp2_with fail
    go_ret
    exact ⟨rfl, Below.refl _ _⟩
  obtain ⟨u1, u2, u3, u4⟩ := vsz_le hs ht hst
  clear hs ht
  go_wp2_with fail
  refine (validVec_any ha na pa qa la ma ca da _ A.vh A.vn A.eh A.en u1 u2).mono ?_
  rintro e w1 ⟨⟨z1, rfl, hz1⟩, q1, hw⟩
  have b1 : Below w.heap.size w w1 := by rw [hw]; exact below_drewN' _ _
  clear hw
  cases z1
  · go_wp2_with fail
    go_ret
    exact ⟨rfl, b1⟩
  obtain ⟨vA, rfl⟩ := A.vec hz1
  have A1 := A.below b1
  have B1 := B.below b1
  clear A B hz1
  go_wp2_with fail
  refine (validVec_any hb nb pb qb lb mb cb db _ B1.vh B1.vn B1.eh B1.en u3 u4).mono ?_
  rintro e w2 ⟨⟨z2, rfl, hz2⟩, q2, hw⟩
  have b2' : Below w1.heap.size w1 w2 := by rw [hw]; exact below_drewN' _ _
  clear hw
  have b2 := belStep b1 b2'
  cases z2
  · go_wp2_with fail
    go_ret
    exact ⟨rfl, b2⟩
  obtain ⟨vB, rfl⟩ := B1.vec hz2
  have A2 := A1.below b2'
  have B2 := B1.below b2'
  clear A1 B1 hz2 b1 b2' u2 u4 hs0 ht0 hst
  go_wp2_with fail
  refine (cloneStrings_any la ha pa ca _ A2.vh A2.eh u1 A2.zh).mono ?_
  rintro e w3 ⟨a1, c1, rfl, r1, b3'⟩
  have b3 := belStep b2 b3'
  replace A2 := A2.below b3'
  replace B2 := B2.below b3'
  clear b2 b3'
  go_wp2_with fail
  refine (cloneU64_any la na qa da _ A2.vn A2.en u1 A2.zn).mono ?_
  rintro e w4 ⟨a2, c2, rfl, r2, b4'⟩
  have b4 := belStep b3 b4'
  replace r1 := r1.below b4'
  replace B2 := B2.below b4'
  have eA := A2.eh
  have eN := A2.en
  clear b3 b4' A2
  go_wp2_with fail
  refine (cloneStrings_any lb hb pb cb _ B2.vh B2.eh u3 B2.zh).mono ?_
  rintro e w5 ⟨a3, c3, rfl, r3, b5'⟩
  have b5 := belStep b4 b5'
  replace r1 := r1.below b5'
  replace r2 := r2.below b5'
  replace B2 := B2.below b5'
  clear b4 b5'
  go_wp2_with fail
  refine (cloneU64_any lb nb qb db _ B2.vn B2.en u3 B2.zn).mono ?_
  rintro e w6 ⟨a4, c4, rfl, r4, b6'⟩
  have b6 := belStep b5 b6'
  replace r1 := r1.below b6'
  replace r2 := r2.below b6'
  replace r3 := r3.below b6'
  have fB := B2.eh
  have fN := B2.en
  clear b5 b6' B2
  have EA : Hid (ha.length = la) := eA
  have EN : Hid (na.length = la) := eN
  have FB : Hid (hb.length = lb) := fB
  have FN : Hid (nb.length = lb) := fN
  clear eA eN fB fN
  go_wp2_with fail
  refine (zzVector_any la ha na a1 a2 c1 c2 _ r1 r2 EA EN u1).mono ?_
  rintro e w7 ⟨a5, m5, c5, rfl, e5, k5, r5, b7', _⟩
  have b7 := belStep b6 b7'
  replace r1 := r1.below b7'
  replace r2 := r2.below b7'
  replace r3 := r3.below b7'
  replace r4 := r4.below b7'
  have E5 : Hid ((ha.zip na).length = m5) := e5
  have m5b : m5 ≤ 2097152 := by rw [← e5]; simp [EA.out, EN.out]; omega
  clear b6 b7' e5
  go_wp2_with fail
  refine (zzVector_any lb hb nb a3 a4 c3 c4 _ r3 r4 FB FN u3).mono ?_
  rintro e w8 ⟨a6, m6, c6, rfl, e6, k6, r6, b8', _⟩
  have b8 := belStep b7 b8'
  replace r1 := r1.below b8'
  replace r2 := r2.below b8'
  replace r3 := r3.below b8'
  replace r4 := r4.below b8'
  replace r5 := r5.below b8'
  have E6 : Hid ((hb.zip nb).length = m6) := e6
  have m6b : m6 ≤ 2097152 := by rw [← e6]; simp [FB.out, FN.out]; omega
  clear b7 b8' e6
  go_wp2_with fail
  refine (compare_any (ha.zip na) (hb.zip nb) m5 m6 a5 a6 c5 c6 _ r5 r6 E5 E6 m5b m6b k5 k6).mono ?_
  rintro e w9 ⟨rfl, b9'⟩
  have b9 := belStep b8 b9'
  replace r1 := r1.below b9'
  replace r2 := r2.below b9'
  replace r3 := r3.below b9'
  replace r4 := r4.below b9'
  clear b8 b9' r5 r6 E5 E6 m5b m6b k5 k6
  have HC : Hid (cmpOf (ha.zip na) (hb.zip nb) = want (leq (ha.zip na) (hb.zip nb)) (leq (hb.zip nb) (ha.zip na))) := cmp_want vA.good vB.good
  go_wp2_with fail
  refine (leqVec_any la lb ha na a1 a2 c1 c2 hb nb a3 a4 c3 c4 _ r1 r2 r3 r4 EA EN FB vB u1 u3).mono ?_
  rintro e w10 ⟨rfl, q10, hw⟩
  have b10' : Below w9.heap.size w9 w10 := by rw [hw]; exact below_drewN' _ _
  clear hw
  have b10 := belStep b9 b10'
  replace r1 := r1.below b10'
  replace r2 := r2.below b10'
  replace r3 := r3.below b10'
  replace r4 := r4.below b10'
  clear b9 b10'
  go_wp2_with fail
  refine (leqVec_any lb la hb nb a3 a4 c3 c4 ha na a1 a2 c1 c2 _ r3 r4 r1 r2 FB FN EA vA u3 u1).mono ?_
  rintro e w11 ⟨rfl, q11, hw⟩
  have b11' : Below w10.heap.size w10 w11 := by rw [hw]; exact below_drewN' _ _
  clear hw
  have b11 := belStep b10 b11'
  clear b10 b11' r1 r2 r3 r4
  generalize leq (ha.zip na) (hb.zip nb) = ab at HC ⊢
  generalize leq (hb.zip nb) (ha.zip na) = ba at HC ⊢
  generalize cmpOf (ha.zip na) (hb.zip nb) = g at HC ⊢
  have HG := HC.out
  clear HC
  subst g
  cases ab <;> cases ba
  all_goals
    go_wp2_with fail
    go_ret
    exact ⟨rfl, b11⟩

end Go.Proofs.Qxb6604248a
