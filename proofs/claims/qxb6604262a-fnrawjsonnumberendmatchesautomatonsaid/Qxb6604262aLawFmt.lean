/-
  THE LAW FnRawjsonNumberEndReadsFormattedInteger (7), walked.
-/
import Derived.Test.Qxb6604262aFormat
namespace Go.Proofs.Qxb6604262a
open Go.RowKit Plain

set_option maxHeartbeats 400000 in
theorem zz19_any (n : Nat) (ao : Option Addr) (c : Nat) (i : Int) (w : World) (hn : n ≤ maxLen) : Calls Try.prog 19 #[.int .i64 i, .slice ao n c] w fun e w' => AnyB w e w' := by
  unfold maxLen at hn
  go_enter Try.func19, Try.ntmps19
  go_wp2
  all_goals (go_ret; exact ⟨⟨_, rfl⟩, rfl⟩)

set_option maxHeartbeats 400000 in
theorem isDigit_any (c : Int) (w : World) : Calls Try.prog 20 #[.int .u8 c] w fun e w' => e = .returned (.bool (isD c)) ∧ w' = w := by
  by_cases h1 : 48 ≤ c
  · by_cases h2 : c ≤ 57
    · have H : Hid (isD c = true) := by simp [Hid, isD]; omega
      go_enter Try.func20, Try.ntmps20
      go_wp2
      go_ret
      exact ⟨ret_bool (by rw [H.out]), rfl⟩
    · have H : Hid (isD c = false) := by simp [Hid, isD]; omega
      go_enter Try.func20, Try.ntmps20
      go_wp2
      go_ret
      exact ⟨ret_bool (by rw [H.out]), rfl⟩
  · have H : Hid (isD c = false) := by simp [Hid, isD]; omega
    go_enter Try.func20, Try.ntmps20
    go_wp2
    go_ret
    exact ⟨ret_bool (by rw [H.out]), rfl⟩

theorem isDigit_is (c : Int) (b : Bool) (w : World) (h : isD c = b) : Calls Try.prog 20 #[.int .u8 c] w fun e w' => e = .returned (.bool b) ∧ w' = w := by
  subst h
  exact isDigit_any c w

theorem zzNumberEnd_is (zs : List Int) (n i : Nat) (ao : Option Addr) (c : Nat) (w : World) (x v : Int) (hb : BV w ao zs) (hn : n ≤ zs.length) (hi : i < n) (hm : n ≤ 2097152) (hx : x = (i : Int)) (hv : numE (byteAt zs) n i = v) :
    Calls Try.prog 16 #[.slice ao n c, .int .i64 x] w fun e w' => e = .returned (.int .i64 v) ∧ w' = w := by
  subst hx
  subst hv
  exact zzNumberEnd_any zs n i ao c w hb hn hi hm

/-- Bytes as cells. -/
def bc (l : List Int) : List Value := l.map (Value.int .u8)
theorem bc_snoc (l : List Int) (x : Int) : bc (l ++ [x]) = bc l ++ [.int .u8 x] := by simp [bc]
theorem take_snoc (ds : List Int) (t : Nat) (h : t < ds.length) : ds.take (t + 1) = ds.take t ++ [byteAt ds t] := by
  rw [List.take_succ_eq_append_getElem h]; simp [byteAt, h]

/-- The tail's first byte. -/
def TailOk (tl : List Int) (m : Nat) : Prop := 0 < m → isD (byteAt tl 0) = false ∧ byteAt tl 0 ≠ 46 ∧ byteAt tl 0 ≠ 101 ∧ byteAt tl 0 ≠ 69

theorem fmt_law {ds tl : List Int} {L m : Nat} (hl : ds.length = L) (hm : tl.length = m) (f : Fmt (byteAt ds) L) (ht : TailOk tl m) : numE (byteAt (ds ++ tl)) (L + m) 0 = (L : Int) := by
  refine fmt_num (f.congr fun k hk => ?_) (by omega) (fun h => ?_)
  · simp [byteAt, List.getElem?_append_left (show k < ds.length by omega)]
  · have e : byteAt (ds ++ tl) L = byteAt tl 0 := by
      simp [byteAt, List.getElem?_append_right (show ds.length ≤ L by omega), hl]
    rw [e]
    exact ht (by omega)

set_option maxRecDepth 10000 in
set_option maxHeartbeats 2000000 in
theorem lawFmt (x : Int) (tl : List Int) (m : Nat) (ao : Option Addr) (c : Nat) (w : World) (A : InB w tl ao m c) (x1 : -9223372036854775808 ≤ x) (x2 : x ≤ 9223372036854775807) :
    Calls Try.prog 7 #[.int .i64 x, .slice ao m c] w fun e w' => LawOk w e w' := by
  obtain ⟨i0, hi, hz0, hz1, hz2⟩ := info_parts Try.info5'
  go_enter Try.func7, Try.ntmps7
  go_wp2_with fail
  refine (zz19_any m ao c x _ A.bd).mono ?_
  rintro e w1 ⟨⟨z, rfl⟩, hw⟩
  subst w1
  cases z
  · go_wp2_with fail
    go_ret
    exact ⟨rfl, Below.refl _ _⟩
  by_cases h1 : m ≤ 1048576
  rotate_left
  · go_wp2_with fail
    go_ret
    exact ⟨rfl, Below.refl _ _⟩
  go_upto_if 19 with fail
  go_cut [] from 10 (fun wx => wx = w ∧ Hid (TailOk tl m))
  case first =>
    by_cases h2 : 0 < m
    · obtain ⟨b, off, rfl, hbs, hc⟩ := A.bv.cells (by rw [A.len]; omega)
      have hx0 : w.cell? ⟨b, off, none⟩ = some (.int .u8 (byteAt tl 0)) := hc 0 (by rw [A.len]; omega)
      have h2' : (0 : Int) < (m : Int) := by omega
      clear hc
      rcases hd : isD (byteAt tl 0) with _ | _
      · by_cases e1 : byteAt tl 0 = 46
        · have t1 : (byteAt tl 0 == 46) = true := beq_iff_eq.2 e1
          clear e1
          go_wp2_with fail
          refine (isDigit_is (byteAt tl 0) false _ hd).mono ?_
          rintro e wz ⟨rfl, hw⟩
          subst wz
          clear hd
          go_wp2_with fail
          go_ret
          exact ⟨rfl, Below.refl _ _⟩
        · have t1 : (byteAt tl 0 == 46) = false := beq_eq_false_iff_ne.2 e1
          by_cases e2 : byteAt tl 0 = 101
          · have t2 : (byteAt tl 0 == 101) = true := beq_iff_eq.2 e2
            clear e1 e2
            go_wp2_with fail
            refine (isDigit_is (byteAt tl 0) false _ hd).mono ?_
            rintro e wz ⟨rfl, hw⟩
            subst wz
            clear hd
            go_wp2_with fail
            go_ret
            exact ⟨rfl, Below.refl _ _⟩
          · have t2 : (byteAt tl 0 == 101) = false := beq_eq_false_iff_ne.2 e2
            by_cases e3 : byteAt tl 0 = 69
            · have t3 : (byteAt tl 0 == 69) = true := beq_iff_eq.2 e3
              clear e1 e2 e3
              go_wp2_with fail
              refine (isDigit_is (byteAt tl 0) false _ hd).mono ?_
              rintro e wz ⟨rfl, hw⟩
              subst wz
              clear hd
              go_wp2_with fail
              go_ret
              exact ⟨rfl, Below.refl _ _⟩
            · have t3 : (byteAt tl 0 == 69) = false := beq_eq_false_iff_ne.2 e3
              have HT : Hid (TailOk tl m) := fun _ => ⟨hd, e1, e2, e3⟩
              clear e1 e2 e3
              go_wp2_with fail
              refine (isDigit_is (byteAt tl 0) false _ hd).mono ?_
              rintro e wz ⟨rfl, hw⟩
              subst wz
              clear hd
              go_wp2_with fail
              go_meet
              exact ⟨rfl, HT⟩
      · go_wp2_with fail
        refine (isDigit_is (byteAt tl 0) true _ hd).mono ?_
        rintro e wz ⟨rfl, hw⟩
        subst wz
        clear hd
        go_wp2_with fail
        go_ret
        exact ⟨rfl, Below.refl _ _⟩
    · have HT : Hid (TailOk tl m) := fun h => absurd h h2
      go_wp2_with fail
      go_meet
      exact ⟨rfl, HT⟩
  case rest =>
    obtain ⟨hwc, HT⟩ := hcut
    subst wc
    go_wp2_with fail
    refine (format_any x _ x1 x2).mono ?_
    rintro e w1 ⟨ad, L, cd, ds, rfl, hl, L1, L2, bd, fm, b1⟩
    have HL : Hid (ds.length = L) := hl
    have HM : Hid (tl.length = m) := A.len
    have bt := A.bv.below b1
    have HN : Hid (numE (byteAt (ds ++ tl)) (L + m) 0 = (L : Int)) := fmt_law hl A.len fm HT.out
    clear A HT fm hl x1 x2
    go_wp2_with (at_make; refine wpList_make_own _ rfl _ _ 22 rfl w1.heap.size 5 i0 _ 1 Try.underlying22 hi hz0 hz1 _ _ _ (L + m) rfl rfl (by omega) (by rw [hz2]; omega) (by unfold maxLen; omega) (Nat.le_refl _) ?_)
    intro w2 hown hgrow
    have hb1 : Below w1.heap.size w1 w2 := (Below.refl _ _).grown hgrow (Nat.le_refl _) (fun k hk => by cases hk)
    clear hgrow
    go_wp2
    go_loopw [7, 8] (fun s7 s8 wr => ∃ t : Nat, s8 = .int .i64 t ∧ t ≤ L ∧ s7 = .slice (some ⟨w1.heap.size, 0, none⟩) t (L + m) ∧ wr.ownsRow w1.heap.size 5 1 (.slice (some ⟨w1.heap.size, 0, none⟩) t (L + m)) t (bc (ds.take t)) ∧ Below w1.heap.size w1 wr) (fun _ s8 _ => L - (intOf s8).toNat)
    case atStart => exact ⟨0, rfl, by omega, rfl, hown, hb1⟩
    case round =>
      clear hown hb1
      obtain ⟨t, rfl, ht, rfl, hrow, hbel⟩ := hrel
      by_cases hlt2 : t < L
      · obtain ⟨b, off, rfl, hbs, hc⟩ := bd.cells (by rw [HL.out]; omega)
        have hc : wr.cell? ⟨b, off + t, none⟩ = some (.int .u8 (byteAt ds t)) := (hbel.cell (p := ⟨b, off + t, none⟩) hbs).trans (hc t (by rw [HL.out]; exact hlt2))
        have hbw := hbel.size
        go_wp2_with (at_builtin; refine wpList_append_fits _ rfl (.tmp 51) (.tmp 56) 22 rfl w1.heap.size 5 i0 1 Try.underlying22 hi hz1 w1.heap.size t (L + m) _ rfl (by exact (hrow.alloc _)) ⟨wr.heap.size, 0, none⟩ 1 1 [.int .u8 (byteAt ds t)] rfl rfl (by exact one_new _ _ _) (one_one _) (by omega) ?_)
        intro w3 hown2 hgrow2
        have hbel2 : Below w1.heap.size w1 w3 := (hbel.alloc hbw _).grown hgrow2 (by simp; omega) (fun k hk => by cases hk; exact Nat.le_refl _)
        rw [← bc_snoc, ← take_snoc ds t (by rw [HL.out]; exact hlt2)] at hown2
        clear hrow hgrow2 hbel hc
        go_wp2
        go_roundw
        case rel => exact ⟨t + 1, by go_num, by omega, rfl, hown2, hbel2⟩
        case measure => simp [intOf]; omega
      · obtain rfl : t = L := by omega
        rw [List.take_of_length_le (Nat.le_of_eq HL.out)] at hrow
        go_wp2
        go_loopw [7, 9] (fun s7 s9 wr => ∃ u : Nat, s9 = .int .i64 u ∧ u ≤ m ∧ s7 = .slice (some ⟨w1.heap.size, 0, none⟩) (t + u) (t + m) ∧ wr.ownsRow w1.heap.size 5 1 (.slice (some ⟨w1.heap.size, 0, none⟩) (t + u) (t + m)) (t + u) (bc (ds ++ tl.take u)) ∧ Below w1.heap.size w1 wr) (fun _ s9 _ => m - (intOf s9).toNat)
        case atStart => exact ⟨0, rfl, by omega, rfl, by simpa using hrow, hbel⟩
        case round =>
          clear hrow hbel
          obtain ⟨u, rfl, hu, rfl, hrow, hbel⟩ := hrel
          by_cases hlt3 : u < m
          · obtain ⟨b, off, rfl, hbs, hc⟩ := bt.cells (by rw [HM.out]; omega)
            have hc : wr.cell? ⟨b, off + u, none⟩ = some (.int .u8 (byteAt tl u)) := (hbel.cell (p := ⟨b, off + u, none⟩) hbs).trans (hc u (by rw [HM.out]; exact hlt3))
            have hbw := hbel.size
            go_wp2_with (at_builtin; refine wpList_append_fits _ rfl (.tmp 64) (.tmp 69) 22 rfl w1.heap.size 5 i0 1 Try.underlying22 hi hz1 w1.heap.size (t + u) (t + m) _ rfl (by exact (hrow.alloc _)) ⟨wr.heap.size, 0, none⟩ 1 1 [.int .u8 (byteAt tl u)] rfl rfl (by exact one_new _ _ _) (one_one _) (by omega) ?_)
            intro w3 hown2 hgrow2
            have hbel2 : Below w1.heap.size w1 w3 := (hbel.alloc hbw _).grown hgrow2 (by simp; omega) (fun k hk => by cases hk; exact Nat.le_refl _)
            rw [← bc_snoc, List.append_assoc, ← take_snoc tl u (by rw [HM.out]; exact hlt3)] at hown2
            clear hrow hgrow2 hbel hc
            go_wp2
            go_roundw
            case rel => exact ⟨u + 1, by go_num, by omega, rfl, hown2, hbel2⟩
            case measure => simp [intOf]; omega
          · obtain rfl : u = m := by omega
            rw [List.take_of_length_le (Nat.le_of_eq HM.out)] at hrow
            have bR : BV wr (some ⟨w1.heap.size, 0, none⟩) (ds ++ tl) := own_bytes hrow
            have hlen : Hid (t + u ≤ (ds ++ tl).length) := by rw [List.length_append, HL.out, HM.out]; exact Nat.le_refl _
            have bF : Below w.heap.size w wr := b1.trans (hbel.mono b1.size)
            clear hrow hbel
            go_wp2_with fail
            refine (zzNumberEnd_is (ds ++ tl) (t + u) 0 _ (t + u) _ _ (t : Int) bR hlen.out (by omega) (by omega) (by go_num) HN.out).mono ?_
            rintro e wz ⟨rfl, hw⟩
            subst wz
            go_wp2_with fail
            go_ret
            exact ⟨rfl, bF⟩

end Go.Proofs.Qxb6604262a
