/-
  THE WALK of rjb1FormatInt64 (21).
-/
import Derived.Test.Qxb6604262aCopy
import Derived.Test.Qxb6604262aPlain2
import Derived.Deep.OwnRows
namespace Go.Proofs.Qxb6604262a
open Go.RowKit Plain

theorem Try.info5' : (Try.prog.info? 5).map (fun i => (i.zero, i.size, i.bytes)) = some (some (.int .u8 0), 1, 1) := by kernel_rfl

/-- The digits' loop: what holds at its head. -/
structure DigI (w0 w : World) (B p : Nat) (v : Int) (g : Nat → Int) : Prop where
  row : w.rowIs B 31 20 (fun j => .int .u8 (g j))
  dig : ∀ j, p ≤ j → j < 20 → isD (g j) = true
  lt : v < 10 ^ (p - 1)
  zero : v = 0 → p = 20
  bel : Below B w0 w

/-- .. and behind it. -/
structure DoneI (w0 w : World) (B q : Nat) (g : Nat → Int) : Prop where
  row : w.rowIs B 31 20 (fun j => .int .u8 (g j))
  dig : ∀ j, q ≤ j → j < 20 → isD (g j) = true
  lead : g q = 48 → q = 19
  bel : Below B w0 w

theorem dig_start (w : World) (v : Int) (hv : v < 10 ^ 19) : DigI w (w.alloc (.cells #[.int .u8 0, .int .u8 0, .int .u8 0, .int .u8 0, .int .u8 0, .int .u8 0, .int .u8 0, .int .u8 0, .int .u8 0, .int .u8 0, .int .u8 0, .int .u8 0, .int .u8 0, .int .u8 0, .int .u8 0, .int .u8 0, .int .u8 0, .int .u8 0, .int .u8 0, .int .u8 0] 31)) w.heap.size 20 v (fun _ => 0) := by
  refine ⟨World.rowIs_alloc w _ 31 _ (fun i hi => ?_), fun j a b => by omega, hv, fun _ => rfl, (Below.refl _ _).alloc (Nat.le_refl _) _⟩
  have hi' : i < 20 := hi
  clear hi
  rcases i with _ | _ | _ | _ | _ | _ | _ | _ | _ | _ | _ | _ | _ | _ | _ | _ | _ | _ | _ | _ | i
  all_goals first | rfl | omega

theorem put_row {w : World} {B p : Nat} {g : Nat → Int} (h : w.rowIs B 31 20 (fun j => .int .u8 (g j))) (d : Int) : (w.setCell ⟨B, p, none⟩ (.int .u8 d)).rowIs B 31 20 (fun j => .int .u8 (if j = p then d else g j)) :=
  (h.set p (.int .u8 d)).congr fun i _ => by split <;> rfl

theorem pow_step {v : Int} {p : Nat} (hp : 2 ≤ p) (h : v < 10 ^ (p - 1)) (hv : 10 ≤ v) : v / 10 < 10 ^ (p - 1 - 1) ∧ 2 ≤ p - 1 := by
  obtain ⟨k, rfl⟩ : ∃ k, p = k + 2 := ⟨p - 2, by omega⟩
  have e1 : k + 2 - 1 = k + 1 := by omega
  have e2 : k + 2 - 1 - 1 = k := by omega
  rw [e1, Int.pow_succ] at h
  rw [e2]
  refine ⟨by omega, ?_⟩
  rcases k with _ | k
  · simp at h; omega
  · omega

theorem DigI.next {w0 w : World} {B p : Nat} {v : Int} {g : Nat → Int} (h : DigI w0 w B p v g) (hp : 2 ≤ p) (hp2 : p ≤ 20) (hv : 10 ≤ v) :
    DigI w0 (w.setCell ⟨B, p - 1, none⟩ (.int .u8 (48 + v % 10))) B (p - 1) (v / 10) (fun j => if j = p - 1 then 48 + v % 10 else g j) := by
  refine ⟨put_row h.row _, fun j a b => ?_, (pow_step hp h.lt hv).1, fun e => by omega, h.bel.setCell (Nat.le_refl _) _⟩
  by_cases e : j = p - 1
  · simp only [e, if_true]; simp [isD]; omega
  · simp only [e, if_false]; exact h.dig j (by omega) b

theorem DigI.done {w0 w : World} {B p : Nat} {v : Int} {g : Nat → Int} (h : DigI w0 w B p v g) (hp : 2 ≤ p) (hp2 : p ≤ 20) (hv0 : 0 ≤ v) (hv : v < 10) :
    DoneI w0 (w.setCell ⟨B, p - 1, none⟩ (.int .u8 (48 + v % 10))) B (p - 1) (fun j => if j = p - 1 then 48 + v % 10 else g j) := by
  refine ⟨put_row h.row _, fun j a b => ?_, fun e => ?_, h.bel.setCell (Nat.le_refl _) _⟩
  · by_cases e : j = p - 1
    · simp only [e, if_true]; simp [isD]; omega
    · simp only [e, if_false]; exact h.dig j (by omega) b
  · simp only [if_true] at e
    have := h.zero (by omega)
    omega

/-- The written integer lies in places r to 19. -/
structure WroteI (w0 w : World) (B r : Nat) (g : Nat → Int) : Prop where
  row : w.rowIs B 31 20 (fun j => .int .u8 (g j))
  fmt : Fmt (fun i => g (r + i)) (20 - r)
  bel : Below B w0 w

theorem DoneI.pos {w0 w : World} {B q : Nat} {g : Nat → Int} (h : DoneI w0 w B q g) (h2 : q ≤ 19) : WroteI w0 w B q g :=
  ⟨h.row, ⟨0, by omega, by omega, fun e => by omega, fun k a b => h.dig (q + k) (by omega) (by omega), fun e => by have := h.lead (by simpa using e); omega⟩, h.bel⟩

theorem DoneI.neg {w0 w : World} {B q : Nat} {g : Nat → Int} (h : DoneI w0 w B q g) (h1 : 1 ≤ q) (h2 : q ≤ 19) :
    WroteI w0 (w.setCell ⟨B, q - 1, none⟩ (.int .u8 45)) B (q - 1) (fun j => if j = q - 1 then 45 else g j) := by
  refine ⟨put_row h.row _, ⟨1, by omega, by omega, fun _ => by simp, fun k a b => ?_, fun e => ?_⟩, h.bel.setCell (Nat.le_refl _) _⟩
  · show isD (if q - 1 + k = q - 1 then 45 else g (q - 1 + k)) = true
    rw [if_neg (by omega)]
    exact h.dig _ (by omega) (by omega)
  · have e' : (if q - 1 + 1 = q - 1 then (45 : Int) else g (q - 1 + 1)) = 48 := e
    rw [if_neg (by omega), show q - 1 + 1 = q from by omega] at e'
    have := h.lead e'
    omega

/-- The first t bytes from r on. -/
def outOf (g : Nat → Int) (r t : Nat) : List Int := (List.range t).map fun i => g (r + i)
def cellsOf (g : Nat → Int) (r t : Nat) : List Value := (outOf g r t).map (Value.int .u8)
theorem cellsOf_succ (g : Nat → Int) (r t : Nat) : cellsOf g r (t + 1) = cellsOf g r t ++ [.int .u8 (g (r + t))] := by simp [cellsOf, outOf, List.range_succ]
theorem outOf_len (g : Nat → Int) (r t : Nat) : (outOf g r t).length = t := by simp [outOf]
theorem outOf_at (g : Nat → Int) (r t i : Nat) (h : i < t) : byteAt (outOf g r t) i = g (r + i) := by simp [byteAt, outOf, h]

/-- What an own row of bytes gives to a reader. -/
theorem own_bytes {w : World} {base t G n c : Nat} {ds : List Int} (h : w.ownsRow base t 1 (.slice (some ⟨G, 0, none⟩) n c) n (ds.map (Value.int .u8))) : BV w (some ⟨G, 0, none⟩) ds := by
  refine ⟨.inr ⟨G, 0, rfl, (h.lt G rfl).2, fun i hi => ?_⟩⟩
  have := h.cells (g := G) rfl i (.int .u8 (byteAt ds i)) (by simp [byteAt, hi])
  rwa [Addr.add_lit] at this

theorem one_new (wr : World) (x : Value) (t : TypeId) : ∀ j u, [x][j]? = some u → (wr.alloc (.cells #[x] t)).cell? ((⟨wr.heap.size, 0, none⟩ : Addr).add j) = some u := by
  intro j u hj
  match j, hj with
  | 0, hj => simp at hj; subst hj; simp [Addr.add]

theorem one_one (n : Int) : ∀ u ∈ [Value.int .u8 n], u.oneCell' = true := by
  intro u hu
  simp at hu
  subst hu; rfl

/-- The written integer handed back. -/
def FmtRet (w : World) (e : Ending) (w' : World) : Prop := ∃ ao L c ds, e = .returned (.slice ao L c) ∧ ds.length = L ∧ 1 ≤ L ∧ L ≤ 20 ∧ BV w' ao ds ∧ Fmt (byteAt ds) L ∧ Below w.heap.size w w'

theorem fmtRet_mk {w W w' : World} {r G : Nat} {g : Nat → Int} (hW : WroteI w W w.heap.size r g) (hr : r ≤ 19) (hG : G = W.heap.size) (own : w'.ownsRow G 5 1 (.slice (some ⟨G, 0, none⟩) (20 - r) (20 - r)) (20 - r) (cellsOf g r (20 - r))) (hb : Below G W w') :
    FmtRet w (.returned (.slice (some ⟨G, 0, none⟩) (20 - r) (20 - r))) w' := by
  refine ⟨_, _, _, outOf g r (20 - r), rfl, outOf_len _ _ _, by omega, by omega, own_bytes own, hW.fmt.congr (fun k hk => outOf_at g r (20 - r) k hk), hW.bel.trans (hb.mono (by rw [hG]; exact hW.bel.size))⟩

set_option maxRecDepth 10000 in
set_option maxHeartbeats 2000000 in
theorem format_any (x : Int) (w : World) (h1 : -9223372036854775808 ≤ x) (h2 : x ≤ 9223372036854775807) :
    Calls Try.prog 21 #[.int .i64 x] w fun e w' => FmtRet w e w' := by
  obtain ⟨i0, hi, hz0, hz1, hz2⟩ := info_parts Try.info5'
  by_cases hx : x < 0
  · have I0 := dig_start w (-(x + 1) + 1) (by omega)
    go_enter Try.func21, Try.ntmps21
    go_upto_block 0 with fail
    go_cut [4] from 8 (fun s wx => ∃ (q : Nat) (g : Nat → Int), s = .int .i64 q ∧ 1 ≤ q ∧ q ≤ 19 ∧ DoneI w wx w.heap.size q g)
    case first =>
      go_wp2_with fail
      go_loopw [4, 5] (fun s t wr => ∃ (p : Nat) (v : Int) (g : Nat → Int), s = .int .i64 p ∧ t = .int .u64 v ∧ 2 ≤ p ∧ p ≤ 20 ∧ 0 ≤ v ∧ v ≤ 9223372036854775808 ∧ DigI w wr w.heap.size p v g) (fun s _ _ => (intOf s).toNat)
      case atStart => exact ⟨20, _, _, rfl, rfl, by omega, by omega, by omega, by omega, I0⟩
      case round =>
        clear I0
        obtain ⟨p, v, g, rfl, rfl, p1, p2, v1, v2, I⟩ := hrel
        have hcell : wr.cell? ⟨w.heap.size, p - 1, none⟩ = some (.int .u8 (g (p - 1))) := I.row.cell (by omega)
        have hfz := I.row.frozen (p - 1)
        by_cases hz : v < 10
        · have hz' : (v / 10 == 0) = true := beq_iff_eq.2 (by omega)
          have J := I.done p1 p2 v1 hz
          clear I
          go_wp2
          go_meet
          exact ⟨p - 1, _, by go_num, by omega, by omega, J⟩
        · have hz' : (v / 10 == 0) = false := beq_eq_false_iff_ne.2 (by omega)
          have J := I.next p1 p2 (by omega)
          have p3 : 2 ≤ p - 1 := (pow_step p1 I.lt (by omega)).2
          clear I
          go_wp2
          go_roundw
          case rel => exact ⟨p - 1, _, _, by go_num, rfl, p3, by omega, by omega, by omega, J⟩
          case measure => simp [intOf]; omega
    case rest =>
      clear I0
      obtain ⟨q, g, rfl, q1, q2, I⟩ := hcut
      have hcell : wc.cell? ⟨w.heap.size, q - 1, none⟩ = some (.int .u8 (g (q - 1))) := I.row.cell (by omega)
      have hfz := I.row.frozen (q - 1)
      have IW := I.neg q1 q2
      clear I
      go_upto_region 14 with fail
      generalize wc.setCell ⟨w.heap.size, q - 1, none⟩ (.int .u8 45) = wq at IW ⊢
      generalize (fun j => if j = q - 1 then (45 : Int) else g j) = g at IW
      obtain ⟨r, hr⟩ : ∃ r, r = q - 1 := ⟨_, rfl⟩
      have e1 : ((q : Int) - 1) = (r : Int) := by omega
      rw [e1]
      rw [← hr] at IW
      have r18 : r ≤ 18 := by omega
      clear hcell hfz e1 hr q1 q2
      have hlt : w.heap.size < wq.heap.size := IW.row.lt
      have r19 : r ≤ 19 := by omega
      go_wp2_with (at_make; refine wpList_make_own _ rfl _ _ 22 rfl wq.heap.size 5 i0 _ 1 Try.underlying22 hi hz0 hz1 _ _ _ (20 - r) rfl rfl (by omega) (by rw [hz2]; omega) (by unfold maxLen; omega) (Nat.le_refl _) ?_)
      intro w1 hown hgrow
      have hb1 : Below wq.heap.size wq w1 := (Below.refl _ _).grown hgrow (Nat.le_refl _) (fun k hk => by cases hk)
      clear hgrow
      go_wp2
      go_loopw [6, 7] (fun s6 s7 wr => ∃ t : Nat, s7 = .int .i64 ((r + t : Nat) : Int) ∧ t ≤ 20 - r ∧ s6 = .slice (some ⟨wq.heap.size, 0, none⟩) t (20 - r) ∧ wr.ownsRow wq.heap.size 5 1 (.slice (some ⟨wq.heap.size, 0, none⟩) t (20 - r)) t (cellsOf g r t) ∧ Below wq.heap.size wq wr) (fun _ s7 _ => 20 - (intOf s7).toNat)
      case atStart => exact ⟨0, by go_num, by omega, rfl, hown, hb1⟩
      case round =>
        clear hown hb1
        obtain ⟨t, rfl, ht, rfl, hrow, hbel⟩ := hrel
        by_cases hlt2 : t < 20 - r
        · have hc : wr.cell? ⟨w.heap.size, r + t, none⟩ = some (.int .u8 (g (r + t))) := (hbel.cell (p := ⟨w.heap.size, r + t, none⟩) hlt).trans (IW.row.cell (by omega))
          have hbw := hbel.size
          go_wp2_with (at_builtin; refine wpList_append_fits _ rfl (.tmp 43) (.tmp 47) 22 rfl wq.heap.size 5 i0 1 Try.underlying22 hi hz1 wq.heap.size t (20 - r) _ rfl (by exact (hrow.alloc _)) ⟨wr.heap.size, 0, none⟩ 1 1 [.int .u8 (g (r + t))] rfl rfl (by exact one_new _ _ _) (one_one _) (by omega) ?_)
          intro w2 hown2 hgrow2
          have hbel2 : Below wq.heap.size wq w2 := (hbel.alloc hbw _).grown hgrow2 (by simp; omega) (fun k hk => by cases hk; exact Nat.le_refl _)
          rw [← cellsOf_succ] at hown2
          clear hrow hgrow2 hbel hc
          go_wp2
          go_roundw
          case rel => exact ⟨t + 1, by go_num, by omega, rfl, hown2, hbel2⟩
          case measure => simp [intOf]; omega
        · obtain rfl : t = 20 - r := by omega
          have hR := fmtRet_mk IW r19 rfl hrow hbel
          clear hrow hbel IW
          go_wp2
          go_ret
          exact hR
  · have I0 := dig_start w (x) (by omega)
    go_enter Try.func21, Try.ntmps21
    go_upto_block 0 with fail
    go_cut [4] from 8 (fun s wx => ∃ (q : Nat) (g : Nat → Int), s = .int .i64 q ∧ 1 ≤ q ∧ q ≤ 19 ∧ DoneI w wx w.heap.size q g)
    case first =>
      go_wp2_with fail
      go_loopw [4, 5] (fun s t wr => ∃ (p : Nat) (v : Int) (g : Nat → Int), s = .int .i64 p ∧ t = .int .u64 v ∧ 2 ≤ p ∧ p ≤ 20 ∧ 0 ≤ v ∧ v ≤ 9223372036854775808 ∧ DigI w wr w.heap.size p v g) (fun s _ _ => (intOf s).toNat)
      case atStart => exact ⟨20, _, _, rfl, rfl, by omega, by omega, by omega, by omega, I0⟩
      case round =>
        clear I0
        obtain ⟨p, v, g, rfl, rfl, p1, p2, v1, v2, I⟩ := hrel
        have hcell : wr.cell? ⟨w.heap.size, p - 1, none⟩ = some (.int .u8 (g (p - 1))) := I.row.cell (by omega)
        have hfz := I.row.frozen (p - 1)
        by_cases hz : v < 10
        · have hz' : (v / 10 == 0) = true := beq_iff_eq.2 (by omega)
          have J := I.done p1 p2 v1 hz
          clear I
          go_wp2
          go_meet
          exact ⟨p - 1, _, by go_num, by omega, by omega, J⟩
        · have hz' : (v / 10 == 0) = false := beq_eq_false_iff_ne.2 (by omega)
          have J := I.next p1 p2 (by omega)
          have p3 : 2 ≤ p - 1 := (pow_step p1 I.lt (by omega)).2
          clear I
          go_wp2
          go_roundw
          case rel => exact ⟨p - 1, _, _, by go_num, rfl, p3, by omega, by omega, by omega, J⟩
          case measure => simp [intOf]; omega
    case rest =>
      clear I0
      obtain ⟨q, g, rfl, q1, q2, I⟩ := hcut
      have IW := I.pos q2
      clear I
      obtain ⟨r, rfl⟩ : ∃ r, r = q := ⟨_, rfl⟩
      obtain ⟨wq, rfl⟩ : ∃ W, W = wc := ⟨_, rfl⟩
      clear q1
      have hlt : w.heap.size < wq.heap.size := IW.row.lt
      have r19 : r ≤ 19 := by omega
      go_wp2_with (at_make; refine wpList_make_own _ rfl _ _ 22 rfl wq.heap.size 5 i0 _ 1 Try.underlying22 hi hz0 hz1 _ _ _ (20 - r) rfl rfl (by omega) (by rw [hz2]; omega) (by unfold maxLen; omega) (Nat.le_refl _) ?_)
      intro w1 hown hgrow
      have hb1 : Below wq.heap.size wq w1 := (Below.refl _ _).grown hgrow (Nat.le_refl _) (fun k hk => by cases hk)
      clear hgrow
      go_wp2
      go_loopw [6, 7] (fun s6 s7 wr => ∃ t : Nat, s7 = .int .i64 ((r + t : Nat) : Int) ∧ t ≤ 20 - r ∧ s6 = .slice (some ⟨wq.heap.size, 0, none⟩) t (20 - r) ∧ wr.ownsRow wq.heap.size 5 1 (.slice (some ⟨wq.heap.size, 0, none⟩) t (20 - r)) t (cellsOf g r t) ∧ Below wq.heap.size wq wr) (fun _ s7 _ => 20 - (intOf s7).toNat)
      case atStart => exact ⟨0, by go_num, by omega, rfl, hown, hb1⟩
      case round =>
        clear hown hb1
        obtain ⟨t, rfl, ht, rfl, hrow, hbel⟩ := hrel
        by_cases hlt2 : t < 20 - r
        · have hc : wr.cell? ⟨w.heap.size, r + t, none⟩ = some (.int .u8 (g (r + t))) := (hbel.cell (p := ⟨w.heap.size, r + t, none⟩) hlt).trans (IW.row.cell (by omega))
          have hbw := hbel.size
          go_wp2_with (at_builtin; refine wpList_append_fits _ rfl (.tmp 43) (.tmp 47) 22 rfl wq.heap.size 5 i0 1 Try.underlying22 hi hz1 wq.heap.size t (20 - r) _ rfl (by exact (hrow.alloc _)) ⟨wr.heap.size, 0, none⟩ 1 1 [.int .u8 (g (r + t))] rfl rfl (by exact one_new _ _ _) (one_one _) (by omega) ?_)
          intro w2 hown2 hgrow2
          have hbel2 : Below wq.heap.size wq w2 := (hbel.alloc hbw _).grown hgrow2 (by simp; omega) (fun k hk => by cases hk; exact Nat.le_refl _)
          rw [← cellsOf_succ] at hown2
          clear hrow hgrow2 hbel hc
          go_wp2
          go_roundw
          case rel => exact ⟨t + 1, by go_num, by omega, rfl, hown2, hbel2⟩
          case measure => simp [intOf]; omega
        · obtain rfl : t = 20 - r := by omega
          have hR := fmtRet_mk IW r19 rfl hrow hbel
          clear hrow hbel IW
          go_wp2
          go_ret
          exact hR

end Go.Proofs.Qxb6604262a
