/-
  THE WALKS of vecSize (10), validVec (11), leqVec (16), atMost (22), sameParts (24): functions that only read.
-/
import Derived.Test.Qxb6604248aLookup
import Derived.Deep.QuietTactic
import Derived.BigQuiet
import Derived.Deep.DeepMust
namespace Go.Proofs.Qxb6604248a
open Go.RowKit Plain

/-- What vecSize's answer says. -/
def vsz (lh ln : Nat) (t : Int) : Prop := 0 ≤ t ∧ t ≤ 1048577 ∧ (t ≤ 1048576 → 16 * lh + 8 * ln ≤ 1048576)

set_option maxHeartbeats 400000 in
theorem vecSize_any (hs : List ByteArray) (ah an : Option Addr) (lh ln ch cn : Nat) (w : World) (hh : RowV w ah (strs hs)) (l1 : Hid (hs.length = lh)) (b1 : lh ≤ maxLen) (b2 : ln ≤ maxLen)
    (b3 : ∀ s ∈ hs, s.size ≤ maxLen) :
    Calls Try.prog 10 #[.slice ah lh ch, .slice an ln cn] w fun e w' => (∃ t : Int, e = .returned (.int .i64 t) ∧ vsz lh ln t) ∧ w' = w := by
  unfold maxLen at b1 b2 b3
  by_cases c1 : lh ≤ 131072
  · by_cases c2 : ln ≤ 131072
    · by_cases c3 : 16 * lh + 8 * ln ≤ 1048576
      · go_enter Try.func10, Try.ntmps10
        go_wp2
        go_loop [5, 6] (fun s5 s6 => ∃ (t : Int) (k : Nat), s5 = .int .i64 t ∧ s6 = .int .i64 k ∧ k ≤ lh ∧ 0 ≤ t ∧ t ≤ 1048576) (fun _ s6 => lh - (intOf s6).toNat)
        case atStart => exact ⟨_, 0, rfl, rfl, by omega, by omega, by omega⟩
        case round =>
          obtain ⟨t, k, rfl, rfl, h1, h2, h3⟩ := hrel
          by_cases hlt : k < lh
          · obtain ⟨b, off, rfl, hbs, hc⟩ := hh.strs (by rw [l1.out]; omega)
            have hm := hc k (by rw [l1.out]; omega)
            have hz : (hostAt hs k).size ≤ 9223372036854775807 := b3 _ (by
              have : k < hs.length := by rw [l1.out]; omega
              simp [hostAt, this])
            clear hc b3
            go_wp2
            · go_ret
              exact ⟨⟨_, rfl, by omega, by omega, fun _ => c3⟩, rfl⟩
            · go_ret
              exact ⟨⟨_, rfl, by omega, by omega, fun _ => c3⟩, rfl⟩
            · go_round
              case rel => exact ⟨_, k + 1, rfl, by go_num, by omega, by omega, by assumption⟩
              case measure => simp [intOf]; omega
          · go_wp2
            go_ret
            exact ⟨⟨_, rfl, by omega, by omega, fun _ => c3⟩, rfl⟩
      · go_enter Try.func10, Try.ntmps10
        go_wp2
        go_ret
        exact ⟨⟨_, rfl, by omega, by omega, fun _ => by omega⟩, rfl⟩
    · go_enter Try.func10, Try.ntmps10
      go_wp2
      go_ret
      exact ⟨⟨_, rfl, by omega, by omega, fun _ => by omega⟩, rfl⟩
  · go_enter Try.func10, Try.ntmps10
    go_wp2
    go_ret
    exact ⟨⟨_, rfl, by omega, by omega, fun _ => by omega⟩, rfl⟩

/-- What validVec asks of the first k. -/
def vldTo (hs : List ByteArray) (ns : List Int) (k : Nat) : Prop := ∀ i, i < k → numAt ns i ≠ 0 ∧ (0 < i → less (hostAt hs (i - 1)) (hostAt hs i) = true)
def vld (hs : List ByteArray) (ns : List Int) (lh ln : Nat) (b : Bool) : Prop := b = true ↔ lh = ln ∧ vldTo hs ns ln

theorem vld_zero {hs : List ByteArray} {ns : List Int} {n k : Nat} (hk : k < n) (h : (numAt ns k == 0) = true) : vld hs ns n n false :=
  Iff.intro (fun x => by cases x) (fun a => absurd (beq_iff_eq.1 h) (a.2 k hk).1)
theorem vld_less {hs : List ByteArray} {ns : List Int} {n k : Nat} (hk : k < n) (h0 : ¬ k = 0) (h : Op.bytesLess (hostAt hs (k - 1)).toList (hostAt hs k).toList = false) : vld hs ns n n false :=
  Iff.intro (fun x => by cases x) (fun a => by have := (a.2 k hk).2 (by omega); unfold less at this; rw [h] at this; cases this)
theorem vldTo_next {hs : List ByteArray} {ns : List Int} {k : Nat} (H : vldTo hs ns k) (h : (numAt ns k == 0) = false) (h2 : 0 < k → Op.bytesLess (hostAt hs (k - 1)).toList (hostAt hs k).toList = true) : vldTo hs ns (k + 1) := by
  intro i hi
  by_cases e : i = k
  · subst e; exact ⟨beq_eq_false_iff_ne.1 h, h2⟩
  · exact H i (by omega)
theorem vld_true {hs : List ByteArray} {ns : List Int} {n k : Nat} (hk : k ≤ n) (hn : ¬ k < n) (H : vldTo hs ns k) : vld hs ns n n true :=
  ⟨fun _ => ⟨rfl, by rw [show n = k from by omega]; exact H⟩, fun _ => rfl⟩
theorem vld_len {hs : List ByteArray} {ns : List Int} {n k : Nat} (h : ¬ n = k) : vld hs ns n k false := Iff.intro (fun x => by cases x) (fun a => absurd a.1 h)

set_option maxHeartbeats 800000 in
theorem validVec_any (hs : List ByteArray) (ns : List Int) (ah an : Option Addr) (lh ln ch cn : Nat) (w : World) (hh : RowV w ah (strs hs)) (hn : RowV w an (u64s ns)) (l1 : Hid (hs.length = lh)) (l2 : Hid (ns.length = ln))
    (b1 : lh ≤ 1048576) (b2 : ln ≤ 1048576) :
    Calls Try.prog 11 #[.slice ah lh ch, .slice an ln cn] w fun e w' => (∃ b : Bool, e = .returned (.bool b) ∧ vld hs ns lh ln b) ∧ ∃ q, w' = w.drewN q := by
  by_cases c0 : lh = ln
  · subst c0
    go_enter Try.func11, Try.ntmps11
    go_wp2
    go_loopw [5] (fun s5 wr => ∃ k q : Nat, s5 = .int .i64 k ∧ k ≤ lh ∧ Hid (vldTo hs ns k) ∧ wr = w.drewN q) (fun s5 _ => lh - (intOf s5).toNat)
    case atStart => exact ⟨0, 0, rfl, by omega, fun i hi => absurd hi (by omega), rfl⟩
    case round =>
      obtain ⟨k, q, rfl, h1, H1, rfl⟩ := hrel
      by_cases hlt : k < lh
      · obtain ⟨b, off, rfl, hbs, hc⟩ := hh.strs (by rw [l1.out]; omega)
        obtain ⟨b2, off2, rfl, hbs2, hc2⟩ := hn.u64s (by rw [l2.out]; omega)
        have hm := hc k (by rw [l1.out]; omega)
        have hm2 := hc2 k (by rw [l2.out]; omega)
        by_cases k0 : k = 0
        · subst k0
          have hm3 : w.cell? ⟨b2, off2, none⟩ = some (.int .u64 (numAt ns 0)) := hm2
          have hm4 : w.cell? ⟨b, off, none⟩ = some (.string (hostAt hs 0)) := hm
          clear hc hc2 hm hm2
          go_wp2
          · go_ret
            exact ⟨⟨_, rfl, vld_zero hlt ‹_›⟩, q, rfl⟩
          · go_quiet (fail)
            go_wp2
            go_roundw
            case rel => exact ⟨1, _, rfl, by omega, vldTo_next H1.out ‹_› (fun h => absurd h (by omega)), rfl⟩
            case measure => simp [intOf]; omega
        · have hd : 0 < k := by omega
          have hm1 := hc (k - 1) (by rw [l1.out]; omega)
          clear hc hc2
          go_wp2
          · go_ret
            exact ⟨⟨_, rfl, vld_zero hlt ‹_›⟩, q, rfl⟩
          · go_quiet (fail)
            go_wp2
            · go_ret
              exact ⟨⟨_, rfl, vld_less hlt k0 (by simpa using ‹(!Op.bytesLess _ _) = true›)⟩, _, World.drewN_drewN _ _ _⟩
            · go_roundw
              case rel => exact ⟨k + 1, _, by go_num, by omega, vldTo_next H1.out ‹_› (fun _ => by simpa using ‹(!Op.bytesLess _ _) = false›), rfl⟩
              case measure => simp [intOf]; omega
      · go_wp2
        go_ret
        exact ⟨⟨_, rfl, vld_true h1 hlt H1.out⟩, q, rfl⟩
  · go_enter Try.func11, Try.ntmps11
    go_wp2
    go_ret
    exact ⟨⟨_, rfl, vld_len c0⟩, 0, rfl⟩

theorem leq_yes {hs : List ByteArray} {ns : List Int} {Y : List Ent} {n k : Nat} (l1 : hs.length = n) (l2 : ns.length = n) (hk : ¬ k < n) (H : ∀ i, i < k → numAt ns i ≤ get Y (hostAt hs i)) : leq (hs.zip ns) Y = true := by
  rw [leq_iff]
  intro e he
  obtain ⟨i, ki, ei⟩ := List.getElem_of_mem he
  have ki' : i < hs.length := by simp at ki; omega
  obtain ⟨_, ej⟩ := zip_at (l1.trans l2.symm) (i := i) ki'
  rw [ej] at ei
  subst ei
  exact H i (by omega)

theorem leq_no {hs : List ByteArray} {ns : List Int} {Y : List Ent} {n k : Nat} (l1 : hs.length = n) (l2 : ns.length = n) (hk : k < n) (H : get Y (hostAt hs k) < numAt ns k) : leq (hs.zip ns) Y = false := by
  cases h : leq (hs.zip ns) Y with
  | false => rfl
  | true =>
    obtain ⟨ki, ej⟩ := zip_at (l1.trans l2.symm) (i := k) (by omega)
    have := leq_iff.1 h _ (List.getElem_mem ki)
    rw [ej] at this
    simp only at this
    omega

theorem leqTo_next {hs : List ByteArray} {ns : List Int} {Y : List Ent} {k : Nat} (H : ∀ i, i < k → numAt ns i ≤ get Y (hostAt hs i)) (h : ¬ get Y (hostAt hs k) < numAt ns k) : ∀ i, i < k + 1 → numAt ns i ≤ get Y (hostAt hs i) := by
  intro i hi
  by_cases e : i = k
  · subst e; omega
  · exact H i (by omega)

set_option maxHeartbeats 800000 in
theorem leqVec_any (n m : Nat) (hs : List ByteArray) (ns : List Int) (ah an : Option Addr) (ch cn : Nat) (gs : List ByteArray) (ms : List Int) (bh bn : Option Addr) (dh dn : Nat) (w : World)
    (hh : RowV w ah (strs hs)) (hn : RowV w an (u64s ns)) (gh : RowV w bh (strs gs)) (gn : RowV w bn (u64s ms)) (l1 : Hid (hs.length = n)) (l2 : Hid (ns.length = n)) (l3 : Hid (gs.length = m)) (hv : Vec gs ms)
    (n1 : n ≤ 1048576) (n2 : m ≤ 1048576) :
    Calls Try.prog 16 #[.slice ah n ch, .slice an n cn, .slice bh m dh, .slice bn m dn] w fun e w' => e = .returned (.bool (leq (hs.zip ns) (gs.zip ms))) ∧ ∃ q, w' = w.drewN q := by
  go_enter Try.func16, Try.ntmps16
  go_wp2
  go_loopw [9] (fun s wr => ∃ k q : Nat, s = .int .i64 k ∧ k ≤ n ∧ Hid (∀ i, i < k → numAt ns i ≤ get (gs.zip ms) (hostAt hs i)) ∧ wr = w.drewN q) (fun s _ => n - (intOf s).toNat)
  case atStart => exact ⟨0, 0, rfl, by omega, fun i hi => absurd hi (by omega), rfl⟩
  case round =>
    obtain ⟨k, q, rfl, h1, H1, hwr⟩ := hrel
    have HW : Hid (wr = w.drewN q) := hwr
    clear hwr
    by_cases hlt : k < n
    · replace hh : RowV wr ah (strs hs) := by rw [HW.out]; exact hh.drewN _
      replace hn : RowV wr an (u64s ns) := by rw [HW.out]; exact hn.drewN _
      replace gh : RowV wr bh (strs gs) := by rw [HW.out]; exact gh.drewN _
      replace gn : RowV wr bn (u64s ms) := by rw [HW.out]; exact gn.drewN _
      obtain ⟨b, off, rfl, hbs, hc⟩ := hh.strs (by rw [l1.out]; omega)
      obtain ⟨b2, off2, rfl, hbs2, hc2⟩ := hn.u64s (by rw [l2.out]; omega)
      have hm := hc k (by rw [l1.out]; omega)
      have hm2 := hc2 k (by rw [l2.out]; omega)
      clear hc hc2
      go_wp2
      go_quiet ((go_at_call 20; exact Calls.quiet_of_same (lookup_any m gs ms bh bn dh dn _ _ (by exact gh.drewN _) (by exact gn.drewN _) l3 hv n2)))
      go_wp2
      · go_ret
        exact ⟨ret_bool (leq_no l1.out l2.out hlt ‹_›).symm, _, by rw [HW.out]; exact World.drewN_drewN _ _ _⟩
      · go_roundw
        case rel => exact ⟨k + 1, _, by go_num, by omega, leqTo_next H1.out (Int.not_lt.2 ‹_›), by rw [HW.out]; exact World.drewN_drewN _ _ _⟩
        case measure => simp [intOf]; omega
    · go_wp2
      go_ret
      exact ⟨ret_bool (leq_yes l1.out l2.out hlt H1.out).symm, _, HW.out⟩

set_option maxHeartbeats 400000 in
theorem atMost_any (r : Int) (w : World) : Calls Try.prog 22 #[.int .i64 r] w fun e w' => e = .returned (.bool (atm r)) ∧ w' = w := by
  by_cases h1 : (r == 1) = true
  · go_enter Try.func22, Try.ntmps22
    go_wp2
    go_ret
    exact ⟨ret_bool (by simp [atm, h1]), rfl⟩
  · have h2 : (r == 1) = false := by simpa using h1
    clear h1
    go_enter Try.func22, Try.ntmps22
    go_wp2
    go_ret
    exact ⟨ret_bool (by simp [atm, h2]), rfl⟩

set_option maxHeartbeats 800000 in
theorem sameParts_any (n : Nat) (hs : List ByteArray) (ns : List Int) (ah an bh bn : Option Addr) (ch cn dh dn : Nat) (w : World)
    (hh : RowV w ah (strs hs)) (hn : RowV w an (u64s ns)) (gh : RowV w bh (strs hs)) (gn : RowV w bn (u64s ns)) (l1 : Hid (hs.length = n)) (l2 : Hid (ns.length = n)) (b1 : n ≤ 2097152) :
    Calls Try.prog 24 #[.slice ah n ch, .slice an n cn, .slice bh n dh, .slice bn n dn] w fun e w' => e = .returned (.bool true) ∧ ∃ q, w' = w.drewN q := by
  go_enter Try.func24, Try.ntmps24
  go_wp2
  go_loopw [9] (fun s wr => ∃ k q : Nat, s = .int .i64 k ∧ k ≤ n ∧ wr = w.drewN q) (fun s _ => n - (intOf s).toNat)
  case atStart => exact ⟨0, 0, rfl, by omega, rfl⟩
  case round =>
    obtain ⟨k, q, rfl, h1, rfl⟩ := hrel
    by_cases hlt : k < n
    · obtain ⟨b, off, rfl, hbs, hc⟩ := hh.strs (by rw [l1.out]; omega)
      obtain ⟨b2, off2, rfl, hbs2, hc2⟩ := hn.u64s (by rw [l2.out]; omega)
      obtain ⟨b3, off3, rfl, hbs3, hc3⟩ := gh.strs (by rw [l1.out]; omega)
      obtain ⟨b4, off4, rfl, hbs4, hc4⟩ := gn.u64s (by rw [l2.out]; omega)
      have hm := hc k (by rw [l1.out]; omega)
      have hm2 := hc2 k (by rw [l2.out]; omega)
      have hm3 := hc3 k (by rw [l1.out]; omega)
      have hm4 := hc4 k (by rw [l2.out]; omega)
      clear hc hc2 hc3 hc4
      go_wp2
      go_quiet (fail)
      go_wp2
      go_roundw
      case rel => exact ⟨k + 1, _, by go_num, by omega, rfl⟩
      case measure => simp [intOf]; omega
    · go_wp2
      go_ret
      exact ⟨rfl, _, rfl⟩

end Go.Proofs.Qxb6604248a
