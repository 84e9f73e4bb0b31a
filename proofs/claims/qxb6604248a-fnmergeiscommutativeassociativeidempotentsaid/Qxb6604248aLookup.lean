/-
  THE WALK of lookup (20): a binary search.
-/
import Derived.Test.Qxb6604248aRows
import Derived.Test.Qxb6604248aViews
namespace Go.Proofs.Qxb6604248a
open Go.RowKit Plain

theorem ret_int {k : IntKind} {a b : Int} (h : a = b) : Ending.returned (.int k a) = .returned (.int k b) := by rw [h]
theorem ret_bool {a b : Bool} (h : a = b) : Ending.returned (.bool a) = .returned (.bool b) := by rw [h]

theorem ne_of_beq {a b : ByteArray} (h : (a.toList == b.toList) = false) : a ≠ b := fun e => by rw [e] at h; simp at h

set_option maxHeartbeats 400000 in
theorem lookup_any (n : Nat) (hs : List ByteArray) (ns : List Int) (ah an : Option Addr) (ch cn : Nat) (host : ByteArray) (w : World) (hh : RowV w ah (strs hs)) (hn : RowV w an (u64s ns))
    (l1 : Hid (hs.length = n)) (hv : Vec hs ns) (hb : n ≤ 1048576) :
    Calls Try.prog 20 #[.slice ah n ch, .slice an n cn, .string host] w fun e w' => e = .returned (.int .u64 (get (hs.zip ns) host)) ∧ w' = w := by
  have l2 : Hid (ns.length = n) := hv.len.symm.trans l1.out
  go_enter Try.func20, Try.ntmps20
  go_wp2
  go_loop [7, 8] (fun s7 s8 => ∃ lo hi : Nat, s7 = .int .i64 lo ∧ s8 = .int .i64 hi ∧ lo ≤ hi ∧ hi ≤ n ∧ Hid (∀ i, i < lo → less (hostAt hs i) host = true) ∧ Hid (∀ i, hi ≤ i → i < n → less (hostAt hs i) host = false)) (fun s7 s8 => (intOf s8 - intOf s7).toNat)
  case atStart => exact ⟨0, n, rfl, rfl, by omega, by omega, fun i hi => absurd hi (by omega), fun i h1 h2 => absurd h1 (by omega)⟩
  case round =>
    obtain ⟨lo, hi, rfl, rfl, h1, h2, H1, H2⟩ := hrel
    by_cases hlt : lo < hi
    · obtain ⟨b, off, rfl, hbs, hc⟩ := hh.strs (by rw [l1.out]; omega)
      have hm := hc (lo + (hi - lo) / 2) (by rw [l1.out]; omega)
      clear hc
      go_wp2
      · go_round
        case rel => exact ⟨lo + (hi - lo) / 2 + 1, hi, by go_num, rfl, by omega, h2, search_up hv (by rw [l1.out]; omega) ‹_›, H2⟩
        case measure => simp [intOf]; omega
      · go_round
        case rel => exact ⟨lo, lo + (hi - lo) / 2, rfl, by go_num, by omega, by omega, H1, fun i a b => search_down hv (by simpa [less] using ‹Op.bytesLess _ _ = false›) i a (by rw [l1.out]; exact b)⟩
        case measure => simp [intOf]; omega
    · obtain rfl : lo = hi := by omega
      by_cases hln : lo < n
      · obtain ⟨b, off, rfl, hbs, hc⟩ := hh.strs (by rw [l1.out]; omega)
        obtain ⟨b2, off2, rfl, hbs2, hc2⟩ := hn.u64s (by rw [l2.out]; omega)
        have hm := hc lo (by rw [l1.out]; omega)
        have hm2 := hc2 lo (by rw [l2.out]; omega)
        clear hc hc2
        go_wp2
        · go_ret
          exact ⟨ret_int (search_hit hv (m := lo) (by rw [l1.out]; exact hln) (toList_inj (beq_iff_eq.1 ‹_›))).symm, rfl⟩
        · go_ret
          exact ⟨ret_int (search_miss hv (m := lo) H1.out (fun i a b => H2.out i a (by rw [← l1.out]; exact b)) (fun _ => ne_of_beq ‹_›)).symm, rfl⟩
      · go_wp2
        go_ret
        exact ⟨ret_int (search_miss hv (m := lo) H1.out (fun i a b => H2.out i a (by rw [← l1.out]; exact b)) (fun h => absurd h (by rw [l1.out]; exact hln))).symm, rfl⟩
end Go.Proofs.Qxb6604248a
