/-
  THE WALKS of the four zzBytes: each answers some bool and leaves the world as it was.
-/
import Derived.Test.Qxb6604248aLookup
namespace Go.Proofs.Qxb6604248a
open Go.RowKit Plain

/-- Some bool; nothing has turned. -/
def AnyB (w : World) (e : Ending) (w' : World) : Prop := (∃ b, e = .returned (.bool b)) ∧ w' = w

theorem size_at (hs : List ByteArray) (k : Nat) (h : ∀ s ∈ hs, s.size ≤ maxLen) : (hostAt hs k).size ≤ 9223372036854775807 := by
  by_cases hk : k < hs.length
  · exact h _ (by simp [hostAt, hk])
  · have : hostAt hs k = ByteArray.empty := by unfold hostAt; rw [List.getD_eq_getElem?_getD, List.getElem?_eq_none (by omega)]; rfl
    rw [this]
    show 0 ≤ _
    omega

set_option maxHeartbeats 1000000 in
theorem zz9_any (ha : List ByteArray) (pa qa : Option Addr) (la ma ca da : Nat) (hb : List ByteArray) (pb qb : Option Addr) (lb mb cb db : Nat) (w : World) (va : RowV w pa (strs ha)) (ea : Hid (ha.length = la)) (Ba : la ≤ maxLen) (Ca : ma ≤ maxLen) (Da : Hid (∀ s ∈ ha, s.size ≤ maxLen)) (vb : RowV w pb (strs hb)) (eb : Hid (hb.length = lb)) (Bb : lb ≤ maxLen) (Cb : mb ≤ maxLen) (Db : Hid (∀ s ∈ hb, s.size ≤ maxLen)) :
    Calls Try.prog 9 #[.slice pa la ca, .slice qa ma da, .slice pb lb cb, .slice qb mb db] w fun e w' => AnyB w e w' := by
  unfold maxLen at Ba Ca Bb Cb
  go_enter Try.func9, Try.ntmps9
  go_wp2
  all_goals first | (go_ret; exact ⟨⟨_, rfl⟩, rfl⟩) | skip
  go_loop [9, 10] (fun s t => ∃ (z : Int) (k : Nat), s = .int .i64 z ∧ t = .int .i64 k ∧ k ≤ la ∧ 0 ≤ z ∧ z ≤ 1048576) (fun _ t => la - (intOf t).toNat)
  case atStart => exact ⟨_, 0, rfl, rfl, by omega, by omega, by omega⟩
  case round =>
    obtain ⟨z, k, rfl, rfl, h1, h2, h3⟩ := hrel
    by_cases hlt : k < la
    · obtain ⟨b, off, rfl, hbs, hcell⟩ := va.strs (by rw [ea.out]; omega)
      have hm := hcell k (by rw [ea.out]; omega)
      have hz := size_at ha k Da.out
      clear hcell
      go_wp2
      · go_ret
        exact ⟨⟨_, rfl⟩, rfl⟩
      · go_ret
        exact ⟨⟨_, rfl⟩, rfl⟩
      · go_round
        case rel => exact ⟨_, k + 1, rfl, by go_num, by omega, by omega, by assumption⟩
        case measure => simp [intOf]; omega
    · go_wp2
      all_goals first | (go_ret; exact ⟨⟨_, rfl⟩, rfl⟩) | skip
      go_loop [9, 11] (fun s t => ∃ (z : Int) (k : Nat), s = .int .i64 z ∧ t = .int .i64 k ∧ k ≤ lb ∧ 0 ≤ z ∧ z ≤ 1048576) (fun _ t => lb - (intOf t).toNat)
      case atStart => exact ⟨_, 0, rfl, rfl, by omega, by omega, by omega⟩
      case round =>
        obtain ⟨z, k, rfl, rfl, h1, h2, h3⟩ := hrel
        by_cases hlt : k < lb
        · obtain ⟨b, off, rfl, hbs, hcell⟩ := vb.strs (by rw [eb.out]; omega)
          have hm := hcell k (by rw [eb.out]; omega)
          have hz := size_at hb k Db.out
          clear hcell
          go_wp2
          · go_ret
            exact ⟨⟨_, rfl⟩, rfl⟩
          · go_ret
            exact ⟨⟨_, rfl⟩, rfl⟩
          · go_round
            case rel => exact ⟨_, k + 1, rfl, by go_num, by omega, by omega, by assumption⟩
            case measure => simp [intOf]; omega
        · go_wp2
          all_goals (go_ret; exact ⟨⟨_, rfl⟩, rfl⟩)

set_option maxHeartbeats 1000000 in
theorem zz17_any (ha : List ByteArray) (pa qa : Option Addr) (la ma ca da : Nat) (hb : List ByteArray) (pb qb : Option Addr) (lb mb cb db : Nat) (w : World) (va : RowV w pa (strs ha)) (ea : Hid (ha.length = la)) (Ba : la ≤ maxLen) (Ca : ma ≤ maxLen) (Da : Hid (∀ s ∈ ha, s.size ≤ maxLen)) (vb : RowV w pb (strs hb)) (eb : Hid (hb.length = lb)) (Bb : lb ≤ maxLen) (Cb : mb ≤ maxLen) (Db : Hid (∀ s ∈ hb, s.size ≤ maxLen)) :
    Calls Try.prog 17 #[.slice pa la ca, .slice qa ma da, .slice pb lb cb, .slice qb mb db] w fun e w' => AnyB w e w' := by
  unfold maxLen at Ba Ca Bb Cb
  go_enter Try.func17, Try.ntmps17
  go_wp2
  all_goals first | (go_ret; exact ⟨⟨_, rfl⟩, rfl⟩) | skip
  go_loop [9, 10] (fun s t => ∃ (z : Int) (k : Nat), s = .int .i64 z ∧ t = .int .i64 k ∧ k ≤ la ∧ 0 ≤ z ∧ z ≤ 1048576) (fun _ t => la - (intOf t).toNat)
  case atStart => exact ⟨_, 0, rfl, rfl, by omega, by omega, by omega⟩
  case round =>
    obtain ⟨z, k, rfl, rfl, h1, h2, h3⟩ := hrel
    by_cases hlt : k < la
    · obtain ⟨b, off, rfl, hbs, hcell⟩ := va.strs (by rw [ea.out]; omega)
      have hm := hcell k (by rw [ea.out]; omega)
      have hz := size_at ha k Da.out
      clear hcell
      go_wp2
      · go_ret
        exact ⟨⟨_, rfl⟩, rfl⟩
      · go_ret
        exact ⟨⟨_, rfl⟩, rfl⟩
      · go_round
        case rel => exact ⟨_, k + 1, rfl, by go_num, by omega, by omega, by assumption⟩
        case measure => simp [intOf]; omega
    · go_wp2
      all_goals first | (go_ret; exact ⟨⟨_, rfl⟩, rfl⟩) | skip
      go_loop [9, 11] (fun s t => ∃ (z : Int) (k : Nat), s = .int .i64 z ∧ t = .int .i64 k ∧ k ≤ lb ∧ 0 ≤ z ∧ z ≤ 1048576) (fun _ t => lb - (intOf t).toNat)
      case atStart => exact ⟨_, 0, rfl, rfl, by omega, by omega, by omega⟩
      case round =>
        obtain ⟨z, k, rfl, rfl, h1, h2, h3⟩ := hrel
        by_cases hlt : k < lb
        · obtain ⟨b, off, rfl, hbs, hcell⟩ := vb.strs (by rw [eb.out]; omega)
          have hm := hcell k (by rw [eb.out]; omega)
          have hz := size_at hb k Db.out
          clear hcell
          go_wp2
          · go_ret
            exact ⟨⟨_, rfl⟩, rfl⟩
          · go_ret
            exact ⟨⟨_, rfl⟩, rfl⟩
          · go_round
            case rel => exact ⟨_, k + 1, rfl, by go_num, by omega, by omega, by assumption⟩
            case measure => simp [intOf]; omega
        · go_wp2
          all_goals (go_ret; exact ⟨⟨_, rfl⟩, rfl⟩)

end Go.Proofs.Qxb6604248a
