import Derived.Test.Qxb6604248aZz4
namespace Go.Proofs.Qxb6604248a
open Go.RowKit Plain

set_option maxHeartbeats 1000000 in
theorem zz21_any (ha : List ByteArray) (pa qa : Option Addr) (la ma ca da : Nat) (hb : List ByteArray) (pb qb : Option Addr) (lb mb cb db : Nat) (hc : List ByteArray) (pc qc : Option Addr) (lc mc cc dc : Nat) (w : World) (va : RowV w pa (strs ha)) (ea : Hid (ha.length = la)) (Ba : la ≤ maxLen) (Ca : ma ≤ maxLen) (Da : Hid (∀ s ∈ ha, s.size ≤ maxLen)) (vb : RowV w pb (strs hb)) (eb : Hid (hb.length = lb)) (Bb : lb ≤ maxLen) (Cb : mb ≤ maxLen) (Db : Hid (∀ s ∈ hb, s.size ≤ maxLen)) (vc : RowV w pc (strs hc)) (ec : Hid (hc.length = lc)) (Bc : lc ≤ maxLen) (Cc : mc ≤ maxLen) (Dc : Hid (∀ s ∈ hc, s.size ≤ maxLen)) :
    Calls Try.prog 21 #[.slice pa la ca, .slice qa ma da, .slice pb lb cb, .slice qb mb db, .slice pc lc cc, .slice qc mc dc] w fun e w' => AnyB w e w' := by
  unfold maxLen at Ba Ca Bb Cb Bc Cc
  go_enter Try.func21, Try.ntmps21
  go_wp2
  all_goals first | (go_ret; exact ⟨⟨_, rfl⟩, rfl⟩) | skip
  go_loop [13, 14] (fun s t => ∃ (z : Int) (k : Nat), s = .int .i64 z ∧ t = .int .i64 k ∧ k ≤ la ∧ 0 ≤ z ∧ z ≤ 1048576) (fun _ t => la - (intOf t).toNat)
  case atStart => exact ⟨_, 0, rfl, rfl, by omega, by omega, by omega⟩
  case round =>
    obtain ⟨z, k, rfl, rfl, h1, h2, h3⟩ := hrel
    by_cases hlt : k < la
    · obtain ⟨b, off, rfl, hbs, hcell⟩ := va.strs (by rw [ea.out]; omega)
      have hm := hcell k (by rw [ea.out]; omega)
      have hz := size_at ha k Da.out
      clear hcell
      go_wp2
      · go_ret
        exact ⟨⟨_, rfl⟩, rfl⟩
      · go_ret
        exact ⟨⟨_, rfl⟩, rfl⟩
      · go_round
        case rel => exact ⟨_, k + 1, rfl, by go_num, by omega, by omega, by assumption⟩
        case measure => simp [intOf]; omega
    · go_wp2
      all_goals first | (go_ret; exact ⟨⟨_, rfl⟩, rfl⟩) | skip
      go_loop [13, 15] (fun s t => ∃ (z : Int) (k : Nat), s = .int .i64 z ∧ t = .int .i64 k ∧ k ≤ lb ∧ 0 ≤ z ∧ z ≤ 1048576) (fun _ t => lb - (intOf t).toNat)
      case atStart => exact ⟨_, 0, rfl, rfl, by omega, by omega, by omega⟩
      case round =>
        obtain ⟨z, k, rfl, rfl, h1, h2, h3⟩ := hrel
        by_cases hlt : k < lb
        · obtain ⟨b, off, rfl, hbs, hcell⟩ := vb.strs (by rw [eb.out]; omega)
          have hm := hcell k (by rw [eb.out]; omega)
          have hz := size_at hb k Db.out
          clear hcell
          go_wp2
          · go_ret
            exact ⟨⟨_, rfl⟩, rfl⟩
          · go_ret
            exact ⟨⟨_, rfl⟩, rfl⟩
          · go_round
            case rel => exact ⟨_, k + 1, rfl, by go_num, by omega, by omega, by assumption⟩
            case measure => simp [intOf]; omega
        · go_wp2
          all_goals first | (go_ret; exact ⟨⟨_, rfl⟩, rfl⟩) | skip
          go_loop [13, 16] (fun s t => ∃ (z : Int) (k : Nat), s = .int .i64 z ∧ t = .int .i64 k ∧ k ≤ lc ∧ 0 ≤ z ∧ z ≤ 1048576) (fun _ t => lc - (intOf t).toNat)
          case atStart => exact ⟨_, 0, rfl, rfl, by omega, by omega, by omega⟩
          case round =>
            obtain ⟨z, k, rfl, rfl, h1, h2, h3⟩ := hrel
            by_cases hlt : k < lc
            · obtain ⟨b, off, rfl, hbs, hcell⟩ := vc.strs (by rw [ec.out]; omega)
              have hm := hcell k (by rw [ec.out]; omega)
              have hz := size_at hc k Dc.out
              clear hcell
              go_wp2
              · go_ret
                exact ⟨⟨_, rfl⟩, rfl⟩
              · go_ret
                exact ⟨⟨_, rfl⟩, rfl⟩
              · go_round
                case rel => exact ⟨_, k + 1, rfl, by go_num, by omega, by omega, by assumption⟩
                case measure => simp [intOf]; omega
            · go_wp2
              all_goals (go_ret; exact ⟨⟨_, rfl⟩, rfl⟩)

set_option maxHeartbeats 1000000 in
theorem zz23_any (ha : List ByteArray) (pa qa : Option Addr) (la ma ca da : Nat) (hb : List ByteArray) (pb qb : Option Addr) (lb mb cb db : Nat) (hc : List ByteArray) (pc qc : Option Addr) (lc mc cc dc : Nat) (w : World) (va : RowV w pa (strs ha)) (ea : Hid (ha.length = la)) (Ba : la ≤ maxLen) (Ca : ma ≤ maxLen) (Da : Hid (∀ s ∈ ha, s.size ≤ maxLen)) (vb : RowV w pb (strs hb)) (eb : Hid (hb.length = lb)) (Bb : lb ≤ maxLen) (Cb : mb ≤ maxLen) (Db : Hid (∀ s ∈ hb, s.size ≤ maxLen)) (vc : RowV w pc (strs hc)) (ec : Hid (hc.length = lc)) (Bc : lc ≤ maxLen) (Cc : mc ≤ maxLen) (Dc : Hid (∀ s ∈ hc, s.size ≤ maxLen)) :
    Calls Try.prog 23 #[.slice pa la ca, .slice qa ma da, .slice pb lb cb, .slice qb mb db, .slice pc lc cc, .slice qc mc dc] w fun e w' => AnyB w e w' := by
  unfold maxLen at Ba Ca Bb Cb Bc Cc
  go_enter Try.func23, Try.ntmps23
  go_wp2
  all_goals first | (go_ret; exact ⟨⟨_, rfl⟩, rfl⟩) | skip
  go_loop [13, 14] (fun s t => ∃ (z : Int) (k : Nat), s = .int .i64 z ∧ t = .int .i64 k ∧ k ≤ la ∧ 0 ≤ z ∧ z ≤ 1048576) (fun _ t => la - (intOf t).toNat)
  case atStart => exact ⟨_, 0, rfl, rfl, by omega, by omega, by omega⟩
  case round =>
    obtain ⟨z, k, rfl, rfl, h1, h2, h3⟩ := hrel
    by_cases hlt : k < la
    · obtain ⟨b, off, rfl, hbs, hcell⟩ := va.strs (by rw [ea.out]; omega)
      have hm := hcell k (by rw [ea.out]; omega)
      have hz := size_at ha k Da.out
      clear hcell
      go_wp2
      · go_ret
        exact ⟨⟨_, rfl⟩, rfl⟩
      · go_ret
        exact ⟨⟨_, rfl⟩, rfl⟩
      · go_round
        case rel => exact ⟨_, k + 1, rfl, by go_num, by omega, by omega, by assumption⟩
        case measure => simp [intOf]; omega
    · go_wp2
      all_goals first | (go_ret; exact ⟨⟨_, rfl⟩, rfl⟩) | skip
      go_loop [13, 15] (fun s t => ∃ (z : Int) (k : Nat), s = .int .i64 z ∧ t = .int .i64 k ∧ k ≤ lb ∧ 0 ≤ z ∧ z ≤ 1048576) (fun _ t => lb - (intOf t).toNat)
      case atStart => exact ⟨_, 0, rfl, rfl, by omega, by omega, by omega⟩
      case round =>
        obtain ⟨z, k, rfl, rfl, h1, h2, h3⟩ := hrel
        by_cases hlt : k < lb
        · obtain ⟨b, off, rfl, hbs, hcell⟩ := vb.strs (by rw [eb.out]; omega)
          have hm := hcell k (by rw [eb.out]; omega)
          have hz := size_at hb k Db.out
          clear hcell
          go_wp2
          · go_ret
            exact ⟨⟨_, rfl⟩, rfl⟩
          · go_ret
            exact ⟨⟨_, rfl⟩, rfl⟩
          · go_round
            case rel => exact ⟨_, k + 1, rfl, by go_num, by omega, by omega, by assumption⟩
            case measure => simp [intOf]; omega
        · go_wp2
          all_goals first | (go_ret; exact ⟨⟨_, rfl⟩, rfl⟩) | skip
          go_loop [13, 16] (fun s t => ∃ (z : Int) (k : Nat), s = .int .i64 z ∧ t = .int .i64 k ∧ k ≤ lc ∧ 0 ≤ z ∧ z ≤ 1048576) (fun _ t => lc - (intOf t).toNat)
          case atStart => exact ⟨_, 0, rfl, rfl, by omega, by omega, by omega⟩
          case round =>
            obtain ⟨z, k, rfl, rfl, h1, h2, h3⟩ := hrel
            by_cases hlt : k < lc
            · obtain ⟨b, off, rfl, hbs, hcell⟩ := vc.strs (by rw [ec.out]; omega)
              have hm := hcell k (by rw [ec.out]; omega)
              have hz := size_at hc k Dc.out
              clear hcell
              go_wp2
              · go_ret
                exact ⟨⟨_, rfl⟩, rfl⟩
              · go_ret
                exact ⟨⟨_, rfl⟩, rfl⟩
              · go_round
                case rel => exact ⟨_, k + 1, rfl, by go_num, by omega, by omega, by assumption⟩
                case measure => simp [intOf]; omega
            · go_wp2
              all_goals (go_ret; exact ⟨⟨_, rfl⟩, rfl⟩)

end Go.Proofs.Qxb6604248a
