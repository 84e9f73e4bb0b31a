/-
  THE WALKS of fspHasPrefix (13), stringslite.HasPrefix (17), strings.HasPrefix (15), fspOpensExpression (14), findExpression (16).
-/
import Derived.Test.Qxb6602667aRows
import Derived.Test.Qxb6602667aPlain
import Derived.WalkKit
import Derived.WalkSpells
import Derived.WalkLawsBesides
namespace Go.Proofs.Qxb6602667a
open Go.RowKit Plain

theorem ret_int {k : IntKind} {a b : Int} (h : a = b) : Ending.returned (.int k a) = .returned (.int k b) := by rw [h]
theorem ret_bool {a b : Bool} (h : a = b) : Ending.returned (.bool a) = .returned (.bool b) := by rw [h]

set_option maxRecDepth 10000 in
set_option maxHeartbeats 400000 in
theorem pre13_any (a : ByteArray) (x y : UInt8) (w : World) (b : Bool) (hs : a.size ≤ 9223372036854775807) (hb : pre a [x, y] = b) : Calls Try.prog 13 #[.string a, .string ⟨#[x, y]⟩] w fun e w' => e = .returned (.bool b) ∧ w' = w := by
  by_cases h : 2 ≤ a.size
  · have H : Hid (b = ((a.extract 0 2).toList == [x, y])) := by rw [← hb]; simp [Hid, pre, h]
    clear hb
    go_enter Try.func13, Try.ntmps13
    go_wp2
    go_ret
    exact ⟨ret_bool (by rw [H.out]), rfl⟩
  · have H : Hid (b = false) := by rw [← hb]; simp [Hid, pre, h]
    clear hb
    go_enter Try.func13, Try.ntmps13
    go_wp2
    go_ret
    exact ⟨ret_bool (by rw [H.out]), rfl⟩

set_option maxRecDepth 10000 in
set_option maxHeartbeats 400000 in
theorem pre17_any (a : ByteArray) (x y : UInt8) (w : World) (b : Bool) (hs : a.size ≤ 9223372036854775807) (hb : pre a [x, y] = b) : Calls Try.prog 17 #[.string a, .string ⟨#[x, y]⟩] w fun e w' => e = .returned (.bool b) ∧ w' = w := by
  by_cases h : 2 ≤ a.size
  · have H : Hid (b = ((a.extract 0 2).toList == [x, y])) := by rw [← hb]; simp [Hid, pre, h]
    clear hb
    go_enter Try.func17, Try.ntmps17
    go_wp2
    go_ret
    exact ⟨ret_bool (by rw [H.out]), rfl⟩
  · have H : Hid (b = false) := by rw [← hb]; simp [Hid, pre, h]
    clear hb
    go_enter Try.func17, Try.ntmps17
    go_wp2
    go_ret
    exact ⟨ret_bool (by rw [H.out]), rfl⟩

set_option maxRecDepth 10000 in
set_option maxHeartbeats 400000 in
theorem pre15_any (a : ByteArray) (x y : UInt8) (w : World) (b : Bool) (hs : a.size ≤ 9223372036854775807) (hb : pre a [x, y] = b) : Calls Try.prog 15 #[.string a, .string ⟨#[x, y]⟩] w fun e w' => e = .returned (.bool b) ∧ w' = w := by
  go_enter Try.func15, Try.ntmps15
  go_wp2_with fail
  refine (pre17_any a x y _ b hs hb).mono ?_
  rintro e wz ⟨rfl, hw⟩
  subst wz
  go_wp2_with fail
  go_ret
  exact ⟨rfl, rfl⟩

theorem dash_int {a : ByteArray} (h : 2 ≤ a.size) (h0 : 0 < a.size) : (((a[0]'h0).toNat : Int) == 45) = dash a := by
  unfold dash
  rw [dif_pos h, Bool.eq_iff_iff, beq_iff_eq, beq_iff_eq]
  omega
theorem dash_small {a : ByteArray} (h : ¬ 2 ≤ a.size) : dash a = false := by unfold dash; rw [dif_neg h]

set_option maxRecDepth 10000 in
set_option maxHeartbeats 1000000 in
theorem opn14_any (a : ByteArray) (w : World) (b : Bool) (hs : a.size ≤ 9223372036854775807) (hb : opn a = b) : Calls Try.prog 14 #[.string a] w fun e w' => e = .returned (.bool b) ∧ w' = w := by
  rcases h40 : (a.toList == [40]) with _ | _
  · rcases h41 : (a.toList == [41]) with _ | _
    · rcases h33 : (a.toList == [33]) with _ | _
      · rcases h44 : (a.toList == [44]) with _ | _
        · by_cases h : 2 ≤ a.size
          · have h0 : 0 < a.size := by omega
            rcases hd : dash a with _ | _
            · have td : (((a[0]'h0).toNat : Int) == 45) = false := (dash_int h h0).trans hd
              have H : Hid (b = false) := by rw [← hb]; simp [Hid, opn, h40, h41, h33, h44, hd]
              clear hb
              go_enter Try.func14, Try.ntmps14
              go_wp2
              go_ret
              exact ⟨ret_bool (by rw [H.out]), rfl⟩
            · have td : (((a[0]'h0).toNat : Int) == 45) = true := (dash_int h h0).trans hd
              have H : Hid (b = true) := by rw [← hb]; simp [Hid, opn, hd]
              clear hb
              go_enter Try.func14, Try.ntmps14
              go_wp2
              go_ret
              exact ⟨ret_bool (by rw [H.out]), rfl⟩
          · have hd := dash_small h
            have H : Hid (b = false) := by rw [← hb]; simp [Hid, opn, h40, h41, h33, h44, hd]
            clear hb
            go_enter Try.func14, Try.ntmps14
            go_wp2
            go_ret
            exact ⟨ret_bool (by rw [H.out]), rfl⟩
        · have H : Hid (b = true) := by rw [← hb]; simp [Hid, opn, h44]
          clear hb
          go_enter Try.func14, Try.ntmps14
          go_wp2
          go_ret
          exact ⟨ret_bool (by rw [H.out]), rfl⟩
      · have H : Hid (b = true) := by rw [← hb]; simp [Hid, opn, h33]
        clear hb
        go_enter Try.func14, Try.ntmps14
        go_wp2
        go_ret
        exact ⟨ret_bool (by rw [H.out]), rfl⟩
    · have H : Hid (b = true) := by rw [← hb]; simp [Hid, opn, h41]
      clear hb
      go_enter Try.func14, Try.ntmps14
      go_wp2
      go_ret
      exact ⟨ret_bool (by rw [H.out]), rfl⟩
  · have H : Hid (b = true) := by rw [← hb]; simp [Hid, opn, h40]
    clear hb
    go_enter Try.func14, Try.ntmps14
    go_wp2
    go_ret
    exact ⟨ret_bool (by rw [H.out]), rfl⟩

set_option maxRecDepth 10000 in
set_option maxHeartbeats 1000000 in
theorem opn16_any (a : ByteArray) (w : World) (b : Bool) (hs : a.size ≤ 9223372036854775807) (hb : opn a = b) : Calls Try.prog 16 #[.string a] w fun e w' => e = .returned (.bool b) ∧ w' = w := by
  by_cases h : 2 ≤ a.size
  · have h0 : 0 < a.size := by omega
    rcases hd : dash a with _ | _
    · have td : (((a[0]'h0).toNat : Int) == 45) = false := (dash_int h h0).trans hd
      rcases h40 : (a.toList == [40]) with _ | _
      · rcases h41 : (a.toList == [41]) with _ | _
        · rcases h33 : (a.toList == [33]) with _ | _
          · rcases h44 : (a.toList == [44]) with _ | _
            · have H : Hid (b = false) := by rw [← hb]; simp [Hid, opn, hd, h40, h41, h33, h44]
              clear hb
              go_enter Try.func16, Try.ntmps16
              go_wp2
              go_ret
              exact ⟨ret_bool (by rw [H.out]), rfl⟩
            · have H : Hid (b = true) := by rw [← hb]; simp [Hid, opn, h44]
              clear hb
              go_enter Try.func16, Try.ntmps16
              go_wp2
              go_ret
              exact ⟨ret_bool (by rw [H.out]), rfl⟩
          · have H : Hid (b = true) := by rw [← hb]; simp [Hid, opn, h33]
            clear hb
            go_enter Try.func16, Try.ntmps16
            go_wp2
            go_ret
            exact ⟨ret_bool (by rw [H.out]), rfl⟩
        · have H : Hid (b = true) := by rw [← hb]; simp [Hid, opn, h41]
          clear hb
          go_enter Try.func16, Try.ntmps16
          go_wp2
          go_ret
          exact ⟨ret_bool (by rw [H.out]), rfl⟩
      · have H : Hid (b = true) := by rw [← hb]; simp [Hid, opn, h40]
        clear hb
        go_enter Try.func16, Try.ntmps16
        go_wp2
        go_ret
        exact ⟨ret_bool (by rw [H.out]), rfl⟩
    · have td : (((a[0]'h0).toNat : Int) == 45) = true := (dash_int h h0).trans hd
      have H : Hid (b = true) := by rw [← hb]; simp [Hid, opn, hd]
      clear hb
      go_enter Try.func16, Try.ntmps16
      go_wp2
      go_ret
      exact ⟨ret_bool (by rw [H.out]), rfl⟩
  · have hd := dash_small h
    rcases h40 : (a.toList == [40]) with _ | _
    · rcases h41 : (a.toList == [41]) with _ | _
      · rcases h33 : (a.toList == [33]) with _ | _
        · rcases h44 : (a.toList == [44]) with _ | _
          · have H : Hid (b = false) := by rw [← hb]; simp [Hid, opn, hd, h40, h41, h33, h44]
            clear hb
            go_enter Try.func16, Try.ntmps16
            go_wp2
            go_ret
            exact ⟨ret_bool (by rw [H.out]), rfl⟩
          · have H : Hid (b = true) := by rw [← hb]; simp [Hid, opn, h44]
            clear hb
            go_enter Try.func16, Try.ntmps16
            go_wp2
            go_ret
            exact ⟨ret_bool (by rw [H.out]), rfl⟩
        · have H : Hid (b = true) := by rw [← hb]; simp [Hid, opn, h33]
          clear hb
          go_enter Try.func16, Try.ntmps16
          go_wp2
          go_ret
          exact ⟨ret_bool (by rw [H.out]), rfl⟩
      · have H : Hid (b = true) := by rw [← hb]; simp [Hid, opn, h41]
        clear hb
        go_enter Try.func16, Try.ntmps16
        go_wp2
        go_ret
        exact ⟨ret_bool (by rw [H.out]), rfl⟩
    · have H : Hid (b = true) := by rw [← hb]; simp [Hid, opn, h40]
      clear hb
      go_enter Try.func16, Try.ntmps16
      go_wp2
      go_ret
      exact ⟨ret_bool (by rw [H.out]), rfl⟩

end Go.Proofs.Qxb6602667a
