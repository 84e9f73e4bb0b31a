/-
  THE WALK of ZZVector (15): the entries of two lists.
-/
import Derived.Test.Qxb6604248aLookup
import Derived.Deep.QuietTactic
import Derived.BigQuiet
import Derived.BigRegion
import Derived.Deep.RegionLaw
import Derived.Deep.RegionLawGrows
namespace Go.Proofs.Qxb6604248a
open Go.RowKit Plain

theorem Try.info47 : (Try.prog.info? 47).map (fun i => (i.zero, i.size, i.bytes)) = some (some (.agg #[.string ByteArray.empty, .int .u64 0]), 2, 24) := by kernel_rfl

/-- A result that is a vector of n entries whose cells are cs; what was there is as it was. -/
def FreshV (w : World) (es : List Ent) (e : Ending) (w' : World) : Prop := ∃ ao n c, e = .returned (.agg #[.slice ao n c]) ∧ es.length = n ∧ n ≤ c ∧ RowV w' ao (ents es) ∧ Below w.heap.size w w' ∧ (∀ a, ao = some a → w.heap.size ≤ a.block)

/-- append into an own row with room, as one step of a region that draws. -/
theorem step_append_fits {P : Program} {ops : Array Oper} {o : Oper} {a : Act} {w : World} {K : Act → World → Prop} {Q : Exit → Act → World → Prop} {E : Prop}
    (hg : o.guard = none) (s x : Operand) (t : TypeId) (hop : o.op = Op.call { callee := Callee.builtin Builtin.append, args := #[s, x], argTypes := #[t, t] })
    (base : Nat) (e : TypeId) (i : TypeInfo) (size : Nat) (h1 : P.underlying t = some (.slice e)) (h2 : P.info? e = some i) (h4 : i.size = size)
    (g k cap : Nat) (xs : List Value) (hs : a.eval s = .slice (some ⟨g, 0, none⟩) k cap) (hown : w.ownsRow base e size (.slice (some ⟨g, 0, none⟩) k cap) k xs) (ad : Addr) (m c : Nat) (news : List Value) (hx : a.eval x = .slice (some ad) m c) (hn : news.length = m * size)
    (hc : ∀ j u, news[j]? = some u → w.cell? (ad.add j) = some u) (h1c : ∀ u ∈ news, u.oneCell' = true) (b1 : k + m ≤ cap)
    (hK : ∀ w', w'.ownsRow base e size (.slice (some ⟨g, 0, none⟩) (k + m) cap) (k + m) (xs ++ news) → w.grownBy w' (some g) → K (a.put o.dst (.slice (some ⟨g, 0, none⟩) (k + m) cap)) w') :
    if Region.wanted o (yielded ops a.tmps) = true then Oper.wp P o a w K Q else E := by
  have hw : Region.wanted o (yielded ops a.tmps) = true := by simp [Region.wanted, hg]
  rw [if_pos hw]
  obtain ⟨w', hrun, r1, r2⟩ := run_append_fits (P := P) w base t o.type e i size h1 h2 h4 g k cap xs hown ad m c news hn hc h1c b1
  unfold Oper.wp
  simp [execOp, hop, resolve, invoke, builtin, hs, hx, hrun, Result.andThen]
  exact hK w' r1 r2

theorem ents_snoc (es : List Ent) (h : ByteArray) (n : Int) : ents (es ++ [(h, n)]) = ents es ++ [.string h, .int .u64 n] := by simp [ents]
theorem zip_take {hs : List ByteArray} {ns : List Int} {k : Nat} (hl : hs.length = ns.length) (hk : k < hs.length) : (hs.zip ns).take (k + 1) = (hs.zip ns).take k ++ [(hostAt hs k, numAt ns k)] := by
  obtain ⟨h, e⟩ := zip_at hl hk
  rw [List.take_succ_eq_append_getElem h, e]

theorem two_new (wr : World) (x y : Value) (t : TypeId) : ∀ j u, [x, y][j]? = some u → (wr.alloc (.cells #[x, y] t)).cell? ((⟨wr.heap.size, 0, none⟩ : Addr).add j) = some u := by
  intro j u hj
  match j, hj with
  | 0, hj => simp at hj; subst hj; simp [Addr.add]
  | 1, hj => simp at hj; subst hj; simp [Addr.add]

theorem two_one (h : ByteArray) (n : Int) : ∀ u ∈ [Value.string h, Value.int .u64 n], u.oneCell' = true := by
  intro u hu
  simp at hu
  rcases hu with rfl | rfl <;> rfl

/-- What an own row gives to a reader. -/
theorem own_row {w : World} {base e g n c : Nat} {size : Nat} {xs : List Value} (h : w.ownsRow base e size (.slice (some ⟨g, 0, none⟩) n c) n xs) : RowV w (some ⟨g, 0, none⟩) xs := by
  refine ⟨.inr ⟨g, 0, rfl, (h.lt g rfl).2, fun i hi => ?_⟩⟩
  have := h.cells (g := g) rfl i xs[i] (by simp [hi])
  rw [Addr.add_lit] at this
  simpa [hi] using this

set_option maxRecDepth 10000 in
set_option maxHeartbeats 1000000 in
theorem zzVector_any (n : Nat) (hs : List ByteArray) (ns : List Int) (ah an : Option Addr) (ch cn : Nat) (w : World) (hh : RowV w ah (strs hs)) (hn : RowV w an (u64s ns)) (l1 : Hid (hs.length = n)) (l2 : Hid (ns.length = n)) (n1 : n ≤ 1048576) :
    Calls Try.prog 15 #[.slice ah n ch, .slice an n cn] w fun e w' => FreshV w (hs.zip ns) e w' := by
  obtain ⟨i0, hi, hz0, hz1, hz2⟩ := info_parts Try.info47
  go_enter Try.func15, Try.ntmps15
  go_wp2_with (at_make; refine wpList_make_own _ rfl _ _ 31 rfl (w.heap.size + 1) 47 i0 _ 2 Try.underlying31 hi hz0 hz1 _ _ _ n rfl rfl rfl (by rw [hz2]; omega) (by unfold maxLen; omega) (by simp) ?_)
  intro w1 hown hgrow
  go_wp2
  go_loopw [5, 6] (fun s5 s6 wr => ∃ k : Nat, s6 = .int .i64 k ∧ k ≤ n ∧ s5 = .slice (some ⟨w.heap.size + 1, 0, none⟩) k n ∧ wr.ownsRow (w.heap.size + 1) 47 2 (.slice (some ⟨w.heap.size + 1, 0, none⟩) k n) k (ents ((hs.zip ns).take k)) ∧ Below (w.heap.size + 1) (w.alloc (.cells #[.slice none 0 0] 33)) wr) (fun _ s _ => n - (intOf s).toNat)
  case atStart => exact ⟨0, rfl, by omega, rfl, hown, (Below.refl _ _).grown hgrow (by simp) (fun k hk => by cases hk)⟩
  case round =>
    obtain ⟨k, rfl, h1, rfl, hrow, hbel⟩ := hrel
    by_cases hlt : k < n
    · replace hh := (hh.below ((Below.refl _ _).alloc (Nat.le_refl _) (.cells #[.slice none 0 0] 33))).below (hbel.mono (by simp))
      replace hn := (hn.below ((Below.refl _ _).alloc (Nat.le_refl _) (.cells #[.slice none 0 0] 33))).below (hbel.mono (by simp))
      obtain ⟨b, off, rfl, hbs, hc⟩ := hh.strs (by rw [l1.out]; omega)
      obtain ⟨b2, off2, rfl, hbs2, hc2⟩ := hn.u64s (by rw [l2.out]; omega)
      have hm := hc k (by rw [l1.out]; omega)
      have hm2 := hc2 k (by rw [l2.out]; omega)
      clear hc hc2 hgrow hown
      go_wp2
      go_region_law (refine step_append_fits rfl (.tmp 22) (.tmp 32) 31 rfl (w.heap.size + 1) 47 i0 2 Try.underlying31 hi hz1 (w.heap.size + 1) k n _ (by simp [Act.eval]) (by exact hrow.alloc _) ⟨wr.heap.size, 0, none⟩ 1 1 [.string (hostAt hs k), .int .u64 (numAt ns k)] (by simp [Act.eval]) rfl (by exact two_new _ _ _ _) (two_one _ _) hlt ?_; intro w2 hown2 hgrow2)
      all_goals
        have hbel2 : Below (w.heap.size + 1) (w.alloc (.cells #[.slice none 0 0] 33)) w2 := Below.grown (by first | exact (hbel.alloc (by have := hbel.size; simp at this; omega) _).drew | exact hbel.drew.alloc (by have := hbel.size; simp at this ⊢; omega) _) hgrow2 (by have := hbel.size; simp at this ⊢; omega) (fun k hk => by simp at hk; omega)
        rw [← ents_snoc, ← zip_take (by rw [l1.out, l2.out]) (by rw [l1.out]; exact hlt)] at hown2
        clear hrow hbel hgrow2
        go_wp2
        go_roundw
        case rel => exact ⟨k + 1, by go_num, by omega, rfl, hown2, hbel2⟩
        case measure => simp [intOf]; omega
    · have hcell : wr.cell? ⟨w.heap.size, 0, none⟩ = some (.slice none 0 0) := (hbel.cell (p := ⟨w.heap.size, 0, none⟩) (by simp)).trans (by simp)
      have hfz : wr.frozen? ⟨w.heap.size, 0, none⟩ = false := (hbel.frozen (p := ⟨w.heap.size, 0, none⟩) (by simp)).trans (by simp)
      obtain rfl : k = n := by omega
      have hR : FreshV w (hs.zip ns) (.returned (.agg #[.slice (some ⟨w.heap.size + 1, 0, none⟩) k k])) (wr.setCell ⟨w.heap.size, 0, none⟩ (.slice (some ⟨w.heap.size + 1, 0, none⟩) k k)) := by
        refine ⟨_, _, _, rfl, by simp [l1.out, l2.out], Nat.le_refl _, ?_, ?_, fun a ha => by cases ha; exact Nat.le_succ _⟩
        · have := own_row (ownsRow_setCell_below hrow (a := ⟨w.heap.size, 0, none⟩) (by simp) (.slice (some ⟨w.heap.size + 1, 0, none⟩) k k))
          rwa [List.take_of_length_le (by simp [l1.out, l2.out])] at this
        · exact ((((Below.refl _ _).alloc (Nat.le_refl _) _).trans (hbel.mono (by omega))).setCell (by simp) _)
      clear hrow hbel hh hn hown hgrow
      go_wp2
      have hset := World.cell?_setCell_same' wr ⟨w.heap.size, 0, none⟩ (.slice (some ⟨w.heap.size + 1, 0, none⟩) k k) (by rw [hcell]; rfl)
      exact bodyPost_ret (v := .agg #[.slice (some ⟨w.heap.size + 1, 0, none⟩) k k]) (by simp [results, Try.results15, go_sem, hset]) rfl hR

end Go.Proofs.Qxb6604248a
