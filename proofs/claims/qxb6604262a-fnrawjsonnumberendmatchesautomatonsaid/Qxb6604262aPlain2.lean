/-
  THE PLAIN LAW of FnRawjsonNumberEndReadsFormattedInteger.
-/
import Derived.Test.Qxb6604262aPlain
namespace Go.Proofs.Qxb6604262a.Plain

/-- A written integer of L bytes: perhaps a minus, digits, no leading zero. -/
structure Fmt (T : Nat → Int) (L : Nat) : Prop where
  form : ∃ s, s ≤ 1 ∧ s < L ∧ (s = 1 → T 0 = 45) ∧ (∀ k, s ≤ k → k < L → isD (T k) = true) ∧ (T s = 48 → L = s + 1)

theorem isD_ne {c : Int} (h : isD c = true) : 48 ≤ c ∧ c ≤ 57 := by simpa [isD] using h

theorem frac_stop {T : Nat → Int} {n L : Nat} (hs : L < n → isD (T L) = false ∧ T L ≠ 46 ∧ T L ≠ 101 ∧ T L ≠ 69) : frac T n L = (L : Int) := by
  unfold frac
  rw [if_neg (fun a => (hs a.1).2.1 a.2)]
  unfold expo
  rw [if_neg (fun a => a.2.elim (hs a.1).2.2.1 (hs a.1).2.2.2)]

theorem fmt_num {T : Nat → Int} {n L : Nat} (h : Fmt T L) (hL : L ≤ n) (hs : L < n → isD (T L) = false ∧ T L ≠ 46 ∧ T L ≠ 101 ∧ T L ≠ 69) : numE T n 0 = (L : Int) := by
  obtain ⟨s, h1, h2, h3, h4, h5⟩ := h.form
  have hst : (if T 0 = 45 then 0 + 1 else 0) = s := by
    by_cases e : s = 1
    · rw [if_pos (h3 e), e]
    · have e0 : s = 0 := by omega
      have := isD_ne (h4 0 (by omega) (by omega))
      rw [if_neg (by omega), e0]
  unfold numE
  rw [hst]
  unfold intg
  rw [if_neg (by omega)]
  by_cases c : T s = 48
  · rw [if_pos c, ← h5 c]
    exact frac_stop hs
  · rw [if_neg c]
    have hd := isD_ne (h4 s (Nat.le_refl _) h2)
    rw [if_pos (by omega), rn_eq (e := L) ⟨by omega, hL, h4, fun hl => (hs hl).1⟩]
    exact frac_stop hs

theorem Fmt.congr {T U : Nat → Int} {L : Nat} (h : Fmt T L) (e : ∀ k, k < L → U k = T k) : Fmt U L := by
  obtain ⟨s, h1, h2, h3, h4, h5⟩ := h.form
  exact ⟨s, h1, h2, fun a => by rw [e 0 (by omega)]; exact h3 a, fun k a b => by rw [e k b]; exact h4 k a b, fun a => h5 (by rw [← e s h2]; exact a)⟩

end Go.Proofs.Qxb6604262a.Plain
