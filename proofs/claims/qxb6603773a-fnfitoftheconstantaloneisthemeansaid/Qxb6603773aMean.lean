import Derived.Test.Qxb6603773aExact
namespace Go.Proofs.Qxb6603773a.Mean
open Ieee Go.Proofs.Qxb6603773a.Rung Go.Proofs.Qxb6603773a.Exact
open Go.Proofs.Qxb6603773a.Add

/-- Equal word for word, or both not a number. -/
def Eqv (a b : Nat) : Prop := a = b ∨ (isNan a ∧ isNan b)
/-- The same, and a word. -/
def Sm (a b : Nat) : Prop := (a = b ∧ b < 2 ^ 64) ∨ (isNan a ∧ isNan b)

theorem Sm.eqv {a b : Nat} (h : Sm a b) : Eqv a b := h.elim (fun h => Or.inl h.1) Or.inr

theorem bits_nan_left {op : BinOp} {x y : Nat} (h : isNan x) : floatBits op .f64 x y = none := by
  obtain ⟨s, t, e⟩ := h
  have e' : FloatKind.f64.format.read x = .nan s t := e
  unfold floatBits
  split
  · unfold Format.add; rw [e']; rfl
  · unfold Format.sub; rw [e']; rfl
  · unfold Format.mul; rw [e']; rfl
  · unfold Format.div; rw [e']; rfl
  · rfl

theorem bits_nan_right {op : BinOp} {x y : Nat} (h : isNan y) : floatBits op .f64 x y = none := by
  obtain ⟨s, t, e⟩ := h
  have e' : FloatKind.f64.format.read y = .nan s t := e
  unfold floatBits
  split
  · unfold Format.add; rw [e']; cases FloatKind.f64.format.read x <;> rfl
  · unfold Format.sub; rw [e']; cases FloatKind.f64.format.read x <;> rfl
  · unfold Format.mul; rw [e']; cases FloatKind.f64.format.read x <;> rfl
  · unfold Format.div; rw [e']; cases FloatKind.f64.format.read x <;> rfl
  · rfl

theorem fop_some {op : BinOp} {x y r r0 : Nat} (h : FOp op x y r) (h0 : floatBits op .f64 x y = some r0) : r = r0 := by
  rcases h with h | h
  · rw [h0] at h; exact (Option.some.inj h).symm
  · rw [h0] at h; cases h.1
theorem fop_none {op : BinOp} {x y r : Nat} (h : FOp op x y r) (h0 : floatBits op .f64 x y = none) : isNan r := by
  rcases h with h | h
  · rw [h0] at h; cases h
  · exact h.2

theorem bits_lt {op : BinOp} {x y r : Nat} (h : floatBits op .f64 x y = some r) : r < 2 ^ 64 := by
  have := floatBits_wf h
  simpa [Lit.wf] using this

/-- The same operation on the same words. -/
theorem fop_sm {op : BinOp} {x y r r' : Nat} (h : FOp op x y r) (h' : FOp op x y r') : Sm r r' := by
  cases hb : floatBits op .f64 x y with
  | some r0 => exact Or.inl ⟨(fop_some h hb).trans (fop_some h' hb).symm, by rw [fop_some h' hb]; exact bits_lt hb⟩
  | none => exact Or.inr ⟨fop_none h hb, fop_none h' hb⟩

/-- One more step of the sum: by 'add' (1*m + 1*y), and plainly (s + y). -/
theorem sum_step {m s y m' s' : Nat} (h : Sm m s) (hy : y < 2 ^ 64) (hE : Ent one one y m m') (hF : FOp .add s y s') : Sm m' s' := by
  obtain ⟨p, q, h1, h2, h3⟩ := hE
  rcases h with ⟨rfl, hs⟩ | ⟨hm, hs⟩
  · rcases word_cases hs with hn | ⟨sg, r, rfl, hr⟩
    · have hp := fop_none h1 (bits_nan_right hn)
      exact Or.inr ⟨fop_none h3 (bits_nan_left hp), fop_none hF (bits_nan_left hn)⟩
    · have ep := fop_some h1 (show floatBits .mul .f64 one _ = some _ from mul_one' hr)
      rcases word_cases hy with hn | ⟨sg2, r2, rfl, hr2⟩
      · have hq := fop_none h2 (bits_nan_right hn)
        exact Or.inr ⟨fop_none h3 (bits_nan_right hq), fop_none hF (bits_nan_right hn)⟩
      · have eq := fop_some h2 (show floatBits .mul .f64 one _ = some _ from mul_one' hr2)
        subst ep eq
        exact fop_sm h3 hF
  · have hp := fop_none h1 (bits_nan_right hm)
    exact Or.inr ⟨fop_none h3 (bits_nan_left hp), fop_none hF (bits_nan_left hs)⟩

/-- The gram matrix of n times the constant alone. -/
def Gs (n : Nat) (G : Nat → Nat) : Prop := G 0 = cnt n ∧ ∀ k, 0 < k → k < 25 → G k = 0
/-- The terms of the constant alone. -/
def xs (k : Nat) : Nat := if k = 0 then one else 0

theorem cnt_word {n : Nat} (hn : n < 2 ^ 53) : ∃ r, cnt n = double.word false r ∧ r ≤ double.infRung := by
  unfold cnt
  by_cases h0 : n = 0
  · rw [if_pos h0]; exact ⟨0, rfl, Nat.zero_le _⟩
  · rw [if_neg h0]; exact ⟨wn n, rfl, Nat.le_of_lt (wn_lt h0 hn)⟩

theorem b1 : floatBits .mul .f64 one one = some one := by decide
theorem b2 : floatBits .mul .f64 one 0 = some 0 := by decide
theorem b3 : floatBits .mul .f64 0 one = some 0 := by decide
theorem b4 : floatBits .mul .f64 0 0 = some 0 := by decide
theorem b5 : floatBits .add .f64 0 0 = some 0 := by decide
theorem b6 : floatBits .sub .f64 0 0 = some 0 := by decide

theorem gram_step {n y : Nat} {G G' : Nat → Nat} (h : Gs n G) (hn : n + 1 < 2 ^ 53) (hU : Upd xs y one 25 30 G G') : Gs (n + 1) G' := by
  refine ⟨?_, fun k h0 hk => ?_⟩
  · obtain ⟨p, q, h1, h2, h3⟩ := (hU 0 (by omega)).1 (Or.inl ⟨by omega, by omega⟩)
    rw [h.1] at h1
    obtain ⟨r, hr, hri⟩ := cnt_word (n := n) (by omega)
    have ep : p = cnt n := fop_some h1 (by rw [hr]; exact mul_one' hri)
    have eq : q = one := fop_some h2 b1
    subst ep eq
    exact fop_some h3 (add_one' hn)
  · obtain ⟨p, q, h1, h2, h3⟩ := (hU k (by omega)).1 (Or.inl ⟨by omega, by omega⟩)
    rw [h.2 k h0 hk] at h1
    have ep : p = 0 := fop_some h1 b2
    have eq : q = 0 := by
      unfold Ul Ur at h2
      rw [if_pos hk, if_pos hk] at h2
      unfold xs at h2
      by_cases ha : k / 5 = 0
      · rw [if_pos ha] at h2
        rw [if_neg (by omega)] at h2
        exact fop_some h2 b2
      · rw [if_neg ha] at h2
        by_cases hb : k % 5 = 0
        · rw [if_pos hb] at h2; exact fop_some h2 b3
        · rw [if_neg hb] at h2; exact fop_some h2 b4
    subst ep eq
    exact fop_some h3 b5

theorem mom_step {y s s' : Nat} {G G' : Nat → Nat} (h : Sm (G 25) s) (hy : y < 2 ^ 64) (hU : Upd xs y one 25 30 G G') (hF : FOp .add s y s') : Sm (G' 25) s' :=
  sum_step h hy ((hU 25 (by omega)).1 (Or.inr ⟨by omega, by omega⟩)) hF

/-- 0 / n. -/
theorem div_cnt {n : Nat} (h0 : n ≠ 0) (hn : n < 2 ^ 53) : floatBits .quo .f64 0 (cnt n) = some 0 := by
  show double.div 0 (cnt n) = some 0
  unfold Format.div
  have hc : cnt n = wn n := by unfold cnt; rw [if_neg h0]
  rw [read_zero, hc, wn_read h0 hn]
  obtain ⟨k1, _, _⟩ := wn_K h0 hn
  simp only [Datum.quotient]
  rw [if_neg (by omega)]
  simp only [Nat.zero_shiftLeft, Nat.zero_div, Nat.zero_mod, Option.map_some, Format.write]
  rfl
/-- 0 * n. -/
theorem mul_cnt {n : Nat} (h0 : n ≠ 0) (hn : n < 2 ^ 53) : floatBits .mul .f64 0 (cnt n) = some 0 := by
  show double.mul 0 (cnt n) = some 0
  unfold Format.mul
  have hc : cnt n = wn n := by unfold cnt; rw [if_neg h0]
  rw [read_zero, hc, wn_read h0 hn]
  simp only [Datum.product, Nat.zero_mul, Option.map_some, Format.write]
  rfl

/-- s - 0. -/
theorem sub_step {b s s' : Nat} (h : Sm s b) (hF : FOp .sub s 0 s') : Sm s' b := by
  rcases h with ⟨rfl, hs⟩ | ⟨h1, h2⟩
  · rcases word_cases hs with hn | ⟨sg, r, rfl, hr⟩
    · exact Or.inr ⟨fop_none hF (bits_nan_left hn), hn⟩
    · have := fop_some hF (show floatBits .sub .f64 _ 0 = some _ from sub_zero' hr)
      exact Or.inl ⟨this, hs⟩
  · exact Or.inr ⟨fop_none hF (bits_nan_left h1), h2⟩

theorem quo_eqv {s b d r r' : Nat} (h : Sm s b) (h1 : FOp .quo s d r) (h2 : FOp .quo b d r') : Eqv r r' := by
  rcases h with ⟨rfl, _⟩ | ⟨hs, hb⟩
  · exact (fop_sm h1 h2).eqv
  · exact Or.inr ⟨fop_none h1 (bits_nan_left hs), fop_none h2 (bits_nan_left hb)⟩

theorem Sm.trans {a b c : Nat} (h : Sm a b) (k : Sm b c) : Sm a c := by
  rcases h with ⟨rfl, _⟩ | ⟨ha, hb⟩
  · exact k
  · rcases k with ⟨rfl, _⟩ | ⟨_, hc⟩
    · exact Or.inr ⟨ha, hb⟩
    · exact Or.inr ⟨ha, hc⟩

/-- 'a == b', or neither equals itself. -/
def same (a b : Nat) : Bool := double.order a b == some .eq || (double.order a a != some .eq && double.order b b != some .eq)

theorem order_nan {a b : Nat} (h : isNan a) : double.order a b = none := by
  obtain ⟨s, t, e⟩ := h
  unfold Format.order
  rw [e]; rfl

theorem order_eq {a : Nat} (h : ¬ isNan a) : double.order a a = some .eq := by
  unfold Format.order
  cases e : double.read a with
  | number s m i => simp only [Datum.order]; congr 1; rw [Int.compare_eq_eq]
  | infinity s => cases s <;> rfl
  | nan s t => exact absurd ⟨s, t, e⟩ h

theorem same_eqv {a b : Nat} (h : Eqv a b) : same a b = true := by
  unfold same
  rcases h with rfl | ⟨ha, hb⟩
  · by_cases hn : isNan a
    · rw [order_nan hn]; rfl
    · rw [order_eq hn]; rfl
  · rw [order_nan ha, order_nan ha, order_nan hb]; rfl

end Go.Proofs.Qxb6603773a.Mean
