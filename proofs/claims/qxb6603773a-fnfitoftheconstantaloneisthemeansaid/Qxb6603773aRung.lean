import Derived.Laws.FloatArith
namespace Go.Proofs.Qxb6603773a.Rung
open Ieee

/-- The value of a finite rung, in units of the least place. -/
def val (r : Nat) : Nat := if r < 2 ^ 52 then r else (2 ^ 52 + r % 2 ^ 52) * 2 ^ (r / 2 ^ 52 - 1)

theorem le_val (r : Nat) : r ≤ val r := by
  unfold val
  split
  · exact Nat.le_refl _
  · rename_i h
    have hq : 0 < r / 2 ^ 52 := by omega
    have h1 : r / 2 ^ 52 ≤ 2 ^ (r / 2 ^ 52 - 1) := by
      have := Nat.lt_two_pow_self (n := r / 2 ^ 52 - 1)
      omega
    have e := Nat.div_add_mod r (2 ^ 52)
    have h2 : 2 ^ 52 * (r / 2 ^ 52) ≤ 2 ^ 52 * 2 ^ (r / 2 ^ 52 - 1) := Nat.mul_le_mul_left _ h1
    have h3 : r % 2 ^ 52 ≤ r % 2 ^ 52 * 2 ^ (r / 2 ^ 52 - 1) := Nat.le_mul_of_pos_right _ (Nat.two_pow_pos _)
    rw [Nat.add_mul]
    omega

/-- Where a number N, cut at t digits, stands on the ladder. -/
theorem rung_le {r N M : Nat} (hN : N ≠ 0) (hM : N.log2 = M) (hv : val r ≤ N) : r ≤ (M - 52) * 2 ^ 52 + N / 2 ^ (M - 52) := by
  by_cases h : M ≤ 52
  · have : M - 52 = 0 := by omega
    rw [this]
    have := le_val r
    simp
    omega
  · obtain ⟨t, rfl⟩ : ∃ t, M = t + 52 := ⟨M - 52, by omega⟩
    rw [Nat.add_sub_cancel]
    have hlo : 2 ^ (t + 52) ≤ N := by have := Nat.log2_self_le hN; rw [hM] at this; exact this
    have hhi : N < 2 ^ (t + 52 + 1) := by have := Nat.lt_log2_self (n := N); rw [hM] at this; exact this
    have hB : 2 ^ 52 ≤ N / 2 ^ t := by
      rw [Nat.le_div_iff_mul_le (Nat.two_pow_pos _), ← Nat.pow_add, Nat.add_comm]
      exact hlo
    have e := Nat.div_add_mod r (2 ^ 52)
    have hm := Nat.mod_lt r (Nat.two_pow_pos 52)
    by_cases hq : r / 2 ^ 52 ≤ t
    · have : 2 ^ 52 * (r / 2 ^ 52) ≤ 2 ^ 52 * t := Nat.mul_le_mul_left _ hq
      rw [Nat.mul_comm t]
      omega
    · have hr : ¬ r < 2 ^ 52 := by omega
      unfold val at hv
      rw [if_neg hr] at hv
      by_cases hq2 : r / 2 ^ 52 = t + 1
      · rw [hq2, Nat.add_sub_cancel] at hv
        have := (Nat.le_div_iff_mul_le (Nat.two_pow_pos t)).2 hv
        rw [hq2, Nat.mul_add] at e
        rw [Nat.mul_comm t]
        omega
      · exfalso
        have h2 : 2 ^ (t + 1) ≤ 2 ^ (r / 2 ^ 52 - 1) := Nat.pow_le_pow_right (by decide) (by omega)
        have h3 : 2 ^ 52 * 2 ^ (t + 1) ≤ (2 ^ 52 + r % 2 ^ 52) * 2 ^ (r / 2 ^ 52 - 1) := Nat.mul_le_mul (Nat.le_add_right _ _) h2
        rw [← Nat.pow_add, show 52 + (t + 1) = t + 52 + 1 by omega] at h3
        omega

/-- The value of a rung grows. -/
theorem val_mono {r s : Nat} (h : r ≤ s) : val r ≤ val s := by
  unfold val
  split
  · split
    · exact h
    · have : 2 ^ 52 + s % 2 ^ 52 ≤ (2 ^ 52 + s % 2 ^ 52) * 2 ^ (s / 2 ^ 52 - 1) := Nat.le_mul_of_pos_right _ (Nat.two_pow_pos _)
      omega
  · have hs : ¬ s < 2 ^ 52 := by omega
    rw [if_neg hs]
    have hd := Nat.div_le_div_right (c := 2 ^ 52) h
    by_cases hq : r / 2 ^ 52 = s / 2 ^ 52
    · rw [hq]
      refine Nat.mul_le_mul_right _ ?_
      have e1 := Nat.div_add_mod r (2 ^ 52)
      have e2 := Nat.div_add_mod s (2 ^ 52)
      rw [hq] at e1
      omega
    · have hm := Nat.mod_lt r (Nat.two_pow_pos 52)
      have h1 : (2 ^ 52 + r % 2 ^ 52) * 2 ^ (r / 2 ^ 52 - 1) ≤ 2 ^ (52 + 1) * 2 ^ (r / 2 ^ 52 - 1) := Nat.mul_le_mul_right _ (by omega)
      have h2 : 2 ^ (52 + 1) * 2 ^ (r / 2 ^ 52 - 1) ≤ 2 ^ 52 * 2 ^ (s / 2 ^ 52 - 1) := by
        rw [← Nat.pow_add, ← Nat.pow_add]
        exact Nat.pow_le_pow_right (by decide) (by omega)
      have h3 : 2 ^ 52 * 2 ^ (s / 2 ^ 52 - 1) ≤ (2 ^ 52 + s % 2 ^ 52) * 2 ^ (s / 2 ^ 52 - 1) := Nat.mul_le_mul_right _ (Nat.le_add_right _ _)
      omega

theorem least : double.leastPlace = -1074 := by decide
theorem binade : double.binade = 2 ^ 52 := rfl
theorem infRung : double.infRung = 9218868437227405312 := by decide
theorem signWeight : double.signWeight = 9223372036854775808 := by decide

theorem cut_ge (neg : Bool) (n drop : Nat) (h : drop ≤ n.log2 + 2) : n / 2 ^ drop ≤ Toward.even.cut neg n drop := by
  unfold Toward.cut
  simp only [Nat.min_eq_left h, Nat.one_shiftLeft]
  exact Nat.le_add_right _ _

theorem cut_zero (neg : Bool) (n : Nat) : Toward.even.cut neg n 0 = n := by
  unfold Toward.cut
  simp [Nat.mod_one]

/-- To round never goes below a rung that lies at or below the number. -/
theorem nearest_ge {mag e r : Nat} (hm : mag ≠ 0) (hv : val r ≤ mag * 2 ^ e) (hr : r ≤ double.infRung) :
    ∃ s, double.nearest false mag (-1074 + e) = s ∧ r ≤ s ∧ s ≤ double.infRung := by
  refine ⟨_, rfl, ?_, ?_⟩
  · unfold Format.nearest
    rw [if_neg hm]
    simp only [Format.word, Bool.false_eq_true, if_false]
    refine (Nat.le_min).2 ⟨?_, hr⟩
    have hN : mag * 2 ^ e ≠ 0 := by have := Nat.two_pow_pos e; exact Nat.mul_ne_zero hm (by omega)
    have hlog : (mag * 2 ^ e).log2 = mag.log2 + e := by
      rw [Nat.log2_eq_iff hN]
      have h1 := Nat.log2_self_le hm
      have h2 := Nat.lt_log2_self (n := mag)
      constructor
      · rw [Nat.pow_add]; exact Nat.mul_le_mul_right _ h1
      · rw [show mag.log2 + e + 1 = (mag.log2 + 1) + e by omega, Nat.pow_add]
        exact Nat.mul_lt_mul_of_pos_right h2 (Nat.two_pow_pos e)
    have := rung_le hN hlog hv
    refine Nat.le_trans this ?_
    have hl : (max ((-1074 : Int) + e + mag.log2 - double.fractionBits) double.leastPlace) = -1074 + ((mag.log2 + e - 52 : Nat) : Int) := by
      rw [least, show (double.fractionBits : Int) = 52 from rfl]
      omega
    rw [hl, least, binade]
    have e1 : ((-1074 : Int) + ((mag.log2 + e - 52 : Nat) : Int) - -1074).toNat = mag.log2 + e - 52 := by omega
    rw [e1]
    refine Nat.add_le_add_left ?_ _
    by_cases hc : mag.log2 + e - 52 ≤ e
    · have e2 : ((-1074 : Int) + ((mag.log2 + e - 52 : Nat) : Int) - (-1074 + (e : Int))).toNat = 0 := by omega
      have e3 : ((-1074 : Int) + (e : Int) - (-1074 + ((mag.log2 + e - 52 : Nat) : Int))).toNat = e - (mag.log2 + e - 52) := by omega
      rw [e2, e3, cut_zero, Nat.shiftLeft_eq]
      have : mag * 2 ^ e = mag * 2 ^ (e - (mag.log2 + e - 52)) * 2 ^ (mag.log2 + e - 52) := by
        rw [Nat.mul_assoc, ← Nat.pow_add, Nat.sub_add_cancel hc]
      rw [this, Nat.mul_div_cancel _ (Nat.two_pow_pos _)]
      exact Nat.le_refl _
    · have e2 : ((-1074 : Int) + ((mag.log2 + e - 52 : Nat) : Int) - (-1074 + (e : Int))).toNat = mag.log2 - 52 := by omega
      have e3 : ((-1074 : Int) + (e : Int) - (-1074 + ((mag.log2 + e - 52 : Nat) : Int))).toNat = 0 := by omega
      rw [e2, e3, Nat.shiftLeft_zero]
      refine Nat.le_trans ?_ (cut_ge false mag (mag.log2 - 52) (by omega))
      rw [show mag.log2 + e - 52 = e + (mag.log2 - 52) by omega, Nat.pow_add, ← Nat.div_div_eq_div_mul, Nat.mul_div_cancel _ (Nat.two_pow_pos _)]
      exact Nat.le_refl _
  · unfold Format.nearest
    rw [if_neg hm]
    simp only [Format.word, Bool.false_eq_true, if_false]
    exact Nat.min_le_right _ _

/-! ### Words -/
theorem read_rung {r : Nat} (h : r < double.infRung) : ∃ m e, double.read r = .number false m (-1074 + (e : Nat)) ∧ m * 2 ^ e = val r := by
  rw [infRung] at h
  have h1 : r / double.signWeight % 2 = 0 := by rw [signWeight]; omega
  have h2 : r % double.signWeight = r := by rw [signWeight]; omega
  unfold Format.read
  simp only [h1, h2, binade, infRung, least]
  by_cases hb : r < 2 ^ 52
  · refine ⟨r, 0, ?_, ?_⟩
    · rw [if_pos hb]; rfl
    · unfold val; rw [if_pos hb]; simp
  · refine ⟨2 ^ 52 + r % 2 ^ 52, r / 2 ^ 52 - 1, ?_, ?_⟩
    · rw [if_neg hb, if_pos h]; rfl
    · unfold val; rw [if_neg hb]

theorem read_inf : double.read double.infRung = .infinity false := by decide
theorem read_neg0 : double.read 9223372036854775808 = .number true 0 (-1074) := by decide
theorem read_zero : double.read 0 = .number false 0 (-1074) := by decide

theorem signed_false (m u : Nat) : signed false m u = ((m * 2 ^ u : Nat) : Int) := by unfold signed; simp [Nat.shiftLeft_eq]
theorem signed_zero (s : Bool) (m u : Nat) (h : s = true → m = 0) : signed s m u = ((m * 2 ^ u : Nat) : Int) := by
  cases s
  · exact signed_false m u
  · rw [h rfl]; simp [signed]

/-- A word that is no less than nothing: a rung up to infinity; or the zero with a sign. -/
def NN (a : Nat) : Prop := a ≤ double.infRung ∨ a = 9223372036854775808

def fin (x : Nat) : Bool := match double.read x with | .number .. => true | _ => false

theorem fin_number {x : Nat} (h : fin x = true) : ∃ s m i, double.read x = .number s m i := by
  unfold fin at h
  split at h
  · rename_i s m i e; exact ⟨s, m, i, e⟩
  · cases h

/-- 'x >= 0' of a finite x. -/
theorem number_ge {x : Nat} (h : fin x = true) (hg : (double.order x 0 == some .gt || double.order x 0 == some .eq) = true) : ∃ s m i, double.read x = .number s m i ∧ (s = true → m = 0) := by
  obtain ⟨s, m, i, e⟩ := fin_number h
  refine ⟨s, m, i, e, fun hs => ?_⟩
  subst hs
  unfold Format.order at hg
  rw [e, read_zero] at hg
  simp only [Datum.order] at hg
  by_cases hm : m = 0
  · exact hm
  · exfalso
    have h0 : signed false 0 ((-1074 : Int) - min i (-1074)).toNat = 0 := by rw [signed_false]; simp
    have h1 : signed true m (i - min i (-1074)).toNat < 0 := by
      unfold signed
      have : 0 < m <<< (i - min i (-1074)).toNat := by rw [Nat.shiftLeft_eq]; exact Nat.mul_pos (by omega) (Nat.two_pow_pos _)
      simp only [if_true]
      omega
    rw [h0] at hg
    have h2 : compare (signed true m (i - min i (-1074)).toNat) 0 = .lt := by rw [Int.compare_eq_lt]; exact h1
    rw [h2] at hg
    simp at hg

theorem nearest_le (m : Nat) (i : Int) : double.nearest false m i ≤ double.infRung := by
  unfold Format.nearest
  split
  · simp [Format.word]
  · simp only [Format.word, Bool.false_eq_true, if_false]
    exact Nat.min_le_right _ _

theorem mul_nn {x y : Nat} {s t : Bool} {m n : Nat} {i j : Int} (hx : double.read x = .number s m i) (hy : double.read y = .number t n j) (hs : s = true → m = 0) (ht : t = true → n = 0) : ∃ p, double.mul x y = some p ∧ NN p := by
  refine ⟨double.nearest (s ^^ t) (m * n) (i + j), ?_, ?_⟩
  · unfold Format.mul; rw [hx, hy]; rfl
  · cases hst : (s ^^ t)
    · exact Or.inl (nearest_le _ _)
    · refine Or.inr ?_
      have : m * n = 0 := by
        cases s
        · cases t
          · cases hst
          · rw [ht rfl]; rfl
        · rw [hs rfl]; simp
      rw [this]
      rfl

theorem mul_sq {x : Nat} (h : fin x = true) : ∃ p, double.mul x x = some p ∧ p ≤ double.infRung := by
  obtain ⟨s, m, i, e⟩ := fin_number h
  refine ⟨double.nearest (s ^^ s) (m * m) (i + i), ?_, ?_⟩
  · unfold Format.mul; rw [e]; rfl
  · rw [Bool.xor_self]; exact nearest_le _ _

theorem nn_read {a : Nat} (h : NN a) (hi : a ≠ double.infRung) : ∃ s m e, double.read a = .number s m (-1074 + (e : Nat)) ∧ (s = true → m = 0) ∧ (a ≤ double.infRung → m * 2 ^ e = val a) := by
  rcases h with h | rfl
  · obtain ⟨m, e, h1, h2⟩ := read_rung (r := a) (by omega)
    exact ⟨false, m, e, h1, fun h => (by cases h), fun _ => h2⟩
  · refine ⟨true, 0, 0, read_neg0, fun _ => rfl, fun h => ?_⟩
    rw [infRung] at h; omega

theorem add_fin {a b : Nat} {s : Bool} {m e n k : Nat} (ha : double.read a = .number s m (-1074 + (e : Nat))) (hs : s = true → m = 0) (hb : double.read b = .number false n (-1074 + (k : Nat))) :
    ∃ d, double.add a b = some d ∧ d ≤ double.infRung ∧ ∀ r, r ≤ double.infRung → (val r ≤ m * 2 ^ e ∨ val r ≤ n * 2 ^ k) → r ≤ d := by
  unfold Format.add
  rw [ha, hb]
  simp only [Datum.sum, Option.map_some, Format.write]
  have hmin : min ((-1074 : Int) + (e : Int)) (-1074 + (k : Int)) = -1074 + ((min e k : Nat) : Int) := by omega
  have e1 : ((-1074 : Int) + (e : Int) - (-1074 + ((min e k : Nat) : Int))).toNat = e - min e k := by omega
  have e2 : ((-1074 : Int) + (k : Int) - (-1074 + ((min e k : Nat) : Int))).toNat = k - min e k := by omega
  rw [hmin, e1, e2, signed_zero s m _ hs, signed_false, ← Int.natCast_add]
  have hnat : (((m * 2 ^ (e - min e k) + n * 2 ^ (k - min e k) : Nat) : Int)).natAbs = m * 2 ^ (e - min e k) + n * 2 ^ (k - min e k) := rfl
  rw [hnat]
  have hneg : (if (((m * 2 ^ (e - min e k) + n * 2 ^ (k - min e k) : Nat) : Int)) = 0 then s && false else decide (((m * 2 ^ (e - min e k) + n * 2 ^ (k - min e k) : Nat) : Int) < 0)) = false := by
    split
    · simp
    · exact decide_eq_false (by omega)
  have hsum : (m * 2 ^ (e - min e k) + n * 2 ^ (k - min e k)) * 2 ^ (min e k) = m * 2 ^ e + n * 2 ^ k := by
    rw [Nat.add_mul, Nat.mul_assoc, Nat.mul_assoc, ← Nat.pow_add, ← Nat.pow_add, Nat.sub_add_cancel (Nat.min_le_left _ _), Nat.sub_add_cancel (Nat.min_le_right _ _)]
  refine ⟨_, rfl, ?_, ?_⟩
  · rw [hneg]; exact nearest_le _ _
  · intro r hr hv
    rw [hneg]
    by_cases h0 : m * 2 ^ (e - min e k) + n * 2 ^ (k - min e k) = 0
    · rw [h0, Nat.zero_mul] at hsum
      have := le_val r
      omega
    · obtain ⟨d, hd, h1, _⟩ := nearest_ge (r := r) h0 (by rw [hsum]; omega) hr
      rw [hd]; exact h1

/-- The sum of two that are no less than nothing. -/
theorem add_nn {a b : Nat} (ha : NN a) (hb : b ≤ double.infRung) : ∃ d, double.add a b = some d ∧ d ≤ double.infRung ∧ (a ≤ double.infRung → a ≤ d) ∧ b ≤ d := by
  by_cases hai : a = double.infRung
  · subst hai
    refine ⟨double.infRung, ?_, Nat.le_refl _, fun h => h, hb⟩
    unfold Format.add
    rw [read_inf]
    by_cases hbi : b = double.infRung
    · rw [hbi, read_inf]; rfl
    · obtain ⟨n, k, h, _⟩ := read_rung (r := b) (by omega)
      rw [h]; rfl
  · obtain ⟨s, m, e, h1, h2, h3⟩ := nn_read ha hai
    by_cases hbi : b = double.infRung
    · subst hbi
      refine ⟨double.infRung, ?_, Nat.le_refl _, fun h => h, hb⟩
      unfold Format.add
      rw [read_inf, h1]; rfl
    · obtain ⟨n, k, h, hv⟩ := read_rung (r := b) (by omega)
      obtain ⟨d, hd, hd1, hd2⟩ := add_fin h1 h2 h
      exact ⟨d, hd, hd1, fun h => hd2 a h (Or.inl (by rw [h3 h]; exact Nat.le_refl _)), hd2 b hb (Or.inr (by rw [hv]; exact Nat.le_refl _))⟩

theorem cmp_ge {x y : Int} (h : y ≤ x) : ((some (compare x y) == some Ordering.gt) || (some (compare x y) == some Ordering.eq)) = true := by
  by_cases he : x = y
  · have : compare x y = .eq := by rw [Int.compare_eq_eq]; exact he
    rw [this]; rfl
  · have : compare x y = .gt := by rw [Int.compare_eq_gt]; omega
    rw [this]; rfl

/-- Rung above rung. -/
theorem order_ge {d a : Nat} (hd : d ≤ double.infRung) (ha : NN a) (hle : a ≤ double.infRung → a ≤ d) : (double.order d a == some .gt || double.order d a == some .eq) = true := by
  unfold Format.order
  by_cases hdi : d = double.infRung
  · subst hdi
    rw [read_inf]
    by_cases hai : a = double.infRung
    · rw [hai, read_inf]; rfl
    · obtain ⟨s, m, e, h1, _, _⟩ := nn_read ha hai
      rw [h1]; rfl
  · have hai : a ≠ double.infRung := fun h => by subst h; have := hle (Nat.le_refl _); omega
    obtain ⟨m, e, h1, hv⟩ := read_rung (r := d) (by omega)
    obtain ⟨s, n, k, h2, hs, hw⟩ := nn_read ha hai
    rw [h1, h2]
    simp only [Datum.order]
    refine cmp_ge ?_
    have hmin : min ((-1074 : Int) + (e : Int)) (-1074 + (k : Int)) = -1074 + ((min e k : Nat) : Int) := by omega
    have e1 : ((-1074 : Int) + (e : Int) - (-1074 + ((min e k : Nat) : Int))).toNat = e - min e k := by omega
    have e2 : ((-1074 : Int) + (k : Int) - (-1074 + ((min e k : Nat) : Int))).toNat = k - min e k := by omega
    rw [hmin, e1, e2, signed_zero s n _ hs, signed_false]
    refine Int.ofNat_le.2 ?_
    refine Nat.le_of_mul_le_mul_right ?_ (Nat.two_pow_pos (min e k))
    rw [Nat.mul_assoc, Nat.mul_assoc, ← Nat.pow_add, ← Nat.pow_add, Nat.sub_add_cancel (Nat.min_le_left _ _), Nat.sub_add_cancel (Nat.min_le_right _ _)]
    rcases ha with ha | rfl
    · rw [hv, hw ha]; exact val_mono (hle ha)
    · rw [read_neg0] at h2
      injection h2 with _ h2 _
      rw [← h2]; simp

/-- WHAT THE LAW ASKS OF ONE ENTRY OF THE DIAGONAL. -/
theorem entry {keep g x : Nat} (hk : fin keep = true) (hk0 : (double.order keep 0 == some .gt || double.order keep 0 == some .eq) = true) (hg : fin g = true) (hg0 : (double.order g 0 == some .gt || double.order g 0 == some .eq) = true) (hx : fin x = true) :
    ∃ p q d, double.mul keep g = some p ∧ double.mul x x = some q ∧ double.add p q = some d ∧ (double.order d 0 == some .gt || double.order d 0 == some .eq) = true ∧ (double.order d q == some .gt || double.order d q == some .eq) = true ∧ (double.order d p == some .gt || double.order d p == some .eq) = true := by
  obtain ⟨s, m, i, h1, h2⟩ := number_ge hk hk0
  obtain ⟨t, n, j, h3, h4⟩ := number_ge hg hg0
  obtain ⟨p, hp, hpn⟩ := mul_nn h1 h3 h2 h4
  obtain ⟨q, hq, hqn⟩ := mul_sq hx
  obtain ⟨d, hd, hdi, hda, hdb⟩ := add_nn hpn hqn
  exact ⟨p, q, d, hp, hq, hd, order_ge hdi (Or.inl (Nat.zero_le _)) (fun _ => Nat.zero_le _), order_ge hdi (Or.inl hqn) (fun _ => hdb), order_ge hdi hpn hda⟩

end Go.Proofs.Qxb6603773a.Rung
