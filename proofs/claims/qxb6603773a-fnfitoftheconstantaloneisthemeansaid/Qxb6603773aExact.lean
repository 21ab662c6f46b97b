import Derived.Test.Qxb6603773aAddWalk
namespace Go.Proofs.Qxb6603773a.Exact
open Ieee Go.Proofs.Qxb6603773a.Rung
open Go.Proofs.Qxb6603773a.Add (isNan FOp Ent)

theorem log2_mul_pow {n : Nat} (h : n ≠ 0) (k : Nat) : (n * 2 ^ k).log2 = n.log2 + k := by
  have hN : n * 2 ^ k ≠ 0 := by have := Nat.two_pow_pos k; exact Nat.mul_ne_zero h (by omega)
  rw [Nat.log2_eq_iff hN]
  have h1 := Nat.log2_self_le h
  have h2 := Nat.lt_log2_self (n := n)
  constructor
  · rw [Nat.pow_add]; exact Nat.mul_le_mul_right _ h1
  · rw [show n.log2 + k + 1 = (n.log2 + 1) + k by omega, Nat.pow_add]
    exact Nat.mul_lt_mul_of_pos_right h2 (Nat.two_pow_pos k)

theorem log2_52 {K : Nat} (h1 : 2 ^ 52 ≤ K) (h2 : K < 2 ^ 53) : K.log2 = 52 := by
  rw [Nat.log2_eq_iff (by omega)]
  exact ⟨h1, h2⟩

theorem val_parts (r : Nat) (h0 : val r ≠ 0) : ∃ t K, val r = K * 2 ^ t ∧ r = t * 2 ^ 52 + K ∧ t = (val r).log2 - 52 := by
  by_cases hb : r < 2 ^ 52
  · have e : val r = r := by unfold val; rw [if_pos hb]
    rw [e] at h0 ⊢
    refine ⟨0, r, by simp, by simp, ?_⟩
    have := (Nat.log2_lt h0).2 hb
    omega
  · have e : val r = (2 ^ 52 + r % 2 ^ 52) * 2 ^ (r / 2 ^ 52 - 1) := by unfold val; rw [if_neg hb]
    have hm := Nat.mod_lt r (Nat.two_pow_pos 52)
    have hd := Nat.div_add_mod r (2 ^ 52)
    refine ⟨r / 2 ^ 52 - 1, 2 ^ 52 + r % 2 ^ 52, e, ?_, ?_⟩
    · have hq : 0 < r / 2 ^ 52 := by omega
      have : 2 ^ 52 * (r / 2 ^ 52) = (r / 2 ^ 52 - 1) * 2 ^ 52 + 2 ^ 52 := by
        rw [← Nat.succ_mul, Nat.succ_eq_add_one, Nat.sub_add_cancel hq, Nat.mul_comm]
      omega
    · rw [e, log2_mul_pow (by omega), log2_52 (by omega) (by omega)]
      omega

/-- To round a number of the format gives the number. -/
theorem nearest_exact (s : Bool) {mag e f r : Nat} (hm : mag ≠ 0) (hr : r < double.infRung) (h : mag * 2 ^ e = val r * 2 ^ f) :
    double.nearest s mag (-1074 + (e : Int) - (f : Int)) = double.word s r := by
  have hv0 : val r ≠ 0 := by
    intro h0
    rw [h0, Nat.zero_mul] at h
    have := Nat.mul_pos (Nat.pos_of_ne_zero hm) (Nat.two_pow_pos e)
    omega
  obtain ⟨t, K, hK, hrK, ht⟩ := val_parts r hv0
  have hlog : mag.log2 + e = (val r).log2 + f := by rw [← log2_mul_pow hm, ← log2_mul_pow hv0, h]
  unfold Format.nearest
  rw [if_neg hm]
  have hl : (max ((-1074 : Int) + e - f + mag.log2 - double.fractionBits) double.leastPlace) = -1074 + (t : Int) := by
    rw [least, show (double.fractionBits : Int) = 52 from rfl]
    omega
  simp only [hl]
  rw [least, binade]
  have e1 : ((-1074 : Int) + (t : Int) - -1074).toNat = t := by omega
  rw [e1]
  congr 1
  have hkept : Toward.even.cut s (mag <<< ((-1074 : Int) + (e : Int) - (f : Int) - (-1074 + (t : Int))).toNat) ((-1074 : Int) + (t : Int) - (-1074 + (e : Int) - (f : Int))).toNat = K := by
    by_cases hc : f + t ≤ e
    · have e2 : ((-1074 : Int) + (t : Int) - (-1074 + (e : Int) - (f : Int))).toNat = 0 := by omega
      have e3 : ((-1074 : Int) + (e : Int) - (f : Int) - (-1074 + (t : Int))).toNat = e - (f + t) := by omega
      rw [e2, e3, cut_zero, Nat.shiftLeft_eq]
      refine Nat.eq_of_mul_eq_mul_right (Nat.two_pow_pos (f + t)) ?_
      rw [Nat.mul_assoc, ← Nat.pow_add, Nat.sub_add_cancel hc, h, hK, Nat.mul_assoc, ← Nat.pow_add, Nat.add_comm t f]
    · have e2 : ((-1074 : Int) + (t : Int) - (-1074 + (e : Int) - (f : Int))).toNat = f + t - e := by omega
      have e3 : ((-1074 : Int) + (e : Int) - (f : Int) - (-1074 + (t : Int))).toNat = 0 := by omega
      rw [e2, e3, Nat.shiftLeft_zero]
      have hmK : mag = K * 2 ^ (f + t - e) := by
        refine Nat.eq_of_mul_eq_mul_right (Nat.two_pow_pos e) ?_
        rw [Nat.mul_assoc, ← Nat.pow_add, Nat.sub_add_cancel (by omega), h, hK, Nat.mul_assoc, ← Nat.pow_add, Nat.add_comm t f]
      have hK0 : K ≠ 0 := by intro hk; rw [hk] at hmK; simp at hmK; exact hm hmK
      have hle : f + t - e ≤ mag.log2 + 2 := by rw [hmK, log2_mul_pow hK0]; omega
      unfold Toward.cut
      simp only [Nat.min_eq_left hle, Nat.one_shiftLeft]
      have hp := Nat.two_pow_pos (f + t - e)
      have hdiv : mag / 2 ^ (f + t - e) = K := by rw [hmK, Nat.mul_div_cancel _ hp]
      have hmod : mag % 2 ^ (f + t - e) = 0 := by rw [hmK, Nat.mul_mod_left]
      rw [hdiv, hmod]
      have hb1 : decide (2 ^ (f + t - e) < 2 * 0) = false := decide_eq_false (by omega)
      have hb2 : ((2 ^ (f + t - e) == 2 * 0) : Bool) = false := by rw [beq_eq_false_iff_ne]; omega
      rw [hb1, hb2]
      rfl
  rw [hkept, ← hrK]
  exact Nat.min_eq_left (Nat.le_of_lt hr)

/-! ### Words -/
theorem read_word (s : Bool) {r : Nat} (hr : r < double.infRung) : ∃ m e, double.read (double.word s r) = .number s m (-1074 + (e : Nat)) ∧ m * 2 ^ e = val r := by
  cases s
  · exact read_rung hr
  · have hr' : r < 9218868437227405312 := by rw [infRung] at hr; exact hr
    obtain ⟨m, e, h1, h2⟩ := read_rung hr
    refine ⟨m, e, ?_, h2⟩
    have q1 : r / double.signWeight % 2 = 0 := by rw [signWeight]; omega
    have q2 : r % double.signWeight = r := by rw [signWeight]; omega
    have p1 : (double.word true r) / double.signWeight % 2 = 1 := by simp only [Format.word, if_true]; rw [signWeight]; omega
    have p2 : (double.word true r) % double.signWeight = r := by simp only [Format.word, if_true]; rw [signWeight]; omega
    unfold Format.read at h1 ⊢
    simp only [q1, q2] at h1
    simp only [p1, p2]
    revert h1
    split
    · intro h1; injection h1 with _ a b; rw [a, b]; rfl
    · intro h1; injection h1 with _ a b; rw [a, b]; rfl

theorem read_word_inf (s : Bool) : double.read (double.word s double.infRung) = .infinity s := by cases s <;> decide

/-- A word is a sign and a rung up to infinity; or a NaN. -/
theorem word_cases {x : Nat} (hx : x < 2 ^ 64) : isNan x ∨ ∃ s r, x = double.word s r ∧ r ≤ double.infRung := by
  by_cases hn : x % double.signWeight ≤ double.infRung
  · refine Or.inr ⟨x / double.signWeight % 2 == 1, x % double.signWeight, ?_, hn⟩
    unfold Format.word
    rw [signWeight] at *
    by_cases h : x < 9223372036854775808
    · have e : x / 9223372036854775808 % 2 = 0 := by omega
      rw [e]
      simp
      omega
    · have e : x / 9223372036854775808 % 2 = 1 := by omega
      rw [e]
      simp
      omega
  · refine Or.inl ?_
    unfold isNan Format.read
    have hi := infRung
    have hb := binade
    simp only
    rw [if_neg (by omega), if_neg (by omega), if_neg (by omega)]
    exact ⟨_, _, rfl⟩

theorem not_nan {s : Bool} {r : Nat} (hr : r ≤ double.infRung) : ¬ isNan (double.word s r) := by
  rintro ⟨a, b, h⟩
  by_cases hi : r = double.infRung
  · rw [hi, read_word_inf] at h; cases h
  · obtain ⟨m, e, h1, _⟩ := read_word s (r := r) (by omega)
    rw [h1] at h; cases h

/-- The word of 1. -/
def one : Nat := 4607182418800017408
theorem read_one : double.read one = .number false (2 ^ 52) (-52) := by decide

theorem mul_one' {s : Bool} {r : Nat} (hr : r ≤ double.infRung) : double.mul one (double.word s r) = some (double.word s r) := by
  unfold Format.mul
  rw [read_one]
  by_cases hi : r = double.infRung
  · rw [hi, read_word_inf]
    simp only [Datum.product]
    rw [if_neg (by decide)]
    cases s <;> rfl
  · obtain ⟨m, e, h1, h2⟩ := read_word s (r := r) (by omega)
    rw [h1]
    simp only [Datum.product, Bool.false_xor, Option.map_some, Format.write]
    congr 1
    by_cases hm : m = 0
    · have hr0 : r = 0 := by have := le_val r; rw [← h2, hm] at this; simp at this; exact this
      rw [hm, hr0, Nat.mul_zero]
      unfold Format.nearest
      rw [if_pos rfl]
    · have := nearest_exact s (mag := 2 ^ 52 * m) (e := e) (f := 52) (r := r) (Nat.mul_ne_zero (by decide) hm) (by omega) (by rw [← h2, Nat.mul_assoc, Nat.mul_comm])
      rw [← this]
      congr 1
      omega

theorem sub_zero' {s : Bool} {r : Nat} (hr : r ≤ double.infRung) : double.sub (double.word s r) 0 = some (double.word s r) := by
  unfold Format.sub
  rw [read_zero]
  by_cases hi : r = double.infRung
  · rw [hi, read_word_inf]; rfl
  · obtain ⟨m, e, h1, h2⟩ := read_word s (r := r) (by omega)
    rw [h1]
    simp only [Datum.opposite, Datum.sum, Option.map_some, Format.write]
    have hmin : min ((-1074 : Int) + (e : Int)) (-1074) = -1074 := by omega
    have e1 : ((-1074 : Int) + (e : Int) - -1074).toNat = e := by omega
    rw [hmin, e1]
    have e0 : signed (!false) 0 ((-1074 : Int) - -1074).toNat = 0 := by decide
    rw [e0, Int.add_zero]
    congr 1
    by_cases hm : m = 0
    · have hr0 : r = 0 := by have := le_val r; rw [← h2, hm] at this; simp at this; exact this
      have es : signed s m e = 0 := by rw [hm]; cases s <;> simp [signed]
      rw [es, hr0]
      cases s <;> rfl
    · have hpos : 0 < m * 2 ^ e := Nat.mul_pos (by omega) (Nat.two_pow_pos e)
      have habs : (signed s m e).natAbs = m * 2 ^ e := by
        cases s
        · rw [signed_false]; rfl
        · unfold signed; simp only [if_true, Nat.shiftLeft_eq]; omega
      have hsgn : (if signed s m e = 0 then s && !false else decide (signed s m e < 0)) = s := by
        cases s
        · have : signed false m e = ((m * 2 ^ e : Nat) : Int) := signed_false m e
          rw [this, if_neg (by omega)]
          exact decide_eq_false (by omega)
        · have : signed true m e = -((m * 2 ^ e : Nat) : Int) := by unfold signed; simp [Nat.shiftLeft_eq]
          rw [this, if_neg (by omega)]
          exact decide_eq_true (by omega)
      rw [habs, hsgn]
      have := nearest_exact s (mag := m * 2 ^ e) (e := 0) (f := 0) (r := r) (by omega) (by omega) (by rw [h2])
      rw [← this]
      congr 1

/-! ### Counting -/
/-- How far the units' place lies above the least place. -/
@[irreducible] def P : Nat := 1074
theorem P_eq : P = 1074 := by unfold P; rfl
/-- The word of the count n (1 ≤ n < 2^53), spelled out. -/
def wn (n : Nat) : Nat := (n.log2 + 1022) * 2 ^ 52 + n * 2 ^ (52 - n.log2)

theorem wn_K {n : Nat} (h0 : n ≠ 0) (hn : n < 2 ^ 53) : 2 ^ 52 ≤ n * 2 ^ (52 - n.log2) ∧ n * 2 ^ (52 - n.log2) < 2 ^ 53 ∧ n.log2 ≤ 52 := by
  have h1 := Nat.log2_self_le h0
  have h2 := Nat.lt_log2_self (n := n)
  have hL : n.log2 ≤ 52 := by have := (Nat.log2_lt h0).2 hn; omega
  refine ⟨?_, ?_, hL⟩
  · have := Nat.mul_le_mul_right (2 ^ (52 - n.log2)) h1
    rw [← Nat.pow_add, Nat.add_sub_cancel' hL] at this
    exact this
  · have := Nat.mul_lt_mul_of_pos_right h2 (Nat.two_pow_pos (52 - n.log2))
    rw [← Nat.pow_add, show n.log2 + 1 + (52 - n.log2) = 53 by omega] at this
    exact this

theorem wn_lt {n : Nat} (h0 : n ≠ 0) (hn : n < 2 ^ 53) : wn n < double.infRung := by
  obtain ⟨h1, h2, h3⟩ := wn_K h0 hn
  rw [infRung]
  unfold wn
  omega

theorem wn_val {n : Nat} (h0 : n ≠ 0) (hn : n < 2 ^ 53) : val (wn n) = n * 2 ^ P := by
  obtain ⟨h1, h2, h3⟩ := wn_K h0 hn
  have hq : wn n / 2 ^ 52 = n.log2 + 1023 := by unfold wn; omega
  have hr : wn n % 2 ^ 52 = n * 2 ^ (52 - n.log2) - 2 ^ 52 := by unfold wn; omega
  unfold val
  rw [if_neg (by unfold wn; omega), hq, hr, show 2 ^ 52 + (n * 2 ^ (52 - n.log2) - 2 ^ 52) = n * 2 ^ (52 - n.log2) by omega, Nat.mul_assoc, ← Nat.pow_add, show 52 - n.log2 + (n.log2 + 1023 - 1) = P by have := P_eq; omega]

theorem wn_read {n : Nat} (h0 : n ≠ 0) (hn : n < 2 ^ 53) : double.read (wn n) = .number false (n * 2 ^ (52 - n.log2)) (-1074 + ((n.log2 + 1022 : Nat) : Int)) := by
  obtain ⟨h1, h2, h3⟩ := wn_K h0 hn
  have hlt := wn_lt h0 hn
  have hlt' := hlt
  rw [infRung] at hlt'
  have hq : wn n / 2 ^ 52 = n.log2 + 1023 := by unfold wn; omega
  have hr : wn n % 2 ^ 52 = n * 2 ^ (52 - n.log2) - 2 ^ 52 := by unfold wn; omega
  have q1 : wn n / double.signWeight % 2 = 0 := by rw [signWeight]; omega
  have q2 : wn n % double.signWeight = wn n := by rw [signWeight]; omega
  unfold Format.read
  simp only [q1, q2]
  rw [binade, least, if_neg (by unfold wn; omega), if_pos hlt, hq, hr, show 2 ^ 52 + (n * 2 ^ (52 - n.log2) - 2 ^ 52) = n * 2 ^ (52 - n.log2) by omega]
  rfl

/-- The word of the count n. -/
def cnt (n : Nat) : Nat := if n = 0 then 0 else wn n

theorem cnt_nearest {n : Nat} (hn : n < 2 ^ 53) : double.nearest false n 0 = cnt n := by
  by_cases h0 : n = 0
  · subst h0; rfl
  · unfold cnt
    rw [if_neg h0]
    have := nearest_exact false (mag := n) (e := P) (f := 0) (r := wn n) h0 (wn_lt h0 hn) (by rw [wn_val h0 hn, Nat.pow_zero, Nat.mul_one])
    rw [show ((-1074 : Int) + (P : Int) - ((0 : Nat) : Int)) = 0 by rw [P_eq]; rfl] at this
    exact this

theorem cnt_read {n : Nat} (hn : n < 2 ^ 53) : ∃ m e, double.read (cnt n) = .number false m (-1074 + (e : Nat)) ∧ m * 2 ^ e = n * 2 ^ P := by
  by_cases h0 : n = 0
  · subst h0; exact ⟨0, 0, rfl, by simp⟩
  · unfold cnt
    rw [if_neg h0]
    refine ⟨_, _, wn_read h0 hn, ?_⟩
    obtain ⟨_, _, h3⟩ := wn_K h0 hn
    rw [Nat.mul_assoc, ← Nat.pow_add, show 52 - n.log2 + (n.log2 + 1022) = P by have := P_eq; omega]

/-- One more. -/
theorem add_one' {n : Nat} (hn : n + 1 < 2 ^ 53) : double.add (cnt n) one = some (cnt (n + 1)) := by
  obtain ⟨m, e, h1, h2⟩ := cnt_read (n := n) (by omega)
  obtain ⟨k, hk⟩ : ∃ k : Nat, k = 1022 := ⟨_, rfl⟩
  have h3 : double.read one = .number false (2 ^ 52) (-1074 + (k : Int)) := by rw [hk]; exact read_one
  unfold Format.add
  rw [h1, h3]
  simp only [Datum.sum, Option.map_some, Format.write]
  have hmin : min ((-1074 : Int) + (e : Int)) (-1074 + (k : Int)) = -1074 + ((min e k : Nat) : Int) := by omega
  have e1 : ((-1074 : Int) + (e : Int) - (-1074 + ((min e k : Nat) : Int))).toNat = e - min e k := by omega
  have e2 : ((-1074 : Int) + (k : Int) - (-1074 + ((min e k : Nat) : Int))).toNat = k - min e k := by omega
  rw [hmin, e1, e2, signed_false, signed_false, ← Int.natCast_add]
  have hnat : (((m * 2 ^ (e - min e k) + 2 ^ 52 * 2 ^ (k - min e k) : Nat) : Int)).natAbs = m * 2 ^ (e - min e k) + 2 ^ 52 * 2 ^ (k - min e k) := rfl
  rw [hnat]
  have hsum : (m * 2 ^ (e - min e k) + 2 ^ 52 * 2 ^ (k - min e k)) * 2 ^ (min e k) = (n + 1) * 2 ^ P := by
    rw [Nat.add_mul, Nat.mul_assoc, Nat.mul_assoc, ← Nat.pow_add, ← Nat.pow_add, Nat.sub_add_cancel (Nat.min_le_left _ _), Nat.sub_add_cancel (Nat.min_le_right _ _), h2, Nat.add_mul, ← Nat.pow_add, show 52 + k = P by have := P_eq; omega, Nat.one_mul]
  have hpos : m * 2 ^ (e - min e k) + 2 ^ 52 * 2 ^ (k - min e k) ≠ 0 := by
    intro h
    rw [h, Nat.zero_mul] at hsum
    exact absurd hsum (Nat.ne_of_lt (Nat.mul_pos (Nat.succ_pos n) (Nat.two_pow_pos P)))
  have hneg : (if (((m * 2 ^ (e - min e k) + 2 ^ 52 * 2 ^ (k - min e k) : Nat) : Int)) = 0 then false && false else decide (((m * 2 ^ (e - min e k) + 2 ^ 52 * 2 ^ (k - min e k) : Nat) : Int) < 0)) = false := by
    split
    · rfl
    · exact decide_eq_false (by omega)
  rw [hneg]
  congr 1
  have hx := nearest_exact false (mag := m * 2 ^ (e - min e k) + 2 ^ 52 * 2 ^ (k - min e k)) (e := min e k) (f := 0) (r := wn (n + 1)) hpos (wn_lt (by omega) hn) (by rw [hsum, wn_val (by omega) hn, Nat.pow_zero, Nat.mul_one])
  unfold cnt
  rw [if_neg (Nat.succ_ne_zero n)]
  have ep : (-1074 : Int) + ((min e k : Nat) : Int) - ((0 : Nat) : Int) = -1074 + ((min e k : Nat) : Int) := by omega
  rw [ep] at hx
  exact hx

/-! ### The share 'collinear' of a count is less than the count -/
theorem nearest_crude {mag T : Nat} {place : Int} (hm : mag ≠ 0) (h : place + mag.log2 - 52 ≤ -1074 + (T : Int)) : double.nearest false mag place ≤ (T + 2) * 2 ^ 52 := by
  unfold Format.nearest
  rw [if_neg hm]
  simp only [Format.word, Bool.false_eq_true, if_false]
  refine Nat.le_trans (Nat.min_le_left _ _) ?_
  rw [least, binade, show (double.fractionBits : Int) = 52 from rfl]
  generalize hl : max (place + (mag.log2 : Int) - 52) (-1074) = last
  have h1 : place + (mag.log2 : Int) - 52 ≤ last := by omega
  have h2 : last ≤ -1074 + (T : Int) := by omega
  have ht : (last - -1074).toNat ≤ T := by omega
  have hmlt := Nat.lt_log2_self (n := mag)
  have hkept : Toward.even.cut false (mag <<< (place - last).toNat) (last - place).toNat ≤ 2 ^ 53 := by
    by_cases hc : last ≤ place
    · have e2 : (last - place).toNat = 0 := by omega
      rw [e2, cut_zero, Nat.shiftLeft_eq]
      have := Nat.mul_lt_mul_of_pos_right hmlt (Nat.two_pow_pos (place - last).toNat)
      rw [← Nat.pow_add] at this
      have h53 : 2 ^ (mag.log2 + 1 + (place - last).toNat) ≤ 2 ^ 53 := Nat.pow_le_pow_right (by decide) (by omega)
      omega
    · have e3 : (place - last).toNat = 0 := by omega
      rw [e3, Nat.shiftLeft_zero]
      generalize hd : (last - place).toNat = drop
      unfold Toward.cut
      simp only [Nat.one_shiftLeft]
      have hlow : mag / 2 ^ (min drop (mag.log2 + 2)) < 2 ^ 53 := by
        rw [Nat.div_lt_iff_lt_mul (Nat.two_pow_pos _), ← Nat.pow_add]
        exact Nat.lt_of_lt_of_le hmlt (Nat.pow_le_pow_right (by decide) (by omega))
      have hone : ∀ b : Bool, b.toNat ≤ 1 := fun b => by cases b <;> decide
      have := hone (decide (2 ^ (min drop (mag.log2 + 2)) < 2 * (mag % 2 ^ (min drop (mag.log2 + 2)))) || (2 ^ (min drop (mag.log2 + 2)) == 2 * (mag % 2 ^ (min drop (mag.log2 + 2))) && mag / 2 ^ (min drop (mag.log2 + 2)) % 2 == 1))
      omega
  rw [Nat.add_mul]
  exact Nat.add_le_add (Nat.mul_le_mul_right (2 ^ 52) ht) hkept

def coll : Nat := 4472406533629990549
theorem read_coll : double.read coll = .number false 4835703278458517 (-82) := by decide

theorem coll_lt {n : Nat} (h0 : n ≠ 0) (hn : n < 2 ^ 53) : ∃ c, double.mul coll (cnt n) = some c ∧ double.order (cnt n) c = some .gt := by
  obtain ⟨k1, k2, k3⟩ := wn_K h0 hn
  have hr := wn_read h0 hn
  have hc : cnt n = wn n := by unfold cnt; rw [if_neg h0]
  rw [hc]
  refine ⟨double.nearest false (4835703278458517 * (n * 2 ^ (52 - n.log2))) (-82 + (-1074 + ((n.log2 + 1022 : Nat) : Int))), ?_, ?_⟩
  · unfold Format.mul
    rw [read_coll, hr]
    rfl
  · have hw := wn_lt h0 hn
    generalize hKK : n * 2 ^ (52 - n.log2) = K at *
    have hmag : 4835703278458517 * K ≠ 0 := by omega
    have hlog : (4835703278458517 * K).log2 < 106 := by
      rw [Nat.log2_lt hmag]
      have := Nat.mul_lt_mul_of_lt_of_lt (show 4835703278458517 < 2 ^ 53 by decide) k2
      rw [← Nat.pow_add] at this
      exact this
    have hle := nearest_crude (T := n.log2 + 993) (place := -82 + (-1074 + ((n.log2 + 1022 : Nat) : Int))) hmag (by omega)
    have hle2 := nearest_le (4835703278458517 * K) (-82 + (-1074 + ((n.log2 + 1022 : Nat) : Int)))
    generalize double.nearest false (4835703278458517 * K) (-82 + (-1074 + ((n.log2 + 1022 : Nat) : Int))) = c at *
    have hclt : c < double.infRung := by rw [infRung] at *; omega
    obtain ⟨m, e, h1, h2⟩ := read_rung hclt
    unfold Format.order
    rw [hr, h1]
    simp only [Datum.order]
    congr 1
    rw [Int.compare_eq_gt]
    have hmin : min ((-1074 : Int) + ((n.log2 + 1022 : Nat) : Int)) (-1074 + (e : Int)) = -1074 + ((min (n.log2 + 1022) e : Nat) : Int) := by omega
    have e1 : ((-1074 : Int) + ((n.log2 + 1022 : Nat) : Int) - (-1074 + ((min (n.log2 + 1022) e : Nat) : Int))).toNat = n.log2 + 1022 - min (n.log2 + 1022) e := by omega
    have e2 : ((-1074 : Int) + (e : Int) - (-1074 + ((min (n.log2 + 1022) e : Nat) : Int))).toNat = e - min (n.log2 + 1022) e := by omega
    rw [hmin, e1, e2, signed_false, signed_false]
    refine Int.ofNat_lt.2 ?_
    refine Nat.lt_of_mul_lt_mul_right (a := 2 ^ (min (n.log2 + 1022) e)) ?_
    rw [Nat.mul_assoc, Nat.mul_assoc, ← Nat.pow_add, ← Nat.pow_add, Nat.sub_add_cancel (Nat.min_le_left _ _), Nat.sub_add_cancel (Nat.min_le_right _ _), h2]
    have hv := val_mono hle
    have ev : val ((n.log2 + 993 + 2) * 2 ^ 52) = 2 ^ 52 * 2 ^ (n.log2 + 994) := by
      unfold val
      have hq : (n.log2 + 993 + 2) * 2 ^ 52 / 2 ^ 52 = n.log2 + 995 := Nat.mul_div_cancel _ (Nat.two_pow_pos 52)
      have hm : (n.log2 + 993 + 2) * 2 ^ 52 % 2 ^ 52 = 0 := Nat.mul_mod_left _ _
      rw [if_neg (by omega), hq, hm, Nat.add_zero]
      rfl
    rw [ev] at hv
    have h3 : 2 ^ 52 * 2 ^ (n.log2 + 994) < K * 2 ^ (n.log2 + 1022) := by
      have a1 : 2 ^ 52 * 2 ^ (n.log2 + 994) < 2 ^ 52 * 2 ^ (n.log2 + 1022) := Nat.mul_lt_mul_of_pos_left (Nat.pow_lt_pow_right (by decide) (by omega)) (Nat.two_pow_pos 52)
      exact Nat.lt_of_lt_of_le a1 (Nat.mul_le_mul_right _ k1)
    exact Nat.lt_of_le_of_lt hv h3

end Go.Proofs.Qxb6603773a.Exact
