import Derived.Test.Qxb6003345aAppenders
import Derived.Test.Qxb6003345aNesting
namespace Go.Proofs.Qxb6003345a.AppLaw
open Go.RowKit
open Go.Proofs.Qxb6003345a.Append Go.Proofs.Qxb6003345a.Appenders Go.Proofs.Qxb6003345a.Nesting Go.Proofs.Qxb6003345a.Clone

/-! ### The plain law -/
def item (d i : Nat) : List UInt8 := nl (decide (0 < (i : Int))) (d + 1) ++ [91, 93]
def items (d : Nat) : Nat → List UInt8
  | 0 => []
  | k + 1 => items d k ++ item d k
/-- The array of k empty arrays, at depth d. -/
def txt (d k : Nat) : List UInt8 := [91] ++ items d k ++ cl (k : Int) d 93

theorem item_len (d i : Nat) : (item d i).length ≤ 2 * d + 8 := by
  unfold item nl
  split <;> simp <;> omega

theorem items_len (d : Nat) : ∀ k, (items d k).length ≤ k * (2 * d + 8)
  | 0 => by simp [items]
  | k + 1 => by
    have h1 := items_len d k
    have h2 := item_len d k
    rw [items, List.length_append, Nat.add_mul, Nat.one_mul]
    omega

theorem items_le {d j k P : Nat} (hj : j ≤ k) (hP : k * (2 * d + 8) ≤ P) : (items d j).length ≤ P :=
  Nat.le_trans (items_len d j) (Nat.le_trans (Nat.mul_le_mul_right _ hj) hP)

theorem cl_len (n : Int) (d : Nat) (c : UInt8) : (cl n d c).length ≤ 2 * d + 2 := by
  unfold cl nl
  split <;> simp

theorem ok_nl (b : Bool) (d : Nat) : ∀ c ∈ nl b d, okB c := by
  intro c hc
  unfold nl at hc
  cases b
  · simp at hc
    rcases hc with rfl | ⟨_, rfl⟩ <;> simp [okB]
  · simp at hc
    rcases hc with rfl | rfl | ⟨_, rfl⟩ <;> simp [okB]

theorem ok_txt (d k : Nat) : ∀ c ∈ txt d k, okB c := by
  have hi : ∀ k, ∀ c ∈ items d k, okB c := by
    intro k
    induction k with
    | zero => intro c hc; cases hc
    | succ k ih =>
      intro c hc
      rcases List.mem_append.1 hc with h | h
      · exact ih c h
      · rcases List.mem_append.1 h with h | h
        · exact ok_nl _ _ c h
        · simp at h
          rcases h with rfl | rfl <;> simp [okB]
  intro c hc
  rcases List.mem_append.1 hc with h | h
  · rcases List.mem_append.1 h with h | h
    · simp at h; subst h; simp [okB]
    · exact hi k c h
  · unfold cl at h
    rcases List.mem_append.1 h with h | h
    · split at h
      · exact ok_nl _ _ c h
      · cases h
    · simp at h; subst h; simp [okB]

theorem fold_rep (s : Int × Int) : ∀ n, (List.replicate n (32 : UInt8)).foldl stp s = s
  | 0 => rfl
  | n + 1 => by rw [List.replicate_succ, List.foldl_cons]; exact fold_rep s n

theorem fold_nl (s : Int × Int) (b : Bool) (d : Nat) : (nl b d).foldl stp s = s := by
  unfold nl
  rw [List.foldl_append, fold_rep]
  cases b <;> rfl

theorem fold_items (d : Nat) : ∀ k, (items d k).foldl stp (1, 1) = (if k = 0 then 1 else 2, 1)
  | 0 => rfl
  | k + 1 => by
    rw [items, List.foldl_append, fold_items d k, item, List.foldl_append, fold_nl]
    by_cases h : k = 0 <;> simp [h, stp] <;> decide

theorem nest_txt (d k : Nat) : (nest (txt d k)).1 = if k = 0 then 1 else 2 := by
  unfold nest txt
  rw [List.foldl_append, List.foldl_append]
  have : [91].foldl stp ((0 : Int), (0 : Int)) = (1, 1) := rfl
  rw [this, fold_items]
  unfold cl
  rw [List.foldl_append]
  by_cases h : k = 0
  · subst h; rfl
  · have : (0 : Int) < (k : Int) := by omega
    rw [if_pos this, fold_nl]
    simp [stp]

theorem prod_cast (k d : Nat) : ((k * (2 * d + 8) : Nat) : Int) = (k : Int) * (2 * (d : Int) + 8) := by simp

theorem wanted (d k : Nat) : [91] ++ items d k ++ (if 0 < k then [10] ++ List.replicate (2 * d) 32 else []) ++ [93] = txt d k := by
  unfold txt cl nl
  by_cases h : 0 < k
  · have : (0 : Int) < (k : Int) := by omega
    rw [if_pos h, if_pos this]
    simp
  · have : ¬ (0 : Int) < (k : Int) := by omega
    rw [if_neg h, if_neg this]
    simp

theorem next_comma (d i : Nat) (h : 0 < i) : [91] ++ items d (i + 1) = (((([91] ++ items d i) ++ [44]) ++ [10]) ++ List.replicate (2 * (d + 1)) 32) ++ [91, 93] := by
  have h0 : decide (0 < (i : Int)) = true := decide_eq_true (by omega)
  rw [items, item, h0]
  simp [nl]

theorem next_plain (d i : Nat) (h : ¬ 0 < i) : [91] ++ items d (i + 1) = ((([91] ++ items d i) ++ [10]) ++ List.replicate (2 * (d + 1)) 32) ++ [91, 93] := by
  have h0 : decide (0 < (i : Int)) = false := decide_eq_false (by omega)
  rw [items, item, h0]
  simp [nl]

/-! ### Rows -/
theorem Ow.shape {base : Nat} {w : World} {v : Value} {l : List UInt8} (h : Ow base w v l) (hl : 0 < l.length) : ∃ g cap, v = .slice (some ⟨g, 0, none⟩) l.length cap ∧ l.length ≤ cap ∧ cap ≤ maxLen ∧ base ≤ g ∧ g < w.heap.size ∧ ∀ j c, l[j]? = some c → w.cell? ⟨g, j, none⟩ = some (bc c) := by
  have h0 := h
  obtain ⟨_, ⟨_, h1⟩ | ⟨g, cap, cur, rfl, hb, hh, hc, hm, _, _⟩⟩ := h
  · omega
  · refine ⟨g, cap, rfl, hc, hm, hb, block_lt hh, fun j c hj => ?_⟩
    have hj' : j < l.length := (List.getElem?_eq_some_iff.1 hj).1
    have := World.ownsRow.cellAt h0 j (by omega)
    rw [this, List.getElem?_map, hj]
    rfl

theorem clone_own (w : World) (p : Option Addr) (n cap : Nat) (l : List UInt8) (h : Came w p n cap (l.map bc)) (hlen : n ≤ 1048576) :
    Calls Try.prog 10 #[.slice p n cap] w fun e w' => ∃ v, e = .returned v ∧ Ow w.heap.size w' v l ∧ Below w.heap.size w w' := by
  obtain ⟨hn, h1, ⟨rfl, rfl, rfl⟩ | ⟨x, rfl, hc⟩⟩ := h
  · refine (clone_nil w).mono ?_
    rintro e w' ⟨rfl, rfl⟩
    have : l = [] := by simpa using hn
    subst this
    exact ⟨_, rfl, World.ownsRow_nil _ _ _ _, Below.refl _ _⟩
  · refine (clone_some w x n cap (l.map bc) hn hlen hc h1).mono ?_
    rintro e w' ⟨rfl, hrow, hb⟩
    have hn' : l.length = n := by simpa using hn
    subst hn'
    refine ⟨_, rfl, ⟨by simp, Or.inr ⟨w.heap.size, l.length, _, rfl, Nat.le_refl _, hrow, Nat.le_refl _, by unfold maxLen; omega, by simp, by rw [Nat.mul_one, List.toList_toArray, ← List.length_map (f := bc), List.take_length]⟩⟩, hb⟩

theorem came_of_reads {B n c : Nat} {w : World} {q : Option Addr} {l : List UInt8} (h : Reads B w q (l.map bc)) (hq : q = none → n = 0 ∧ c = 0) (hn : l.length = n) : Came w q n c (l.map bc) := by
  refine ⟨by simpa using hn, bc_one l, ?_⟩
  cases q with
  | none => exact Or.inl ⟨rfl, (hq rfl).1, (hq rfl).2⟩
  | some x => exact Or.inr ⟨x, rfl, reads_news h x rfl⟩

theorem rd_of_reads {B : Nat} {w : World} {q : Option Addr} {l : List UInt8} (h : Reads B w q (l.map bc)) : Rd w q l := by
  intro hl
  obtain ⟨g, h1, h2⟩ := h
  obtain ⟨e, _, _⟩ := h1 (by rw [List.length_map]; exact List.length_pos_iff.2 hl)
  refine ⟨g, 0, e, fun j c hj => ?_⟩
  rw [Nat.zero_add]
  exact h2 j (bc c) (by rw [List.getElem?_map, hj]; rfl)

theorem equal_below (p q : Option Addr) (n c d : Nat) (l : List UInt8) (w : World) (hl : l.length = n) (hn : n ≤ 16777216) (h1 : Rd w p l) (h2 : Rd w q l) :
    Calls Try.prog 13 #[.slice p n c, .slice q n d] w fun e w' => e = .returned (.bool true) ∧ ∀ B, Below B w w' := by
  refine (equal_any p q n c d l w hl hn h1 h2).mono ?_
  rintro e w' ⟨rfl, q, rfl⟩
  exact ⟨rfl, fun B => below_drewN (Below.refl B w) q⟩

set_option maxHeartbeats 6000000 in
set_option maxRecDepth 100000 in
theorem walk_main (w : World) (p : Option Addr) (n c k d : Nat) (l : List UInt8) (hp : Came w p n c (l.map bc)) (hn : n ≤ 524288) (hk : k ≤ 1024) (hd : d ≤ 1024) (hP : k * (2 * d + 8) ≤ 1048576) :
    Calls Try.prog 3 #[.slice p n c, .int .i64 k, .int .i64 d] w fun e w' => e = .returned (.bool true) ∧ Below w.heap.size w w' := by
  obtain ⟨i0, hi, hz0, hz1, hz2⟩ := info_parts Clone.info5
  have HN : Hid (l.length = n) := (by have := hp.1; simpa using this : l.length = n)
  have hP1 : (k : Int) * (2 * (d : Int) + 8) ≤ 1048576 := by rw [← prod_cast]; exact Int.ofNat_le.2 hP
  have hP0 : 0 ≤ (k : Int) * (2 * (d : Int) + 8) := by rw [← prod_cast]; exact Int.natCast_nonneg _
  go_enter Try.func3, Try.ntmps3
  go_wp2_with fail
  refine (zz9_yes _ _ _ _ _ _ (by omega)).mono ?_
  rintro e w ⟨rfl, rfl⟩
  go_wp2_with fail
  refine (clone_any w p n c (l.map bc) hp (by omega)).mono ?_
  rintro e w1 ⟨q1, c1, rfl, hr1, hn1, hb1⟩
  go_wp2_with fail
  refine (clone_own w1 q1 n c1 l (came_of_reads hr1 hn1 HN.out) (by omega)).mono ?_
  rintro e w2 ⟨v2, rfl, hO2, hb2⟩
  have hs2 := hb2.size
  have hr2 := hr1.later hb2 (Nat.le_refl _)
  go_wp2_with (at_builtin; refine wpList_append_own _ rfl (.tmp 45) (.tmp 46) 22 rfl w1.heap.size 5 i0 (.int .u8 0) 1 1 Try.underlying22 hi hz0 hz1 hz2 rfl (by decide) _ _ _ rfl (hO2.alloc _) ⟨w2.heap.size, 0, none⟩ 1 1 [bc 91] rfl rfl (cell_one_new _ _ _) (bc_one [91]) (by rw [HN.out]; unfold maxLen; omega) (by rw [HN.out]; omega) (Nat.le_trans hs2 (by simp)) ?_; intro v3 w3 hown3 hg3 ha3; clear ha3)
  have hB3 : Below w1.heap.size w2 w3 := Ow.below (hO2.alloc _) ((Below.refl _ w2).alloc hs2 _) (Nat.le_trans hs2 (by simp)) hg3
  have hs3 : w1.heap.size ≤ w3.heap.size := Nat.le_trans (Nat.le_trans hs2 (by simp)) hg3.size
  have hO3 : Ow w1.heap.size w3 v3 (l ++ ([91] ++ items d 0)) := Ow.of hown3 (by simp [items]) (by simp [items])
  clear hown3 hg3 hO2
  go_loopw [7, 8] (fun x i wr => ∃ (j : Nat) (v : Value), j ≤ k ∧ i = .int .i64 j ∧ x = v ∧ Ow w1.heap.size wr v (l ++ ([91] ++ items d j)) ∧ w1.heap.size ≤ wr.heap.size ∧ Below w1.heap.size w2 wr) (fun _ i _ => k - (intOf i).toNat)
  case atStart => exact ⟨0, _, Nat.zero_le _, rfl, rfl, hO3, hs3, hB3⟩
  case round =>
    obtain ⟨j, v, hj, rfl, rfl, hO, hs, hB⟩ := hrel
    have hit := items_le (d := d) hj hP
    have HL : Hid ((l ++ ([91] ++ items d j)).length ≤ 1572866) := (by have := HN.out; simp; omega : (l ++ ([91] ++ items d j)).length ≤ 1572866)
    by_cases hlt : j < k
    · clear hO3 hp hr1 hr2 hb1 hb2
      go_wp2_with fail
      refine (zznewline_any w1.heap.size _ _ j _ (d + 1) wr (by simp) hO hs (Nat.le_trans HL.out (by decide)) (by omega)).mono ?_
      rintro e w4 ⟨v4, rfl, hO4, hb4⟩
      have hs4 := hb4.size
      have HL4 : Hid ((l ++ ([91] ++ items d j) ++ nl (decide (0 < (j : Int))) (d + 1)).length ≤ 1600000) := (by have := HL.out; rw [List.length_append]; have : (nl (decide (0 < (j : Int))) (d + 1)).length ≤ 2 * d + 4 := (by unfold nl; split <;> simp <;> omega); omega : (l ++ ([91] ++ items d j) ++ nl (decide (0 < (j : Int))) (d + 1)).length ≤ 1600000)
      go_wp2_with (at_builtin; refine wpList_append_own _ rfl (.tmp 58) (.tmp 59) 22 rfl w1.heap.size 5 i0 (.int .u8 0) 1 1 Try.underlying22 hi hz0 hz1 hz2 rfl (by decide) _ _ _ rfl (hO4.alloc _) ⟨w4.heap.size, 0, none⟩ 1 1 [bc 91] rfl rfl (cell_one_new _ _ _) (bc_one [91]) (by have := HL4.out; unfold maxLen; omega) (by have := HL4.out; omega) (Nat.le_trans (Nat.le_trans hs hs4) (by simp)) ?_; intro v5 w5 hown5 hg5 ha5; clear ha5)
      have hb5 : Below w1.heap.size w4 w5 := Ow.below (hO4.alloc _) ((Below.refl _ w4).alloc (Nat.le_trans hs hs4) _) (Nat.le_trans (Nat.le_trans hs hs4) (by simp)) hg5
      have hs5 : w1.heap.size ≤ w5.heap.size := Nat.le_trans (Nat.le_trans hs hs4) hb5.size
      have hO5 : Ow w1.heap.size w5 v5 ((l ++ ([91] ++ items d j) ++ nl (decide (0 < (j : Int))) (d + 1)) ++ [91]) := Ow.of hown5 (by rw [List.length_append (bs := [91])]; rfl) (by rw [List.map_append (l₂ := [91])]; rfl)
      clear hown5 hg5 hO4
      refine (zzclose_any w1.heap.size _ _ _ _ _ (d + 2) 93 w5 (by simp) rfl hO5 hs5 (by have := HL4.out; rw [List.length_append (bs := [91])]; exact Nat.le_trans (Nat.add_le_add_right this 1) (by decide)) (by omega)).mono ?_
      rintro e w6 ⟨v6, rfl, hO6, hb6⟩
      have hs6 := hb6.size
      have hO7 : Ow w1.heap.size w6 v6 (l ++ ([91] ++ items d (j + 1))) := by
        have e : l ++ ([91] ++ items d (j + 1)) = ((l ++ ([91] ++ items d j) ++ nl (decide (0 < (j : Int))) (d + 1)) ++ [91]) ++ cl 0 (d + 2) 93 := by simp [items, item, cl]
        rw [e]; exact hO6
      have hB7 := ((hB.trans hb4).trans hb5).trans hb6
      clear hO6 hO5 hO
      go_wp2
      go_roundw
      case rel => exact ⟨j + 1, _, by omega, by go_num, rfl, hO7, by omega, hB7⟩
      case measure => simp [intOf]; omega
    · have hjk : j = k := by omega
      subst hjk
      clear hO3 hB3 hp hr2
      go_wp2_with fail
      refine (zzclose_any w1.heap.size _ _ _ _ _ d 93 wr rfl rfl hO hs (Nat.le_trans HL.out (by decide)) (by omega)).mono ?_
      rintro e w4 ⟨v4, rfl, hO4, hb4⟩
      have e4 : (l ++ ([91] ++ items d j)) ++ cl (j : Int) d 93 = l ++ txt d j := by simp [txt]
      rw [e4] at hO4
      have htl : (txt d j).length ≤ 1060000 := by have := cl_len (j : Int) d 93; unfold txt; simp; omega
      have htp : 0 < (txt d j).length := by unfold txt; simp
      have HT : Hid ((l ++ txt d j).length = n + (txt d j).length) := (by rw [List.length_append, HN.out] : (l ++ txt d j).length = n + (txt d j).length)
      obtain ⟨g, cap, rfl, hcap, hcm, hg1, hg2, hcell⟩ := Ow.shape hO4 (by rw [HT.out]; omega)
      rw [HT.out] at hcap
      rw [HT.out]
      have htx := ok_txt d j
      have hnt := nest_txt d j
      generalize hTT : txt d j = TT at *
      obtain ⟨m, hm⟩ : ∃ m, TT.length = m := ⟨_, rfl⟩
      rw [hm] at htl htp hcap ⊢
      have HM : Hid (TT.length = m) := hm
      have HTT : Hid (txt d j = TT) := hTT
      have HC : Hid (∀ j c, (l ++ TT)[j]? = some c → w4.cell? ⟨g, j, none⟩ = some (bc c)) := hcell
      have HX : Hid (∀ c ∈ TT, okB c) := htx
      have HNT : Hid ((nest TT).1 = if j = 0 then 1 else 2) := hnt
      have HB4 : Hid (Below w1.heap.size w1 w4) := (hb2.trans hB).trans hb4
      have HR1 : Hid (Reads w.heap.size w1 q1 (l.map bc)) := hr1
      have HB1 : Hid (Below w.heap.size w w1) := hb1
      have hs4 : w1.heap.size ≤ w4.heap.size := by omega
      clear hm hTT HT hO4 hcell htx hnt e4 hO HL hb2 hB hb4 hr1 hb1 hs2 hs3 hs hg1
      unfold maxLen at hcm
      go_wp2_with fail
      refine (equal_below _ _ n _ _ l w4 HN.out (by omega) (fun _ => ⟨g, 0, rfl, fun i c hi => by
        rw [Nat.zero_add]
        exact HC.out i c (by rw [List.getElem?_append_left (List.getElem?_eq_some_iff.1 hi).1]; exact hi)⟩) (rd_of_reads (HR1.out.later HB4.out (Nat.le_refl _)))).mono ?_
      rintro e w5 ⟨rfl, hb5⟩
      have HB5 : Hid (∀ B, Below B w4 w5) := hb5
      have hs5 := (hb5 0).size
      clear hb5
      go_wp2
      go_loopw [10, 11] (fun x y wr => ∃ (i : Nat) (v : Value), i ≤ j ∧ y = .int .i64 i ∧ x = v ∧ Ow w5.heap.size wr v ([91] ++ items d i) ∧ w5.heap.size ≤ wr.heap.size ∧ Below w5.heap.size w5 wr) (fun _ y _ => j - (intOf y).toNat)
      case atStart => exact ⟨0, _, Nat.zero_le _, rfl, rfl, World.ownsRow_lit w5 #[bc 91] 1 (Nat.le_refl _) (by decide) rfl, by simp, (Below.refl _ w5).alloc (Nat.le_refl _) _⟩
      case round =>
        obtain ⟨i, v, hij, rfl, rfl, hO, hs, hB⟩ := hrel
        have hii := items_le (d := d) hij hP
        have HL : Hid (([91] ++ items d i).length ≤ 1048577) := (by simp; omega : ([91] ++ items d i).length ≤ 1048577)
        clear hii
        by_cases hlt : i < j
        · by_cases h0 : 0 < i
          · go_wp2_with (first
              | (at_builtin; refine wpList_append_own _ rfl (.tmp 95) (.tmp 96) 22 rfl w5.heap.size 5 i0 (.int .u8 0) 1 1 Try.underlying22 hi hz0 hz1 hz2 rfl (by decide) _ _ _ rfl (hO.alloc _) ⟨wr.heap.size, 0, none⟩ 1 1 [bc 44] rfl rfl (cell_one_new _ _ _) (bc_one [44]) (by have := HL.out; unfold maxLen; omega) (by have := HL.out; omega) (Nat.le_trans hs (by simp)) ?_; intro v7 w7 hown7 hg7 ha7; clear ha7; have hb7 : Below w5.heap.size wr w7 := Ow.below (hO.alloc _) ((Below.refl _ wr).alloc hs _) (Nat.le_trans hs (by simp)) hg7; have hs7 : w5.heap.size ≤ w7.heap.size := Nat.le_trans hs hb7.size; have hO7 : Ow w5.heap.size w7 v7 (([91] ++ items d i) ++ [44]) := Ow.of hown7 (by rw [List.length_append (bs := [44])]; rfl) (by rw [List.map_append (l₂ := [44])]; rfl); clear hown7 hg7 hO; have HL7 : Hid (((([91] ++ items d i) ++ [44])).length ≤ 1048579) := (by have := HL.out; rw [List.length_append (bs := [44])]; simp only [List.length_cons, List.length_nil]; omega : ((([91] ++ items d i) ++ [44])).length ≤ 1048579))
              | (at_builtin; refine wpList_append_own _ rfl (.tmp 98) (.tmp 99) 22 rfl w5.heap.size 5 i0 (.int .u8 0) 1 1 Try.underlying22 hi hz0 hz1 hz2 rfl (by decide) _ _ _ rfl (hO7.alloc _) ⟨w7.heap.size, 0, none⟩ 1 1 [bc 10] rfl rfl (cell_one_new _ _ _) (bc_one [10]) (by have := HL7.out; unfold maxLen; omega) (by have := HL7.out; omega) (Nat.le_trans hs7 (by simp)) ?_; intro v8 w8 hown8 hg8 ha8; clear ha8))
            have hb8 : Below w5.heap.size w7 w8 := Ow.below (hO7.alloc _) ((Below.refl _ w7).alloc hs7 _) (Nat.le_trans hs7 (by simp)) hg8
            have hs8 : w5.heap.size ≤ w8.heap.size := Nat.le_trans hs7 hb8.size
            have hO8 : Ow w5.heap.size w8 v8 ((([91] ++ items d i) ++ [44]) ++ [10]) := Ow.of hown8 (by rw [List.length_append (bs := [10])]; rfl) (by rw [List.map_append (l₂ := [10])]; rfl)
            clear hown8 hg8 hO7
            have HL8 : Hid ((((([91] ++ items d i) ++ [44]) ++ [10])).length ≤ 1048581) := (by have := HL7.out; rw [List.length_append (bs := [10])]; simp only [List.length_cons, List.length_nil]; omega : (((([91] ++ items d i) ++ [44]) ++ [10])).length ≤ 1048581)
            refine (spaces_any w5.heap.size _ _ _ (2 * (d + 1)) w8 (by simp) hO8 hs8 (by have := HL8.out; omega) (by omega)).mono ?_
            rintro e w9 ⟨v9, rfl, hO9, hb9⟩
            have hs9 : w5.heap.size ≤ w9.heap.size := Nat.le_trans hs8 hb9.size
            clear hO8
            have HL9 : Hid (((((([91] ++ items d i) ++ [44]) ++ [10]) ++ List.replicate (2 * (d + 1)) 32)).length ≤ 1051579) := (by have := HL8.out; rw [List.length_append (bs := List.replicate (2 * (d + 1)) 32), List.length_replicate]; omega : ((((([91] ++ items d i) ++ [44]) ++ [10]) ++ List.replicate (2 * (d + 1)) 32)).length ≤ 1051579)
            go_wp2_with (at_builtin; refine wpList_append_own _ rfl (.tmp 106) (.tmp 107) 22 rfl w5.heap.size 5 i0 (.int .u8 0) 1 1 Try.underlying22 hi hz0 hz1 hz2 rfl (by decide) _ _ _ rfl (hO9.alloc _) ⟨w9.heap.size, 0, none⟩ 2 2 [bc 91, bc 93] rfl rfl (cell_two_new _ _ _ _) (bc_one [91, 93]) (by have := HL9.out; unfold maxLen; omega) (by have := HL9.out; omega) (Nat.le_trans hs9 (by simp)) ?_; intro v10 w10 hown10 hg10 ha10; clear ha10)
            have hb10 : Below w5.heap.size w9 w10 := Ow.below (hO9.alloc _) ((Below.refl _ w9).alloc hs9 _) (Nat.le_trans hs9 (by simp)) hg10
            have hs10 : w5.heap.size ≤ w10.heap.size := Nat.le_trans hs9 hb10.size
            have hO10 : Ow w5.heap.size w10 v10 ((((([91] ++ items d i) ++ [44]) ++ [10]) ++ List.replicate (2 * (d + 1)) 32) ++ [91, 93]) := Ow.of hown10 (by rw [List.length_append (bs := [91, 93])]; rfl) (by rw [List.map_append (l₂ := [91, 93])]; rfl)
            clear hown10 hg10 hO9
            have hO11 : Ow w5.heap.size w10 v10 ([91] ++ items d (i + 1)) := by
              rw [next_comma d i h0]; exact hO10
            have hB11 := (((hB.trans hb7).trans hb8).trans hb9).trans hb10
            clear hO10 hb7 hb8 hb9 hb10
            go_wp2
            go_roundw
            case rel => exact ⟨i + 1, _, by omega, by go_num, rfl, hO11, hs10, hB11⟩
            case measure => simp [intOf]; omega
          · go_wp2_with (at_builtin; refine wpList_append_own _ rfl (.tmp 98) (.tmp 99) 22 rfl w5.heap.size 5 i0 (.int .u8 0) 1 1 Try.underlying22 hi hz0 hz1 hz2 rfl (by decide) _ _ _ rfl (hO.alloc _) ⟨wr.heap.size, 0, none⟩ 1 1 [bc 10] rfl rfl (cell_one_new _ _ _) (bc_one [10]) (by have := HL.out; unfold maxLen; omega) (by have := HL.out; omega) (Nat.le_trans hs (by simp)) ?_; intro v8 w8 hown8 hg8 ha8; clear ha8)
            have hb8 : Below w5.heap.size wr w8 := Ow.below (hO.alloc _) ((Below.refl _ wr).alloc hs _) (Nat.le_trans hs (by simp)) hg8
            have hs8 : w5.heap.size ≤ w8.heap.size := Nat.le_trans hs hb8.size
            have hO8 : Ow w5.heap.size w8 v8 (([91] ++ items d i) ++ [10]) := Ow.of hown8 (by rw [List.length_append (bs := [10])]; rfl) (by rw [List.map_append (l₂ := [10])]; rfl)
            clear hown8 hg8 hO
            have HL8 : Hid (((([91] ++ items d i) ++ [10])).length ≤ 1048579) := (by have := HL.out; rw [List.length_append (bs := [10])]; simp only [List.length_cons, List.length_nil]; omega : ((([91] ++ items d i) ++ [10])).length ≤ 1048579)
            refine (spaces_any w5.heap.size _ _ _ (2 * (d + 1)) w8 (by simp) hO8 hs8 (by have := HL8.out; omega) (by omega)).mono ?_
            rintro e w9 ⟨v9, rfl, hO9, hb9⟩
            have hs9 : w5.heap.size ≤ w9.heap.size := Nat.le_trans hs8 hb9.size
            clear hO8
            have HL9 : Hid ((((([91] ++ items d i) ++ [10]) ++ List.replicate (2 * (d + 1)) 32)).length ≤ 1051577) := (by have := HL8.out; rw [List.length_append (bs := List.replicate (2 * (d + 1)) 32), List.length_replicate]; omega : (((([91] ++ items d i) ++ [10]) ++ List.replicate (2 * (d + 1)) 32)).length ≤ 1051577)
            go_wp2_with (at_builtin; refine wpList_append_own _ rfl (.tmp 106) (.tmp 107) 22 rfl w5.heap.size 5 i0 (.int .u8 0) 1 1 Try.underlying22 hi hz0 hz1 hz2 rfl (by decide) _ _ _ rfl (hO9.alloc _) ⟨w9.heap.size, 0, none⟩ 2 2 [bc 91, bc 93] rfl rfl (cell_two_new _ _ _ _) (bc_one [91, 93]) (by have := HL9.out; unfold maxLen; omega) (by have := HL9.out; omega) (Nat.le_trans hs9 (by simp)) ?_; intro v10 w10 hown10 hg10 ha10; clear ha10)
            have hb10 : Below w5.heap.size w9 w10 := Ow.below (hO9.alloc _) ((Below.refl _ w9).alloc hs9 _) (Nat.le_trans hs9 (by simp)) hg10
            have hs10 : w5.heap.size ≤ w10.heap.size := Nat.le_trans hs9 hb10.size
            have hO10 : Ow w5.heap.size w10 v10 (((([91] ++ items d i) ++ [10]) ++ List.replicate (2 * (d + 1)) 32) ++ [91, 93]) := Ow.of hown10 (by rw [List.length_append (bs := [91, 93])]; rfl) (by rw [List.map_append (l₂ := [91, 93])]; rfl)
            clear hown10 hg10 hO9
            have hO11 : Ow w5.heap.size w10 v10 ([91] ++ items d (i + 1)) := by
              rw [next_plain d i h0]; exact hO10
            have hB11 := ((hB.trans hb8).trans hb9).trans hb10
            clear hO10 hb8 hb9 hb10
            go_wp2
            go_roundw
            case rel => exact ⟨i + 1, _, by omega, by go_num, rfl, hO11, hs10, hB11⟩
            case measure => simp [intOf]; omega
        · have hij' : i = j := by omega
          subst hij'
          by_cases h0 : 0 < i
          · go_wp2_with (at_builtin; refine wpList_append_own _ rfl (.tmp 111) (.tmp 112) 22 rfl w5.heap.size 5 i0 (.int .u8 0) 1 1 Try.underlying22 hi hz0 hz1 hz2 rfl (by decide) _ _ _ rfl (hO.alloc _) ⟨wr.heap.size, 0, none⟩ 1 1 [bc 10] rfl rfl (cell_one_new _ _ _) (bc_one [10]) (by have := HL.out; unfold maxLen; omega) (by have := HL.out; omega) (Nat.le_trans hs (by simp)) ?_; intro v8 w8 hown8 hg8 ha8; clear ha8)
            have hb8 : Below w5.heap.size wr w8 := Ow.below (hO.alloc _) ((Below.refl _ wr).alloc hs _) (Nat.le_trans hs (by simp)) hg8
            have hs8 : w5.heap.size ≤ w8.heap.size := Nat.le_trans hs hb8.size
            have hO8 : Ow w5.heap.size w8 v8 (([91] ++ items d i) ++ [10]) := Ow.of hown8 (by rw [List.length_append (bs := [10])]; rfl) (by rw [List.map_append (l₂ := [10])]; rfl)
            clear hown8 hg8 hO
            have HL8 : Hid (((([91] ++ items d i) ++ [10])).length ≤ 1048579) := (by have := HL.out; rw [List.length_append (bs := [10])]; simp only [List.length_cons, List.length_nil]; omega : ((([91] ++ items d i) ++ [10])).length ≤ 1048579)
            refine (spaces_any w5.heap.size _ _ _ (2 * d) w8 (by simp) hO8 hs8 (by have := HL8.out; omega) (by omega)).mono ?_
            rintro e w9 ⟨v9, rfl, hO9, hb9⟩
            have hs9 : w5.heap.size ≤ w9.heap.size := Nat.le_trans hs8 hb9.size
            clear hO8
            have HL9 : Hid ((((([91] ++ items d i) ++ [10]) ++ List.replicate (2 * d) 32)).length ≤ 1052000) := (by have := HL8.out; rw [List.length_append (bs := List.replicate (2 * d) 32), List.length_replicate]; omega : (((([91] ++ items d i) ++ [10]) ++ List.replicate (2 * d) 32)).length ≤ 1052000)
            go_wp2_with (at_builtin; refine wpList_append_own _ rfl (.tmp 118) (.tmp 119) 22 rfl w5.heap.size 5 i0 (.int .u8 0) 1 1 Try.underlying22 hi hz0 hz1 hz2 rfl (by decide) _ _ _ rfl (hO9.alloc _) ⟨w9.heap.size, 0, none⟩ 1 1 [bc 93] rfl rfl (cell_one_new _ _ _) (bc_one [93]) (by have := HL9.out; unfold maxLen; omega) (by have := HL9.out; omega) (Nat.le_trans hs9 (by simp)) ?_; intro v10 w10 hown10 hg10 ha10; clear ha10)
            have hb10 : Below w5.heap.size w9 w10 := Ow.below (hO9.alloc _) ((Below.refl _ w9).alloc hs9 _) (Nat.le_trans hs9 (by simp)) hg10
            have hs10 : w5.heap.size ≤ w10.heap.size := Nat.le_trans hs9 hb10.size
            have hO10 : Ow w5.heap.size w10 v10 (((([91] ++ items d i) ++ [10]) ++ List.replicate (2 * d) 32) ++ [93]) := Ow.of hown10 (by rw [List.length_append (bs := [93])]; rfl) (by rw [List.map_append (l₂ := [93])]; rfl)
            clear hown10 hg10 hO9
            have hB11 := ((hB.trans hb8).trans hb9).trans hb10
            clear hb8 hb9 hb10 hB
            have e10 : ((([91] ++ items d i) ++ [10]) ++ List.replicate (2 * d) 32) ++ [93] = TT := by rw [← HTT.out, ← wanted, if_pos h0]; simp
            rw [e10] at hO10
            clear e10
            have HNR : Hid ((nest TT).1 = 2) := (by rw [HNT.out]; exact if_neg (by omega) : (nest TT).1 = 2)
            obtain ⟨g2, cap2, rfl, hcap2, hcm2, hg12, hg22, hcell2⟩ := Ow.shape hO10 (by rw [HM.out]; exact htp)
            rw [HM.out]
            have hct : ∀ B w', Below B w10 w' → w10.heap.size ≤ B → ∀ j c, TT[j]? = some c → w'.cell? ⟨g, n + j, none⟩ = some (bc c) := by
              intro B w' hb hB j c hj
              have h4 := HC.out (n + j) c (by rw [List.getElem?_append_right (by have := HN.out; omega), HN.out, Nat.add_sub_cancel_left]; exact hj)
              have h5 := ((HB5.out w4.heap.size).cell (p := ⟨g, n + j, none⟩) hg2).trans h4
              have h10 := (hB11.cell (p := ⟨g, n + j, none⟩) (Nat.lt_of_lt_of_le hg2 hs5)).trans h5
              exact (hb.cell (p := ⟨g, n + j, none⟩) (Nat.lt_of_lt_of_le hg2 (by omega))).trans h10
            have HCT : Hid (∀ B w', Below B w10 w' → w10.heap.size ≤ B → ∀ j c, TT[j]? = some c → w'.cell? ⟨g, n + j, none⟩ = some (bc c)) := hct
            have HC2 : Hid (∀ j c, TT[j]? = some c → w10.cell? ⟨g2, j, none⟩ = some (bc c)) := hcell2
            clear hct hcell2 hO10 HC hcap2 hcm2
            refine (equal_below _ _ m _ _ TT w10 HM.out (by omega) (fun _ => ⟨g, n, rfl, HCT.out w10.heap.size w10 (Below.refl _ _) (Nat.le_refl _)⟩) (fun _ => ⟨g2, 0, rfl, fun i c hi => by rw [Nat.zero_add]; exact HC2.out i c hi⟩)).mono ?_
            rintro e w11 ⟨rfl, hb11⟩
            have HB11 : Hid (Below w5.heap.size w5 w10 ∧ ∀ B, Below B w10 w11) := ⟨hB11, hb11⟩
            clear hB11 hb11
            go_wp2_with fail
            refine (zznesting_some g n m _ TT w11 HM.out (by omega) (HCT.out w10.heap.size w11 (HB11.out.2 _) (Nat.le_refl _)) HX.out 2 HNR.out).mono ?_
            rintro e w12 ⟨rfl, rfl⟩
            have hfin : Below w.heap.size w w12 := (((HB1.out.trans (HB4.out.mono HB1.out.size)).trans (HB5.out _)).trans (HB11.out.1.mono (by have := HB1.out.size; omega))).trans (HB11.out.2 _)
            clear HB1 HB4 HB5 HB11 HCT HC2 HNR HX HNT HTT
            go_wp2
            go_ret
            exact ⟨rfl, hfin⟩
          · go_wp2_with (at_builtin; refine wpList_append_own _ rfl (.tmp 118) (.tmp 119) 22 rfl w5.heap.size 5 i0 (.int .u8 0) 1 1 Try.underlying22 hi hz0 hz1 hz2 rfl (by decide) _ _ _ rfl (hO.alloc _) ⟨wr.heap.size, 0, none⟩ 1 1 [bc 93] rfl rfl (cell_one_new _ _ _) (bc_one [93]) (by have := HL.out; unfold maxLen; omega) (by have := HL.out; omega) (Nat.le_trans hs (by simp)) ?_; intro v10 w10 hown10 hg10 ha10; clear ha10)
            have hb10 : Below w5.heap.size wr w10 := Ow.below (hO.alloc _) ((Below.refl _ wr).alloc hs _) (Nat.le_trans hs (by simp)) hg10
            have hs10 : w5.heap.size ≤ w10.heap.size := Nat.le_trans hs hb10.size
            have hO10 : Ow w5.heap.size w10 v10 (([91] ++ items d i) ++ [93]) := Ow.of hown10 (by rw [List.length_append (bs := [93])]; rfl) (by rw [List.map_append (l₂ := [93])]; rfl)
            clear hown10 hg10 hO
            have hB11 := hB.trans hb10
            clear hb10 hB
            have e10 : ([91] ++ items d i) ++ [93] = TT := by rw [← HTT.out, ← wanted, if_neg h0]; simp
            rw [e10] at hO10
            clear e10
            have HNR : Hid ((nest TT).1 = 1) := (by rw [HNT.out]; exact if_pos (by omega) : (nest TT).1 = 1)
            obtain ⟨g2, cap2, rfl, hcap2, hcm2, hg12, hg22, hcell2⟩ := Ow.shape hO10 (by rw [HM.out]; exact htp)
            rw [HM.out]
            have hct : ∀ B w', Below B w10 w' → w10.heap.size ≤ B → ∀ j c, TT[j]? = some c → w'.cell? ⟨g, n + j, none⟩ = some (bc c) := by
              intro B w' hb hB j c hj
              have h4 := HC.out (n + j) c (by rw [List.getElem?_append_right (by have := HN.out; omega), HN.out, Nat.add_sub_cancel_left]; exact hj)
              have h5 := ((HB5.out w4.heap.size).cell (p := ⟨g, n + j, none⟩) hg2).trans h4
              have h10 := (hB11.cell (p := ⟨g, n + j, none⟩) (Nat.lt_of_lt_of_le hg2 hs5)).trans h5
              exact (hb.cell (p := ⟨g, n + j, none⟩) (Nat.lt_of_lt_of_le hg2 (by omega))).trans h10
            have HCT : Hid (∀ B w', Below B w10 w' → w10.heap.size ≤ B → ∀ j c, TT[j]? = some c → w'.cell? ⟨g, n + j, none⟩ = some (bc c)) := hct
            have HC2 : Hid (∀ j c, TT[j]? = some c → w10.cell? ⟨g2, j, none⟩ = some (bc c)) := hcell2
            clear hct hcell2 hO10 HC hcap2 hcm2
            refine (equal_below _ _ m _ _ TT w10 HM.out (by omega) (fun _ => ⟨g, n, rfl, HCT.out w10.heap.size w10 (Below.refl _ _) (Nat.le_refl _)⟩) (fun _ => ⟨g2, 0, rfl, fun i c hi => by rw [Nat.zero_add]; exact HC2.out i c hi⟩)).mono ?_
            rintro e w11 ⟨rfl, hb11⟩
            have HB11 : Hid (Below w5.heap.size w5 w10 ∧ ∀ B, Below B w10 w11) := ⟨hB11, hb11⟩
            clear hB11 hb11
            go_wp2_with fail
            refine (zznesting_some g n m _ TT w11 HM.out (by omega) (HCT.out w10.heap.size w11 (HB11.out.2 _) (Nat.le_refl _)) HX.out 1 HNR.out).mono ?_
            rintro e w12 ⟨rfl, rfl⟩
            have hfin : Below w.heap.size w w12 := (((HB1.out.trans (HB4.out.mono HB1.out.size)).trans (HB5.out _)).trans (HB11.out.1.mono (by have := HB1.out.size; omega))).trans (HB11.out.2 _)
            clear HB1 HB4 HB5 HB11 HCT HC2 HNR HX HNT HTT
            go_wp2
            go_ret
            exact ⟨rfl, hfin⟩

end Go.Proofs.Qxb6003345a.AppLaw
