import Derived.Test.Qxb6003345aAppend
import Derived.Deep.QuietTactic
import Derived.BigQuiet
namespace Go.Proofs.Qxb6003345a.Appenders
open Go.RowKit
open Go.Proofs.Qxb6003345a.Append

/-- The value v owns the bytes l, in blocks from 'base' on. -/
def Ow (base : Nat) (w : World) (v : Value) (l : List UInt8) : Prop := w.ownsRow base 5 1 v l.length (l.map bc)

theorem Ow.of {base n : Nat} {w : World} {v : Value} {l r : List UInt8} {xs : List Value} (h : w.ownsRow base 5 1 v n xs) (hn : n = (l ++ r).length) (hx : xs = (l ++ r).map bc) : Ow base w v (l ++ r) := by
  unfold Ow
  rw [← hn, ← hx]
  exact h

theorem Ow.below {base n : Nat} {w0 w w' : World} {v : Value} {xs : List Value} (h : w.ownsRow base 5 1 v n xs) (hb : Below base w0 w) (hs : base ≤ w.heap.size) (hg : w.grownBy w' v.ownBlock) : Below base w0 w' :=
  hb.grown hg hs (fun j hj => (h.lt j hj).1)

/-- What 'appendNewline' writes. -/
def nl (comma : Bool) (d : Nat) : List UInt8 := (if comma then [44] else []) ++ [10] ++ List.replicate (2 * d) 32

theorem rep_two (d : Nat) : List.replicate (2 * d) (32 : UInt8) ++ [32, 32] = List.replicate (2 * (d + 1)) 32 := by
  rw [show 2 * (d + 1) = 2 * d + 1 + 1 by omega, List.replicate_succ', List.replicate_succ']
  simp

set_option maxHeartbeats 800000 in
theorem newline_plain (base : Nat) (v : Value) (l : List UInt8) (i : Int) (d : Nat) (w : World) (h : Ow base w v l) (hb : base ≤ w.heap.size) (hl : l.length ≤ 16777216) (hd : d ≤ 4096) (hi0 : i ≤ 0) :
    Calls Try.prog 31 #[v, .int .i64 i, .int .i64 d] w fun e w' => ∃ v', e = .returned v' ∧ Ow base w' v' (l ++ nl false d) ∧ Below base w w' := by
  obtain ⟨i0, hi, hz0, hz1, hz2⟩ := info_parts Clone.info5
  go_enter Try.func31, Try.ntmps31
  go_wp2_with (at_builtin; refine wpList_append_own _ rfl (.tmp 12) (.tmp 13) 22 rfl base 5 i0 (.int .u8 0) 1 1 Try.underlying22 hi hz0 hz1 hz2 rfl (by decide) v l.length (l.map bc) rfl (h.alloc _) ⟨w.heap.size, 0, none⟩ 1 1 [bc 10] rfl rfl (cell_one_new _ _ _) (bc_one [10]) (by unfold maxLen; omega) (by omega) (Nat.le_trans hb (by simp)) ?_; intro v1 w1 hown1 hg1 _)
  have hs1 : base ≤ w1.heap.size := Nat.le_trans (Nat.le_trans hb (by simp)) hg1.size
  have hB1 : Below base w w1 := Ow.below (h.alloc _) ((Below.refl base w).alloc hb _) (Nat.le_trans hb (by simp)) hg1
  go_loopw [0, 16] (fun x j wr => ∃ (k : Nat) (v2 : Value), k ≤ d ∧ j = .int .i64 k ∧ x = v2 ∧ Ow base wr v2 (l ++ nl false k) ∧ base ≤ wr.heap.size ∧ Below base w wr) (fun _ j _ => d - (intOf j).toNat)
  case atStart => exact ⟨0, _, Nat.zero_le _, rfl, rfl, Ow.of hown1 (by simp [nl]) (by simp [nl]), hs1, hB1⟩
  case round =>
    obtain ⟨k, v2, hk, rfl, rfl, hown, hbs, hB⟩ := hrel
    have hlen : (l ++ nl false k).length ≤ l.length + 2 * k + 2 := by simp [nl]; try omega
    by_cases hlt : k < d
    · go_wp2_with (at_builtin; refine Lib.wpList_append_own_string _ rfl (.tmp 18) _ 22 9 rfl base 5 i0 Try.underlying22 Try.underlying9 hi hz0 hz1 hz2 _ _ _ rfl hown _ rfl (by show _ + 2 ≤ _; unfold maxLen; omega) (by show _ + 2 ≤ _; omega) hbs ?_; intro v3 w3 hown3 hg3 _)
      have hB3 := Ow.below hown hB hbs hg3
      have hO3 : Ow base w3 v3 (l ++ nl false (k + 1)) := by
        have e : l ++ nl false (k + 1) = (l ++ nl false k) ++ [32, 32] := by simp [nl, ← rep_two]
        rw [e]
        exact Ow.of hown3 (by simp [List.length_append]; rfl) (by rw [List.map_append (l₁ := l ++ nl false k)]; rfl)
      have hs3 : base ≤ w3.heap.size := Nat.le_trans hbs hg3.size
      clear hown hown3 hg3
      go_wp2
      go_roundw
      case rel => exact ⟨k + 1, _, by omega, by go_num, rfl, hO3, hs3, hB3⟩
      case measure => simp [intOf]; omega
    · have hkd : k = d := by omega
      subst hkd
      go_wp2
      go_ret
      exact ⟨_, rfl, hown, hB⟩

set_option maxHeartbeats 800000 in
theorem newline_comma (base : Nat) (v : Value) (l : List UInt8) (i : Int) (d : Nat) (w : World) (h : Ow base w v l) (hb : base ≤ w.heap.size) (hl : l.length ≤ 16777216) (hd : d ≤ 4096) (hi0 : 0 < i) :
    Calls Try.prog 31 #[v, .int .i64 i, .int .i64 d] w fun e w' => ∃ v', e = .returned v' ∧ Ow base w' v' (l ++ nl true d) ∧ Below base w w' := by
  obtain ⟨i0, hi, hz0, hz1, hz2⟩ := info_parts Clone.info5
  go_enter Try.func31, Try.ntmps31
  go_wp2_with (first
    | (at_builtin; refine wpList_append_own _ rfl (.tmp 9) (.tmp 10) 22 rfl base 5 i0 (.int .u8 0) 1 1 Try.underlying22 hi hz0 hz1 hz2 rfl (by decide) v l.length (l.map bc) rfl (h.alloc _) ⟨w.heap.size, 0, none⟩ 1 1 [bc 44] rfl rfl (cell_one_new _ _ _) (bc_one [44]) (by unfold maxLen; omega) (by omega) (Nat.le_trans hb (by simp)) ?_; intro v0 w0 hown0 hg0 _)
    | (at_builtin; refine wpList_append_own _ rfl (.tmp 12) (.tmp 13) 22 rfl base 5 i0 (.int .u8 0) 1 1 Try.underlying22 hi hz0 hz1 hz2 rfl (by decide) v0 (l.length + 1) (l.map bc ++ [bc 44]) rfl (hown0.alloc _) ⟨w0.heap.size, 0, none⟩ 1 1 [bc 10] rfl rfl (cell_one_new _ _ _) (bc_one [10]) (by unfold maxLen; omega) (by omega) (Nat.le_trans (Nat.le_trans (Nat.le_trans hb (by simp)) hg0.size) (by simp)) ?_; intro v1 w1 hown1 hg1 _))
  have hs0 : base ≤ w0.heap.size := Nat.le_trans (Nat.le_trans hb (by simp)) hg0.size
  have hB0 : Below base w w0 := Ow.below (h.alloc _) ((Below.refl base w).alloc hb _) (Nat.le_trans hb (by simp)) hg0
  have hs1 : base ≤ w1.heap.size := Nat.le_trans (Nat.le_trans hs0 (by simp)) hg1.size
  have hB1 : Below base w w1 := Ow.below (hown0.alloc _) (hB0.alloc hs0 _) (Nat.le_trans hs0 (by simp)) hg1
  go_loopw [0, 16] (fun x j wr => ∃ (k : Nat) (v2 : Value), k ≤ d ∧ j = .int .i64 k ∧ x = v2 ∧ Ow base wr v2 (l ++ nl true k) ∧ base ≤ wr.heap.size ∧ Below base w wr) (fun _ j _ => d - (intOf j).toNat)
  case atStart => exact ⟨0, _, Nat.zero_le _, rfl, rfl, Ow.of hown1 (by simp [nl]) (by simp [nl]), hs1, hB1⟩
  case round =>
    obtain ⟨k, v2, hk, rfl, rfl, hown, hbs, hB⟩ := hrel
    have hlen : (l ++ nl true k).length ≤ l.length + 2 * k + 2 := by simp [nl]; try omega
    by_cases hlt : k < d
    · go_wp2_with (at_builtin; refine Lib.wpList_append_own_string _ rfl (.tmp 18) _ 22 9 rfl base 5 i0 Try.underlying22 Try.underlying9 hi hz0 hz1 hz2 _ _ _ rfl hown _ rfl (by show _ + 2 ≤ _; unfold maxLen; omega) (by show _ + 2 ≤ _; omega) hbs ?_; intro v3 w3 hown3 hg3 _)
      have hB3 := Ow.below hown hB hbs hg3
      have hO3 : Ow base w3 v3 (l ++ nl true (k + 1)) := by
        have e : l ++ nl true (k + 1) = (l ++ nl true k) ++ [32, 32] := by simp [nl, ← rep_two]
        rw [e]
        exact Ow.of hown3 (by simp [List.length_append]; rfl) (by rw [List.map_append (l₁ := l ++ nl true k)]; rfl)
      have hs3 : base ≤ w3.heap.size := Nat.le_trans hbs hg3.size
      clear hown hown3 hg3
      go_wp2
      go_roundw
      case rel => exact ⟨k + 1, _, by omega, by go_num, rfl, hO3, hs3, hB3⟩
      case measure => simp [intOf]; omega
    · have hkd : k = d := by omega
      subst hkd
      go_wp2
      go_ret
      exact ⟨_, rfl, hown, hB⟩

/-- appendNewline. -/
theorem newline_any (base : Nat) (v : Value) (l : List UInt8) (i : Int) (d : Nat) (w : World) (h : Ow base w v l) (hb : base ≤ w.heap.size) (hl : l.length ≤ 16777216) (hd : d ≤ 4096) :
    Calls Try.prog 31 #[v, .int .i64 i, .int .i64 d] w fun e w' => ∃ v', e = .returned v' ∧ Ow base w' v' (l ++ nl (decide (0 < i)) d) ∧ Below base w w' := by
  by_cases h0 : 0 < i
  · rw [decide_eq_true h0]
    exact newline_comma base v l i d w h hb hl hd h0
  · rw [decide_eq_false h0]
    exact newline_plain base v l i d w h hb hl hd (by omega)

set_option maxHeartbeats 400000 in
/-- ZZAppendNewline. -/
theorem zznewline_any (base : Nat) (v : Value) (l : List UInt8) (i x : Int) (d : Nat) (w : World) (hx : x = (d : Int)) (h : Ow base w v l) (hb : base ≤ w.heap.size) (hl : l.length ≤ 16777216) (hd : d ≤ 4096) :
    Calls Try.prog 11 #[v, .int .i64 i, .int .i64 x] w fun e w' => ∃ v', e = .returned v' ∧ Ow base w' v' (l ++ nl (decide (0 < i)) d) ∧ Below base w w' := by
  subst hx
  have H : Hid (Calls Try.prog 31 #[v, .int .i64 i, .int .i64 d] w fun e w' => ∃ v', e = .returned v' ∧ Ow base w' v' (l ++ nl (decide (0 < i)) d) ∧ Below base w w') := newline_any base v l i d w h hb hl hd
  generalize nl (decide (0 < i)) d = N at H ⊢
  go_enter Try.func11, Try.ntmps11
  go_wp2_with fail
  refine H.out.mono ?_
  rintro e w' ⟨v', rfl, hO, hB⟩
  clear H
  go_wp2
  go_ret
  exact ⟨_, rfl, hO, hB⟩

/-- What 'appendClose' writes. -/
def cl (n : Int) (d : Nat) (c : UInt8) : List UInt8 := (if 0 < n then nl false d else []) ++ [c]

set_option maxHeartbeats 800000 in
theorem close_none (base : Nat) (v : Value) (l : List UInt8) (n x : Int) (c : UInt8) (w : World) (h : Ow base w v l) (hb : base ≤ w.heap.size) (hl : l.length ≤ 16777216) (hn : n ≤ 0) :
    Calls Try.prog 32 #[v, .int .i64 n, .int .i64 x, .int .u8 (c.toNat : Int)] w fun e w' => ∃ v', e = .returned v' ∧ Ow base w' v' (l ++ [c]) ∧ Below base w w' := by
  obtain ⟨i0, hi, hz0, hz1, hz2⟩ := info_parts Clone.info5
  go_enter Try.func32, Try.ntmps32
  go_wp2_with (at_builtin; refine wpList_append_own _ rfl (.tmp 14) (.tmp 16) 22 rfl base 5 i0 (.int .u8 0) 1 1 Try.underlying22 hi hz0 hz1 hz2 rfl (by decide) v l.length (l.map bc) rfl (h.alloc _) ⟨w.heap.size, 0, none⟩ 1 1 [bc c] rfl rfl (cell_one_new _ _ _) (bc_one [c]) (by unfold maxLen; omega) (by omega) (Nat.le_trans hb (by simp)) ?_; intro v1 w1 hown1 hg1 _)
  have hB1 : Below base w w1 := Ow.below (h.alloc _) ((Below.refl base w).alloc hb _) (Nat.le_trans hb (by simp)) hg1
  go_ret
  exact ⟨_, rfl, Ow.of hown1 (by simp) (by simp), hB1⟩

set_option maxHeartbeats 800000 in
theorem close_some (base : Nat) (v : Value) (l : List UInt8) (n : Int) (d : Nat) (c : UInt8) (w : World) (h : Ow base w v l) (hb : base ≤ w.heap.size) (hl : l.length ≤ 8388608) (hd : d ≤ 4096) (hn : 0 < n) :
    Calls Try.prog 32 #[v, .int .i64 n, .int .i64 d, .int .u8 (c.toNat : Int)] w fun e w' => ∃ v', e = .returned v' ∧ Ow base w' v' (l ++ (nl false d ++ [c])) ∧ Below base w w' := by
  obtain ⟨i0, hi, hz0, hz1, hz2⟩ := info_parts Clone.info5
  go_enter Try.func32, Try.ntmps32
  go_wp2_with fail
  refine (newline_plain base v l 0 d w h hb (by omega) hd (Int.le_refl 0)).mono ?_
  rintro e w0 ⟨v0, rfl, hO, hB⟩
  have hs0 : base ≤ w0.heap.size := Nat.le_trans hb hB.size
  have hlen : (l ++ nl false d).length ≤ l.length + 2 * d + 2 := by simp [nl]; try omega
  go_wp2_with (at_builtin; refine wpList_append_own _ rfl (.tmp 14) (.tmp 16) 22 rfl base 5 i0 (.int .u8 0) 1 1 Try.underlying22 hi hz0 hz1 hz2 rfl (by decide) v0 _ _ rfl (hO.alloc _) ⟨w0.heap.size, 0, none⟩ 1 1 [bc c] rfl rfl (cell_one_new _ _ _) (bc_one [c]) (by unfold maxLen; omega) (by omega) (Nat.le_trans hs0 (by simp)) ?_; intro v1 w1 hown1 hg1 _)
  have hB1 : Below base w w1 := Ow.below (hO.alloc _) (hB.alloc hs0 _) (Nat.le_trans hs0 (by simp)) hg1
  have hO1 : Ow base w1 v1 (l ++ (nl false d ++ [c])) := by
    rw [← List.append_assoc]
    exact Ow.of hown1 (by simp; omega) (by simp)
  clear hown1 hg1 hO hB
  go_ret
  exact ⟨_, rfl, hO1, hB1⟩

theorem close_any (base : Nat) (v : Value) (l : List UInt8) (n : Int) (d : Nat) (c : UInt8) (w : World) (h : Ow base w v l) (hb : base ≤ w.heap.size) (hl : l.length ≤ 8388608) (hd : d ≤ 4096) :
    Calls Try.prog 32 #[v, .int .i64 n, .int .i64 d, .int .u8 (c.toNat : Int)] w fun e w' => ∃ v', e = .returned v' ∧ Ow base w' v' (l ++ cl n d c) ∧ Below base w w' := by
  by_cases h0 : 0 < n
  · have e : cl n d c = nl false d ++ [c] := by simp [cl, h0]
    rw [e]
    exact close_some base v l n d c w h hb hl hd h0
  · have e : cl n d c = [c] := by simp [cl, h0]
    rw [e]
    exact close_none base v l n d c w h hb (by omega) (by omega)

set_option maxHeartbeats 400000 in
/-- ZZAppendClose. -/
theorem zzclose_any (base : Nat) (v : Value) (l : List UInt8) (n x y : Int) (d : Nat) (c : UInt8) (w : World) (hx : x = (d : Int)) (hy : y = (c.toNat : Int)) (h : Ow base w v l) (hb : base ≤ w.heap.size) (hl : l.length ≤ 8388608) (hd : d ≤ 4096) :
    Calls Try.prog 12 #[v, .int .i64 n, .int .i64 x, .int .u8 y] w fun e w' => ∃ v', e = .returned v' ∧ Ow base w' v' (l ++ cl n d c) ∧ Below base w w' := by
  subst hx hy
  have H : Hid (Calls Try.prog 32 #[v, .int .i64 n, .int .i64 d, .int .u8 (c.toNat : Int)] w fun e w' => ∃ v', e = .returned v' ∧ Ow base w' v' (l ++ cl n d c) ∧ Below base w w') := close_any base v l n d c w h hb hl hd
  generalize cl n d c = N at H ⊢
  go_enter Try.func12, Try.ntmps12
  go_wp2_with fail
  refine H.out.mono ?_
  rintro e w' ⟨v', rfl, hO, hB⟩
  clear H
  go_wp2
  go_ret
  exact ⟨_, rfl, hO, hB⟩

set_option maxHeartbeats 800000 in
/-- zzAppendSpaces. -/
theorem spaces_any (base : Nat) (v : Value) (l : List UInt8) (x : Int) (d : Nat) (w : World) (hx : x = (d : Int)) (h : Ow base w v l) (hb : base ≤ w.heap.size) (hl : l.length ≤ 16777216) (hd : d ≤ 8192) :
    Calls Try.prog 14 #[v, .int .i64 x] w fun e w' => ∃ v', e = .returned v' ∧ Ow base w' v' (l ++ List.replicate d 32) ∧ Below base w w' := by
  subst hx
  obtain ⟨i0, hi, hz0, hz1, hz2⟩ := info_parts Clone.info5
  go_enter Try.func14, Try.ntmps14
  go_wp2
  go_loopw [0, 5] (fun x j wr => ∃ (k : Nat) (v2 : Value), k ≤ d ∧ j = .int .i64 k ∧ x = v2 ∧ Ow base wr v2 (l ++ List.replicate k 32) ∧ base ≤ wr.heap.size ∧ Below base w wr) (fun _ j _ => d - (intOf j).toNat)
  case atStart => exact ⟨0, _, Nat.zero_le _, rfl, rfl, by simpa using h, hb, Below.refl _ _⟩
  case round =>
    obtain ⟨k, v2, hk, rfl, rfl, hown, hbs, hB⟩ := hrel
    have hlen : (l ++ List.replicate k (32 : UInt8)).length = l.length + k := by simp
    have HLN : Hid ((l ++ List.replicate k (32 : UInt8)).length = l.length + k) := hlen
    by_cases hlt : k < d
    · go_wp2_with (at_builtin; refine wpList_append_own _ rfl (.tmp 11) (.tmp 12) 22 rfl base 5 i0 (.int .u8 0) 1 1 Try.underlying22 hi hz0 hz1 hz2 rfl (by decide) _ _ _ rfl (hown.alloc _) ⟨wr.heap.size, 0, none⟩ 1 1 [bc 32] rfl rfl (cell_one_new _ _ _) (bc_one [32]) (by rw [HLN.out]; unfold maxLen; omega) (by rw [HLN.out]; omega) (Nat.le_trans hbs (by simp)) ?_; intro v3 w3 hown3 hg3 _)
      have hB3 := Ow.below (hown.alloc _) (hB.alloc hbs _) (Nat.le_trans hbs (by simp)) hg3
      have hO3 : Ow base w3 v3 (l ++ List.replicate (k + 1) 32) := by
        have e : l ++ List.replicate (k + 1) (32 : UInt8) = (l ++ List.replicate k 32) ++ [32] := by rw [List.replicate_succ']; simp
        rw [e]
        exact Ow.of hown3 (by simp; omega) (by simp)
      have hs3 : base ≤ w3.heap.size := Nat.le_trans (Nat.le_trans hbs (by simp)) hg3.size
      clear hown hown3 hg3
      go_wp2
      go_roundw
      case rel => exact ⟨k + 1, _, by omega, by go_num, rfl, hO3, hs3, hB3⟩
      case measure => simp [intOf]; omega
    · have hkd : k = d := by omega
      subst hkd
      go_wp2
      go_ret
      exact ⟨_, rfl, hown, hB⟩

end Go.Proofs.Qxb6003345a.Appenders
