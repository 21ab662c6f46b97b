import Derived.Test.Qxb6603773aRows
import Derived.Test.Qxb6603773aRung
import Derived.WalkKit
import Derived.Below
import Derived.WalkSmall
import Derived.BigRegion
namespace Go.Proofs.Qxb6603773a.Add
open Go.RowKit

/-- What an operation on floats gives, in the world w. -/
def res (op : BinOp) (x y : Nat) (w : World) : Nat := match floatBits op .f64 x y with
  | some r => r
  | none => (Question.nanBits .f64 x y).cut (w.tape w.drawn (.nanBits .f64 x y))
def wld (op : BinOp) (x y : Nat) (w : World) : World := match floatBits op .f64 x y with
  | some _ => w
  | none => w.drew

theorem run_arith {P : Program} (w : World) (op : BinOp) (ho : op = .add ∨ op = .sub ∨ op = .mul ∨ op = .quo) (t : TypeId) (x y : Nat) : (binOp op t (.float .f64 x) (.float .f64 y)).run P w = .ok (.float .f64 (res op x y w)) (wld op x y w) := by
  unfold res wld
  cases h : floatBits op .f64 x y with
  | some r => exact run_float_arith w op t .f64 x y r h
  | none =>
    rcases ho with rfl | rfl | rfl | rfl
    all_goals
      simp only [floatBits] at h
      simp [binOp, Op.floatArith, h, choose, Sem.run, Question.forced]
      try rfl

theorem cell_wld (op : BinOp) (x y : Nat) (w : World) (a : Addr) : (wld op x y w).cell? a = w.cell? a := by
  unfold wld
  split <;> rfl

theorem frozen_wld (op : BinOp) (x y : Nat) (w : World) (a : Addr) : (wld op x y w).frozen? a = w.frozen? a := by
  unfold wld
  split <;> rfl

def isNan (r : Nat) : Prop := ∃ s t, Ieee.double.read r = .nan s t
def FOp (op : BinOp) (x y r : Nat) : Prop := floatBits op .f64 x y = some r ∨ (floatBits op .f64 x y = none ∧ isNan r)
def Ent (keep u v a r : Nat) : Prop := ∃ p q, FOp .mul keep a p ∧ FOp .mul u v q ∧ FOp .add p q r

/-- What stands to the left and to the right in the product that cell k is given. -/
def Ul (X : Nat → Nat) (k : Nat) : Nat := if k < 25 then X (k / 5) else X (k - 25)
def Ur (X : Nat → Nat) (y k : Nat) : Nat := if k < 25 then X (k % 5) else y
/-- The cells below m, and those from 25 up to n, are turned. -/
def Upd (X : Nat → Nat) (y keep m n : Nat) (G G' : Nat → Nat) : Prop :=
  ∀ k, k < 30 → (((k < 25 ∧ k < m) ∨ (25 ≤ k ∧ k < n)) → Ent keep (Ul X k) (Ur X y k) (G k) (G' k)) ∧ (¬ ((k < 25 ∧ k < m) ∨ (25 ≤ k ∧ k < n)) → G' k = G k)
def At (w : World) (g n : Nat) (G : Nat → Nat) : Prop := ∀ k, k < n → w.cell? ⟨g, k, none⟩ = some (.float .f64 (G k)) ∧ w.frozen? ⟨g, k, none⟩ = false

theorem nan_cut (x y t : Nat) : isNan ((Question.nanBits .f64 x y).cut t) := by
  have e : (Question.nanBits .f64 x y).cut t = (t % 2) * 2 ^ 63 + 0x7ff0000000000000 + 1 + (t / 2) % (2 ^ 52 - 1) := rfl
  rw [e]
  have hc : (t / 2) % (2 ^ 52 - 1) < 2 ^ 52 - 1 := Nat.mod_lt _ (by decide)
  generalize (t / 2) % (2 ^ 52 - 1) = c at hc
  have hr : ((t % 2) * 2 ^ 63 + 0x7ff0000000000000 + 1 + c) % 9223372036854775808 = 0x7ff0000000000001 + c := by omega
  unfold isNan Ieee.Format.read
  rw [Rung.signWeight, Rung.infRung, Rung.binade]
  simp only [hr]
  rw [if_neg (by omega), if_neg (by omega), if_neg (by omega)]
  exact ⟨_, _, rfl⟩

theorem fop_res (op : BinOp) (x y : Nat) (w : World) : FOp op x y (res op x y w) := by
  unfold FOp res
  cases h : floatBits op .f64 x y with
  | some r => exact Or.inl rfl
  | none => exact Or.inr ⟨rfl, nan_cut x y _⟩

/-- W reads as w does, and made nothing. -/
def Same (w W : World) : Prop := (∀ a, W.cell? a = w.cell? a) ∧ (∀ a, W.frozen? a = w.frozen? a) ∧ ∀ B, Below B w W

theorem same_drew (w : World) : Same w w.drew := ⟨fun _ => rfl, fun _ => rfl, fun B => (Below.refl B w).drew⟩
theorem Same.wld {w W : World} (h : Same w W) (op : BinOp) (x y : Nat) : Same w (wld op x y W) :=
  ⟨fun a => (cell_wld op x y W a).trans (h.1 a), fun a => (frozen_wld op x y W a).trans (h.2.1 a), fun B => by
    unfold Add.wld
    split
    · exact h.2.2 B
    · exact (h.2.2 B).drew⟩

theorem turned {B g b k m n m' n' r y keep : Nat} {G G' X : Nat → Nat} {w wr W : World} (hA : At wr g 30 G') (hAX : At wr b 5 X) (hgb : g ≠ b) (hk : k < 30) (hU : Upd X y keep m n G G') (hBl : Below B w wr) (hW : Same wr W) (hBg : B ≤ g)
    (hnot : ¬ ((k < 25 ∧ k < m) ∨ (25 ≤ k ∧ k < n))) (hm : ∀ x, x < 30 → (((x < 25 ∧ x < m') ∨ (25 ≤ x ∧ x < n')) ↔ (x = k ∨ (x < 25 ∧ x < m) ∨ (25 ≤ x ∧ x < n)))) (hE : Ent keep (Ul X k) (Ur X y k) (G' k) r) :
    ∃ G'', At (W.setCell ⟨g, k, none⟩ (.float .f64 r)) g 30 G'' ∧ At (W.setCell ⟨g, k, none⟩ (.float .f64 r)) b 5 X ∧ Upd X y keep m' n' G G'' ∧ Below B w (W.setCell ⟨g, k, none⟩ (.float .f64 r)) := by
  refine ⟨fun x => if x = k then r else G' x, fun x hx => ⟨?_, ?_⟩, fun x hx => ⟨?_, ?_⟩, fun x hx => ⟨fun hp => ?_, fun hp => ?_⟩, ?_⟩
  · by_cases hxk : x = k
    · subst hxk
      dsimp only
      rw [if_pos rfl]
      exact World.cell?_setCell_same (w := W) (v := _) (h := (hW.1 _).trans (hA x hx).1)
    · dsimp only
      rw [if_neg hxk, World.cell?_setCell_other (w := W) (h := by intro h; injection h with _ h _; exact hxk h.symm)]
      exact (hW.1 _).trans (hA x hx).1
  · rw [World.frozen?_setCell]
    exact (hW.2.1 _).trans (hA x hx).2
  · rw [World.cell?_setCell_other (w := W) (h := by intro h; injection h with h _ _; exact hgb h)]
    exact (hW.1 _).trans (hAX x hx).1
  · rw [World.frozen?_setCell]
    exact (hW.2.1 _).trans (hAX x hx).2
  · by_cases hxk : x = k
    · subst hxk
      simp only [if_true]
      rw [← (hU x hx).2 hnot]
      exact hE
    · simp only [if_neg hxk]
      have := (hm x hx).1 hp
      exact (hU x hx).1 (by omega)
  · have h1 : ¬ (x = k ∨ (x < 25 ∧ x < m) ∨ (25 ≤ x ∧ x < n)) := fun h => hp ((hm x hx).2 h)
    have hxk : ¬ x = k := fun h => h1 (Or.inl h)
    simp only [if_neg hxk]
    exact (hU x hx).2 (fun h => h1 (Or.inr h))
  · exact (hBl.trans (hW.2.2 B)).setCell hBg _

theorem at_box (w : World) (X : Nat → Nat) (t : TypeId) : At (w.alloc (.cells #[.float .f64 (X 0), .float .f64 (X 1), .float .f64 (X 2), .float .f64 (X 3), .float .f64 (X 4)] t)) w.heap.size 5 X := by
  intro k hk
  refine ⟨?_, World.frozen?_alloc_new _ _ _ _⟩
  rw [World.cell?_alloc_new]
  match k, hk with
  | 0, _ => rfl
  | 1, _ => rfl
  | 2, _ => rfl
  | 3, _ => rfl
  | 4, _ => rfl

theorem at_later {w w' : World} {g n : Nat} {G : Nat → Nat} (h : At w g n G) (hb : Below (g + 1) w w') : At w' g n G := fun k hk =>
  ⟨(hb.cell (p := ⟨g, k, none⟩) (Nat.lt_succ_self _)).trans (h k hk).1, (hb.frozen (p := ⟨g, k, none⟩) (Nat.lt_succ_self _)).trans (h k hk).2⟩

set_option maxHeartbeats 1600000 in
theorem add_any (B g : Nat) (G X : Nat → Nat) (y keep : Nat) (w : World) (hB : B ≤ g) (hg : g < w.heap.size) (hG : At w g 30 G) :
    Calls Try.prog 14 #[.pointer (some ⟨g, 0, none⟩), .agg #[.float .f64 (X 0), .float .f64 (X 1), .float .f64 (X 2), .float .f64 (X 3), .float .f64 (X 4)], .float .f64 y, .float .f64 keep] w fun e w' => e = .returned (.tuple #[]) ∧ ∃ G', At w' g 30 G' ∧ Upd X y keep 25 30 G G' ∧ Below B w w' := by
  have hmul : ∀ (w : World) (x y : Nat), (binOp .mul 22 (.float .f64 x) (.float .f64 y)).run Try.prog w = .ok (.float .f64 (res .mul x y w)) (wld .mul x y w) := fun w x y => run_arith w .mul (by simp) 22 x y
  have hadd : ∀ (w : World) (x y : Nat), (binOp .add 22 (.float .f64 x) (.float .f64 y)).run Try.prog w = .ok (.float .f64 (res .add x y w)) (wld .add x y w) := fun w x y => run_arith w .add (by simp) 22 x y
  have hcw := cell_wld
  have hfw := frozen_wld
  have hsf : ∀ (w : World) (a : Addr) (x : Nat) (m : Mode), (store a (.float .f64 x) m).run Try.prog w = stored Try.prog w a (.float .f64 x) m := fun w a x m => run_store _ w a _ m rfl
  have hgb : g ≠ w.heap.size := by omega
  go_enter Try.func14, Try.ntmps14
  go_wp2
  have hX : At (w.alloc (.cells #[.float .f64 (X 0), .float .f64 (X 1), .float .f64 (X 2), .float .f64 (X 3), .float .f64 (X 4)] 23)) w.heap.size 5 X := at_box w X 23
  have hB0 : ∀ B', B' ≤ w.heap.size → Below B' w (w.alloc (.cells #[.float .f64 (X 0), .float .f64 (X 1), .float .f64 (X 2), .float .f64 (X 3), .float .f64 (X 4)] 23)) := fun B' h => (Below.refl B' w).alloc h _
  go_loopw [10] (fun c wr => ∃ (i : Nat) (G' : Nat → Nat), i ≤ 5 ∧ c = .int .i64 i ∧ At wr g 30 G' ∧ At wr w.heap.size 5 X ∧ Upd X y keep (i * 5) (25 + i) G G' ∧ Below B w wr) (fun c _ => 5 - (intOf c).toNat)
  case atStart => exact ⟨0, G, by omega, rfl, at_later hG (hB0 _ (by omega)), hX, fun k hk => ⟨fun h => by omega, fun _ => rfl⟩, hB0 B (by omega)⟩
  case round =>
    obtain ⟨i, G', hi, rfl, hA, hAX, hU, hBl⟩ := hrel
    clear hX hB0
    by_cases hlt : i < 5
    · go_wp2
      go_loopw [13] (fun c wr => ∃ (j : Nat) (G' : Nat → Nat), j ≤ 5 ∧ c = .int .i64 j ∧ At wr g 30 G' ∧ At wr w.heap.size 5 X ∧ Upd X y keep (i * 5 + j) (25 + i) G G' ∧ Below B w wr) (fun c _ => 5 - (intOf c).toNat)
      case atStart => exact ⟨0, G', by omega, rfl, hA, hAX, hU, hBl⟩
      case round =>
        clear hA hAX hU hBl
        obtain ⟨j, G', hj, rfl, hA, hAX, hU, hBl⟩ := hrel
        by_cases hltj : j < 5
        · have HA : Hid (At wr g 30 G') := hA
          have HX : Hid (At wr w.heap.size 5 X) := hAX
          have HU : Hid (Upd X y keep (i * 5 + j) (25 + i) G G') := hU
          have hc := (hA (i * 5 + j) (by omega)).1
          have hf := (hA (i * 5 + j) (by omega)).2
          have hxi := (hAX i hlt).1
          have hxj := (hAX j hltj).1
          have HE : Hid (∀ p q r, FOp .mul keep (G' (i * 5 + j)) p → FOp .mul (X i) (X j) q → FOp .add p q r → Ent keep (Ul X (i * 5 + j)) (Ur X y (i * 5 + j)) (G' (i * 5 + j)) r) := (by
            intro p q r h1 h2 h3
            refine ⟨p, q, h1, ?_, h3⟩
            have e1 : Ul X (i * 5 + j) = X i := by unfold Ul; rw [if_pos (by omega)]; congr 1; omega
            have e2 : Ur X y (i * 5 + j) = X j := by unfold Ur; rw [if_pos (by omega)]; congr 1; omega
            rw [e1, e2]; exact h2 : ∀ p q r, FOp .mul keep (G' (i * 5 + j)) p → FOp .mul (X i) (X j) q → FOp .add p q r → Ent keep (Ul X (i * 5 + j)) (Ur X y (i * 5 + j)) (G' (i * 5 + j)) r)
          clear hA hAX hU
          go_wp2
          go_big_region
          all_goals
            go_wp2
            go_roundw
            case rel =>
              obtain ⟨G2, h1, h2, h3, h4⟩ := turned (m' := i * 5 + (j + 1)) (n' := 25 + i) HA.out HX.out hgb (k := i * 5 + j) (by omega) HU.out hBl ((((same_drew wr).wld _ _ _).wld _ _ _).wld _ _ _) hB (by omega) (fun x hx => by omega) (HE.out _ _ _ (fop_res ..) (fop_res ..) (fop_res ..))
              exact ⟨j + 1, G2, by omega, by go_num, h1, h2, h3, h4⟩
            case measure => simp [intOf]; omega
        · have hj5 : j = 5 := by omega
          subst hj5
          have HA : Hid (At wr g 30 G') := hA
          have HX : Hid (At wr w.heap.size 5 X) := hAX
          have HU : Hid (Upd X y keep (i * 5 + 5) (25 + i) G G') := hU
          have hc := (hA (25 + i) (by omega)).1
          have hf := (hA (25 + i) (by omega)).2
          have hxi := (hAX i hlt).1
          have HE : Hid (∀ p q r, FOp .mul keep (G' (25 + i)) p → FOp .mul (X i) y q → FOp .add p q r → Ent keep (Ul X (25 + i)) (Ur X y (25 + i)) (G' (25 + i)) r) := (by
            intro p q r h1 h2 h3
            refine ⟨p, q, h1, ?_, h3⟩
            have e1 : Ul X (25 + i) = X i := by unfold Ul; rw [if_neg (by omega)]; congr 1; omega
            have e2 : Ur X y (25 + i) = y := by unfold Ur; rw [if_neg (by omega)]
            rw [e1, e2]; exact h2 : ∀ p q r, FOp .mul keep (G' (25 + i)) p → FOp .mul (X i) y q → FOp .add p q r → Ent keep (Ul X (25 + i)) (Ur X y (25 + i)) (G' (25 + i)) r)
          clear hA hAX hU
          go_wp2
          go_big_region
          all_goals
            go_wp2
            go_roundw
            case rel =>
              obtain ⟨G2, h1, h2, h3, h4⟩ := turned (m' := (i + 1) * 5) (n' := 25 + (i + 1)) HA.out HX.out hgb (k := 25 + i) (by omega) HU.out hBl ((((same_drew wr).wld _ _ _).wld _ _ _).wld _ _ _) hB (by omega) (fun x hx => by omega) (HE.out _ _ _ (fop_res ..) (fop_res ..) (fop_res ..))
              exact ⟨i + 1, G2, by omega, by go_num, h1, h2, h3, h4⟩
            case measure => simp [intOf]; omega
    · have hi5 : i = 5 := by omega
      subst hi5
      go_wp2
      go_end0
      exact ⟨rfl, G', hA, hU, hBl⟩

end Go.Proofs.Qxb6603773a.Add
