import Derived.Test.Qxb6603773aMeanCalls
namespace Go.Proofs.Qxb6603773a.Add
open Go.RowKit

set_option maxHeartbeats 1600000 in
/-- As add_any; and another block, whichever, stays. -/
theorem add_more (B g b' m' : Nat) (G X E : Nat → Nat) (y keep : Nat) (w : World) (hB : B ≤ g) (hg : g < w.heap.size) (hG : At w g 30 G) (hbg : g ≠ b') (hbl : b' < w.heap.size) (hE : At w b' m' E) :
    Calls Try.prog 14 #[.pointer (some ⟨g, 0, none⟩), .agg #[.float .f64 (X 0), .float .f64 (X 1), .float .f64 (X 2), .float .f64 (X 3), .float .f64 (X 4)], .float .f64 y, .float .f64 keep] w fun e w' => e = .returned (.tuple #[]) ∧ ∃ G', At w' g 30 G' ∧ Upd X y keep 25 30 G G' ∧ Below B w w' ∧ At w' b' m' E := by
  have hmul : ∀ (w : World) (x y : Nat), (binOp .mul 22 (.float .f64 x) (.float .f64 y)).run Try.prog w = .ok (.float .f64 (res .mul x y w)) (wld .mul x y w) := fun w x y => run_arith w .mul (by simp) 22 x y
  have hadd : ∀ (w : World) (x y : Nat), (binOp .add 22 (.float .f64 x) (.float .f64 y)).run Try.prog w = .ok (.float .f64 (res .add x y w)) (wld .add x y w) := fun w x y => run_arith w .add (by simp) 22 x y
  have hcw := cell_wld
  have hfw := frozen_wld
  have hsf : ∀ (w : World) (a : Addr) (x : Nat) (m : Mode), (store a (.float .f64 x) m).run Try.prog w = stored Try.prog w a (.float .f64 x) m := fun w a x m => run_store _ w a _ m rfl
  have hgb : g ≠ w.heap.size := by omega
  go_enter Try.func14, Try.ntmps14
  go_wp2
  have hX : At (w.alloc (.cells #[.float .f64 (X 0), .float .f64 (X 1), .float .f64 (X 2), .float .f64 (X 3), .float .f64 (X 4)] 23)) w.heap.size 5 X := at_box w X 23
  have hB0 : ∀ B', B' ≤ w.heap.size → Below B' w (w.alloc (.cells #[.float .f64 (X 0), .float .f64 (X 1), .float .f64 (X 2), .float .f64 (X 3), .float .f64 (X 4)] 23)) := fun B' h => (Below.refl B' w).alloc h _
  go_loopw [10] (fun c wr => ∃ (i : Nat) (G' : Nat → Nat), i ≤ 5 ∧ c = .int .i64 i ∧ At wr g 30 G' ∧ At wr w.heap.size 5 X ∧ Upd X y keep (i * 5) (25 + i) G G' ∧ Below B w wr ∧ At wr b' m' E) (fun c _ => 5 - (intOf c).toNat)
  case atStart => exact ⟨0, G, by omega, rfl, at_later hG (hB0 _ (by omega)), hX, fun k hk => ⟨fun h => by omega, fun _ => rfl⟩, hB0 B (by omega), at_later hE (hB0 _ (by omega))⟩
  case round =>
    clear hE
    obtain ⟨i, G', hi, rfl, hA, hAX, hU, hBl, hE⟩ := hrel
    clear hX hB0
    by_cases hlt : i < 5
    · go_wp2
      go_loopw [13] (fun c wr => ∃ (j : Nat) (G' : Nat → Nat), j ≤ 5 ∧ c = .int .i64 j ∧ At wr g 30 G' ∧ At wr w.heap.size 5 X ∧ Upd X y keep (i * 5 + j) (25 + i) G G' ∧ Below B w wr ∧ At wr b' m' E) (fun c _ => 5 - (intOf c).toNat)
      case atStart => exact ⟨0, G', by omega, rfl, hA, hAX, hU, hBl, hE⟩
      case round =>
        clear hA hAX hU hBl hE
        obtain ⟨j, G', hj, rfl, hA, hAX, hU, hBl, hE⟩ := hrel
        by_cases hltj : j < 5
        · have HA : Hid (At wr g 30 G') := hA
          have HX : Hid (At wr w.heap.size 5 X) := hAX
          have HU : Hid (Upd X y keep (i * 5 + j) (25 + i) G G') := hU
          have hc := (hA (i * 5 + j) (by omega)).1
          have hf := (hA (i * 5 + j) (by omega)).2
          have hxi := (hAX i hlt).1
          have hxj := (hAX j hltj).1
          have HE : Hid (∀ p q r, FOp .mul keep (G' (i * 5 + j)) p → FOp .mul (X i) (X j) q → FOp .add p q r → Ent keep (Ul X (i * 5 + j)) (Ur X y (i * 5 + j)) (G' (i * 5 + j)) r) := (by
            intro p q r h1 h2 h3
            refine ⟨p, q, h1, ?_, h3⟩
            have e1 : Ul X (i * 5 + j) = X i := by unfold Ul; rw [if_pos (by omega)]; congr 1; omega
            have e2 : Ur X y (i * 5 + j) = X j := by unfold Ur; rw [if_pos (by omega)]; congr 1; omega
            rw [e1, e2]; exact h2 : ∀ p q r, FOp .mul keep (G' (i * 5 + j)) p → FOp .mul (X i) (X j) q → FOp .add p q r → Ent keep (Ul X (i * 5 + j)) (Ur X y (i * 5 + j)) (G' (i * 5 + j)) r)
          have HEE : Hid (At wr b' m' E) := hE
          clear hA hAX hU hE
          go_wp2
          go_big_region
          all_goals
            go_wp2
            go_roundw
            case rel =>
              obtain ⟨G2, h1, h2, h3, h4⟩ := turned (m' := i * 5 + (j + 1)) (n' := 25 + i) HA.out HX.out hgb (k := i * 5 + j) (by omega) HU.out hBl ((((same_drew wr).wld _ _ _).wld _ _ _).wld _ _ _) hB (by omega) (fun x hx => by omega) (HE.out _ _ _ (fop_res ..) (fop_res ..) (fop_res ..))
              exact ⟨j + 1, G2, by omega, by go_num, h1, h2, h3, h4, Solve.at_other ((((same_drew wr).wld _ _ _).wld _ _ _).wld _ _ _) HEE.out hbg⟩
            case measure => simp [intOf]; omega
        · have hj5 : j = 5 := by omega
          subst hj5
          have HA : Hid (At wr g 30 G') := hA
          have HX : Hid (At wr w.heap.size 5 X) := hAX
          have HU : Hid (Upd X y keep (i * 5 + 5) (25 + i) G G') := hU
          have hc := (hA (25 + i) (by omega)).1
          have hf := (hA (25 + i) (by omega)).2
          have hxi := (hAX i hlt).1
          have HE : Hid (∀ p q r, FOp .mul keep (G' (25 + i)) p → FOp .mul (X i) y q → FOp .add p q r → Ent keep (Ul X (25 + i)) (Ur X y (25 + i)) (G' (25 + i)) r) := (by
            intro p q r h1 h2 h3
            refine ⟨p, q, h1, ?_, h3⟩
            have e1 : Ul X (25 + i) = X i := by unfold Ul; rw [if_neg (by omega)]; congr 1; omega
            have e2 : Ur X y (25 + i) = y := by unfold Ur; rw [if_neg (by omega)]
            rw [e1, e2]; exact h2 : ∀ p q r, FOp .mul keep (G' (25 + i)) p → FOp .mul (X i) y q → FOp .add p q r → Ent keep (Ul X (25 + i)) (Ur X y (25 + i)) (G' (25 + i)) r)
          have HEE : Hid (At wr b' m' E) := hE
          clear hA hAX hU hE
          go_wp2
          go_big_region
          all_goals
            go_wp2
            go_roundw
            case rel =>
              obtain ⟨G2, h1, h2, h3, h4⟩ := turned (m' := (i + 1) * 5) (n' := 25 + (i + 1)) HA.out HX.out hgb (k := 25 + i) (by omega) HU.out hBl ((((same_drew wr).wld _ _ _).wld _ _ _).wld _ _ _) hB (by omega) (fun x hx => by omega) (HE.out _ _ _ (fop_res ..) (fop_res ..) (fop_res ..))
              exact ⟨i + 1, G2, by omega, by go_num, h1, h2, h3, h4, Solve.at_other ((((same_drew wr).wld _ _ _).wld _ _ _).wld _ _ _) HEE.out hbg⟩
            case measure => simp [intOf]; omega
    · have hi5 : i = 5 := by omega
      subst hi5
      go_wp2
      go_end0
      exact ⟨rfl, G', hA, hU, hBl, hE⟩


set_option maxHeartbeats 800000 in
/-- ZZFitAdd; and another block stays. -/
theorem fitAdd_more (B g b' m' : Nat) (G X E : Nat → Nat) (y keep : Nat) (w : World) (hB : B ≤ g) (hg : g < w.heap.size) (hG : At w g 30 G) (hbg : g ≠ b') (hbl : b' < w.heap.size) (hE : At w b' m' E) :
    Calls Try.prog 8 #[.pointer (some ⟨g, 0, none⟩), .agg (momA X), .float .f64 y, .float .f64 keep] w fun e w' => e = .returned (.tuple #[]) ∧ ∃ G', At w' g 30 G' ∧ Upd X y keep 25 30 G G' ∧ Below B w w' ∧ At w' b' m' E := by
  unfold momA
  go_enter Try.func8, Try.ntmps8
  go_wp2_with fail
  refine (add_more B g b' m' G X E y keep _ hB (Nat.lt_of_lt_of_le hg (by simp)) (at_later hG ((Below.refl _ w).alloc hg _)) hbg (Nat.lt_of_lt_of_le hbl (by simp)) (at_later hE ((Below.refl _ w).alloc hbl _))).mono ?_
  rintro e w' ⟨rfl, G', h1, h2, h3, h4⟩
  have hb : Below B w w' := ((Below.refl B w).alloc (by omega) _).trans h3
  clear h3
  go_wp2
  go_end0
  exact ⟨rfl, G', h1, h2, hb, h4⟩

end Go.Proofs.Qxb6603773a.Add
