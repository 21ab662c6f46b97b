import Derived.Test.Qxb6603773aSolve
namespace Go.Proofs.Qxb6603773a.MeanCalls
open Go.RowKit Go.Proofs.Qxb6603773a.Add Go.Proofs.Qxb6603773a.Mean Go.Proofs.Qxb6603773a.Exact Go.Proofs.Qxb6603773a.Solve

theorem zz11_yes (w : World) (p : Option Addr) (n c : Nat) (h : n ≤ 1048576) :
    Calls Try.prog 11 #[.slice p n c] w fun e w' => e = .returned (.bool true) ∧ w' = w := by
  go_enter Try.func11, Try.ntmps11
  go_wp2
  go_ret
  exact ⟨rfl, rfl⟩

theorem zz11_no (w : World) (p : Option Addr) (n c : Nat) (hn : n ≤ maxLen) (h : ¬ n ≤ 1048576) :
    Calls Try.prog 11 #[.slice p n c] w fun e w' => e = .returned (.bool false) ∧ w' = w := by
  unfold maxLen at hn
  go_enter Try.func11, Try.ntmps11
  go_wp2
  go_ret
  exact ⟨rfl, rfl⟩

/-- sameNum. -/
theorem sameNum_any (x y : Nat) (w : World) (h : Eqv x y) : Calls Try.prog 13 #[.float .f64 x, .float .f64 y] w fun e w' => e = .returned (.bool true) ∧ w' = w := by
  by_cases he : Ieee.double.order x y = some .eq
  · have h1 : FloatKind.f64.format.order x y = some .eq := he
    clear he h
    go_enter Try.func13, Try.ntmps13
    go_wp2
    go_ret
    exact ⟨rfl, rfl⟩
  · have hn : isNan x ∧ isNan y := by
      rcases h with rfl | h
      · by_cases hx : isNan x
        · exact ⟨hx, hx⟩
        · exact absurd (order_eq hx) he
      · exact h
    have h1 : FloatKind.f64.format.order x y = none := order_nan hn.1
    have h2 : FloatKind.f64.format.order x x = none := order_nan hn.1
    have h3 : FloatKind.f64.format.order y y = none := order_nan hn.2
    clear he h hn
    go_enter Try.func13, Try.ntmps13
    go_wp2
    go_ret
    exact ⟨rfl, rfl⟩

set_option maxHeartbeats 800000 in
/-- ZZFitMoment. -/
theorem fitMoment_any (g : Nat) (G : Nat → Nat) (w : World) (hg : g < w.heap.size) (hG : At w g 30 G) :
    Calls Try.prog 12 #[.pointer (some ⟨g, 0, none⟩)] w fun e w' => e = .returned (.agg (momA fun k => G (25 + k))) ∧ Below w.heap.size w w' := by
  go_enter Try.func12, Try.ntmps12
  go_upto_region 1 with fail
  rw [show (#[Value.float FloatKind.f64 0, Value.float FloatKind.f64 0, Value.float FloatKind.f64 0, Value.float FloatKind.f64 0, Value.float FloatKind.f64 0] : Array Value) = momA fun _ => 0 from rfl]
  have hG1 := at_later hG ((Below.refl _ w).alloc hg (.cells (momA fun _ => 0) 23))
  have h23 : (w.alloc (.cells (momA fun _ => 0) 23)).rangeAt g 25 (momA fun k => G (25 + k)).toList := fun j v hj => by
    have hj' : j < 5 := by have := (List.getElem?_eq_some_iff.1 hj).1; exact this
    rw [Array.getElem?_toList, momA_at _ j hj'] at hj
    rw [← hj]
    exact (hG1 (25 + j) (by omega)).1
  have ht : (w.alloc (.cells (momA fun _ => 0) 23)).there w.heap.size 0 (momA fun k => G (25 + k)).size := by
    intro j hj
    rw [Nat.zero_add]
    have := at_new w (momA fun _ => 0) 23 5 (fun _ => 0) (momA_at _) j hj
    exact ⟨by rw [this.1]; rfl, this.2⟩
  generalize hW : w.alloc (.cells (momA fun _ => 0) 23) = W at *
  refine wp_region_lit ?_
  iterate 9 go_step
  refine wpList_load_mid rfl 23 (.tmp 5) rfl g 25 rfl (momA fun k => G (25 + k)).toList _ h23 Try.underlying23 rfl info23 ?_
  simp only [Array.toArray_toList]
  refine wpList_store_mid rfl 23 (.tmp 2) (.tmp 6) rfl w.heap.size 0 (momA fun k => G (25 + k)) rfl rfl ht info23 (momA_one _) ?_
  have hr := range_setCells (vs := (momA fun k => G (25 + k)).toList) (by simpa using ht)
  have hb : Below w.heap.size w (W.setCells w.heap.size 0 (momA fun k => G (25 + k)).toList) := below_setCells (Nat.le_refl _) _ _ _ _ (by rw [← hW]; exact (Below.refl _ w).alloc (Nat.le_refl _) _)
  clear ht h23
  go_wp2
  refine bodyPost_ret (results_cell_mid rfl _ _ w.heap.size (momA fun k => G (25 + k)).toList _ rfl hr Try.underlying23 rfl info23) rfl ?_
  exact ⟨rfl, hb⟩

set_option maxHeartbeats 800000 in
/-- ZZFitSolve. -/
theorem fitSolve_any (n g : Nat) (G Bv : Nat → Nat) (w : World) (hg : g < w.heap.size) (hG : At w g 30 G) (hGs : Gs n G) (hn : n ≤ 65536) (hb : Sm (Bv 0) (Bv 0)) :
    Calls Try.prog 10 #[.pointer (some ⟨g, 0, none⟩), .agg (momA Bv)] w fun e w' => ∃ R, e = .returned (.agg (momA R)) ∧ (∀ k, 0 < k → k < 5 → R k = 0) ∧ (n = 0 → R 0 = 0) ∧ (n ≠ 0 → ∃ s, Sm s (Bv 0) ∧ FOp .quo s (cnt n) (R 0)) ∧ Below w.heap.size w w' := by
  have s1 : (momA Bv).size = 5 := rfl
  go_enter Try.func10, Try.ntmps10
  go_upto_region 1 with fail
  rw [show (#[Value.float FloatKind.f64 0, Value.float FloatKind.f64 0, Value.float FloatKind.f64 0, Value.float FloatKind.f64 0, Value.float FloatKind.f64 0] : Array Value) = momA fun _ => 0 from rfl]
  have hB1 : Below w.heap.size w ((w.alloc (.cells (momA Bv) 23)).alloc (.cells (momA fun _ => 0) 23)) := ((Below.refl _ w).alloc (Nat.le_refl _) _).alloc (by simp) _
  have a3 : At ((w.alloc (.cells (momA Bv) 23)).alloc (.cells (momA fun _ => 0) 23)) w.heap.size 5 Bv := at_later (at_new w (momA Bv) 23 5 Bv (momA_at Bv)) ((Below.refl _ _).alloc (by simp) _)
  have a4 : At ((w.alloc (.cells (momA Bv) 23)).alloc (.cells (momA fun _ => 0) 23)) (w.heap.size + 1) 5 (fun _ => 0) := by
    have := at_new (w.alloc (.cells (momA Bv) 23)) (momA fun _ => 0) 23 5 (fun _ => 0) (momA_at _)
    simpa using this
  have ag : At ((w.alloc (.cells (momA Bv) 23)).alloc (.cells (momA fun _ => 0) 23)) g 30 G := at_later hG (hB1.mono (by omega))
  have hz1 : ((w.alloc (.cells (momA Bv) 23)).alloc (.cells (momA fun _ => 0) 23)).heap.size = w.heap.size + 1 + 1 := by simp
  generalize (w.alloc (.cells (momA Bv) 23)).alloc (.cells (momA fun _ => 0) 23) = w1 at *
  have h23 : w1.rangeAt w.heap.size 0 (momA Bv).toList := rangeAt_of a3 (Nat.le_refl _) (momA_at Bv)
  refine wp_region_lit ?_
  iterate 3 go_step
  refine wpList_load_mid rfl 23 (.tmp 3) rfl w.heap.size 0 rfl (momA Bv).toList _ h23 Try.underlying23 rfl info23 ?_
  simp only [Array.toArray_toList]
  clear h23
  go_wp2_with fail
  refine (solve_any n g G Bv w1 (by omega) ag hGs hn hb).mono ?_
  rintro e w2 ⟨R, rfl, r1, r2, r3, hb2⟩
  have a4' : At w2 (w.heap.size + 1) 5 (fun _ => 0) := at_later a4 (hb2.mono (by omega))
  have hB2 : Below w.heap.size w w2 := hB1.trans (hb2.mono (by omega))
  have ht : w2.there (w.heap.size + 1) 0 (momA R).size := fun j hj => by
    rw [Nat.zero_add]
    have := a4' j hj
    exact ⟨by rw [this.1]; rfl, this.2⟩
  clear a3 a4 ag hb2 hB1
  dsimp only
  go_step
  refine wpList_store_mid rfl 23 (.tmp 4) (.tmp 7) rfl (w.heap.size + 1) 0 (momA R) rfl rfl ht info23 (momA_one R) ?_
  have hr := range_setCells (w := w2) (b := w.heap.size + 1) (vs := (momA R).toList) (by simpa using ht)
  have hfin : Below w.heap.size w (w2.setCells (w.heap.size + 1) 0 (momA R).toList) := below_setCells (by omega) _ _ _ _ hB2
  clear ht a4' hB2
  go_wp2
  refine bodyPost_ret (results_cell_mid rfl _ _ (w.heap.size + 1) (momA R).toList _ rfl hr Try.underlying23 rfl info23) rfl ?_
  exact ⟨R, rfl, r1, r2, r3, hfin⟩

end Go.Proofs.Qxb6603773a.MeanCalls
