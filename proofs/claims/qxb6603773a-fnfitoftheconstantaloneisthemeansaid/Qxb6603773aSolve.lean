import Derived.Test.Qxb6603773aAddLaw
import Derived.Test.Qxb6603773aMean
import Derived.Deep.QuietTactic
import Derived.BigQuiet
namespace Go.Proofs.Qxb6603773a.Solve
open Go.RowKit Go.Proofs.Qxb6603773a.Add Go.Proofs.Qxb6603773a.Mean Go.Proofs.Qxb6603773a.Exact

theorem at_other {wr W : World} (hW : Same wr W) {b n b' k : Nat} {G : Nat → Nat} {v : Value} (h : At wr b n G) (hne : b' ≠ b) : At (W.setCell ⟨b', k, none⟩ v) b n G := fun x hx =>
  ⟨by rw [World.cell?_setCell_other (w := W) (h := by intro e; injection e with e _ _; exact hne e)]; exact (hW.1 _).trans (h x hx).1, by rw [World.frozen?_setCell]; exact (hW.2.1 _).trans (h x hx).2⟩

theorem at_put {wr W : World} (hW : Same wr W) {b n k r : Nat} {G : Nat → Nat} (h : At wr b n G) (hk : k < n) : At (W.setCell ⟨b, k, none⟩ (.float .f64 r)) b n (fun x => if x = k then r else G x) := fun x hx => by
  refine ⟨?_, by rw [World.frozen?_setCell]; exact (hW.2.1 _).trans (h x hx).2⟩
  by_cases e : x = k
  · subst e
    dsimp only
    rw [if_pos rfl]
    exact World.cell?_setCell_same (w := W) (v := _) (h := (hW.1 _).trans (h x hx).1)
  · dsimp only
    rw [if_neg e, World.cell?_setCell_other (w := W) (h := by intro h; injection h with _ h _; exact e h.symm)]
    exact (hW.1 _).trans (h x hx).1

theorem at_congr {w : World} {b n : Nat} {G H : Nat → Nat} (h : At w b n G) (e : ∀ k, k < n → G k = H k) : At w b n H := fun k hk => by rw [← e k hk]; exact h k hk

theorem same_refl (w : World) : Same w w := ⟨fun _ => rfl, fun _ => rfl, fun B => Below.refl B w⟩

/-- The marks 'kept': the first is v, the others are false. -/
def Kb (w : World) (b : Nat) (v : Bool) : Prop := ∀ k, k < 5 → w.cell? ⟨b, k, none⟩ = some (.bool (v && decide (k = 0))) ∧ w.frozen? ⟨b, k, none⟩ = false

theorem kb_other {wr W : World} (hW : Same wr W) {b b' k : Nat} {v : Bool} {u : Value} (h : Kb wr b v) (hne : b' ≠ b) : Kb (W.setCell ⟨b', k, none⟩ u) b v := fun x hx =>
  ⟨by rw [World.cell?_setCell_other (w := W) (h := by intro e; injection e with e _ _; exact hne e)]; exact (hW.1 _).trans (h x hx).1, by rw [World.frozen?_setCell]; exact (hW.2.1 _).trans (h x hx).2⟩
theorem kb_same {w W : World} (h : Same w W) {b : Nat} {v : Bool} (hA : Kb w b v) : Kb W b v := fun k hk => ⟨(h.1 _).trans (hA k hk).1, (h.2.1 _).trans (hA k hk).2⟩
theorem at_same {w W : World} (h : Same w W) {g n : Nat} {G : Nat → Nat} (hA : At w g n G) : At W g n G := fun k hk => ⟨(h.1 _).trans (hA k hk).1, (h.2.1 _).trans (hA k hk).2⟩
theorem kb_put {wr : World} {b : Nat} {v : Bool} (h : Kb wr b v) : Kb (wr.setCell ⟨b, 0, none⟩ (.bool true)) b true := fun x hx => by
  refine ⟨?_, by rw [World.frozen?_setCell]; exact (h x hx).2⟩
  by_cases e : x = 0
  · subst e
    exact World.cell?_setCell_same (w := wr) (v := _) (h := (h 0 hx).1)
  · rw [World.cell?_setCell_other (w := wr) (h := by intro h; injection h with _ h _; exact e h.symm), (h x hx).1]
    simp [e]

/-- What stands in memory while 'solve' goes on: the fit at g; b (its head unturned), the result, a, kept, from q on. -/
def St (g q : Nat) (G Bv : Nat → Nat) (v : Bool) (w : World) : Prop :=
  At w g 30 G ∧ (∃ B', B' 0 = Bv 0 ∧ At w q 5 B') ∧ At w (q + 1) 5 (fun _ => 0) ∧ At w (q + 1 + 1) 25 G ∧ Kb w (q + 1 + 1 + 1) v ∧ q + 4 ≤ w.heap.size

theorem st_same {g q : Nat} {G Bv : Nat → Nat} {v : Bool} {w W : World} (h : St g q G Bv v w) (hs : Same w W) : St g q G Bv v W := by
  obtain ⟨h1, ⟨B', e, h2⟩, h3, h4, h5, h6⟩ := h
  exact ⟨at_same hs h1, ⟨B', e, at_same hs h2⟩, at_same hs h3, at_same hs h4, kb_same hs h5, Nat.le_trans h6 (hs.2.2 0).size⟩

theorem st_later {g q : Nat} {G Bv : Nat → Nat} {v : Bool} {w W : World} (h : St g q G Bv v w) (hg : g < q) (hb : Below w.heap.size w W) : St g q G Bv v W := by
  obtain ⟨h1, ⟨B', e, h2⟩, h3, h4, h5, h6⟩ := h
  refine ⟨at_later h1 (hb.mono (by omega)), ⟨B', e, at_later h2 (hb.mono (by omega))⟩, at_later h3 (hb.mono (by omega)), at_later h4 (hb.mono (by omega)), fun k hk => ?_, Nat.le_trans h6 hb.size⟩
  exact ⟨(hb.cell (p := ⟨q + 1 + 1 + 1, k, none⟩) (by simp; omega)).trans (h5 k hk).1, (hb.frozen (p := ⟨q + 1 + 1 + 1, k, none⟩) (by simp; omega)).trans (h5 k hk).2⟩

theorem size_setCells (b : Nat) : ∀ (vs : List Value) (o : Nat) (w : World), (w.setCells b o vs).heap.size = w.heap.size
  | [], _, _ => rfl
  | v :: vs, o, w => (size_setCells b vs (o + 1) _).trans (by simp)

set_option maxHeartbeats 4000000 in
set_option maxRecDepth 100000 in
theorem solve_any (n g : Nat) (G Bv : Nat → Nat) (w : World) (hg : g < w.heap.size) (hG : At w g 30 G) (hGs : Gs n G) (hn : n ≤ 65536) (hb : Sm (Bv 0) (Bv 0)) :
    Calls Try.prog 15 #[.pointer (some ⟨g, 0, none⟩), .agg (momA Bv)] w fun e w' => ∃ R, e = .returned (.agg (momA R)) ∧ (∀ k, 0 < k → k < 5 → R k = 0) ∧ (n = 0 → R 0 = 0) ∧ (n ≠ 0 → ∃ s, Sm s (Bv 0) ∧ FOp .quo s (cnt n) (R 0)) ∧ Below w.heap.size w w' := by
  have s1 : (momA Bv).size = 5 := rfl
  go_enter Try.func15, Try.ntmps15
  go_upto_region 1 with fail
  rw [show (#[Value.float FloatKind.f64 0, Value.float FloatKind.f64 0, Value.float FloatKind.f64 0, Value.float FloatKind.f64 0, Value.float FloatKind.f64 0] : Array Value) = momA fun _ => 0 from rfl]
  have hB1 : Below w.heap.size w ((w.alloc (.cells (momA Bv) 23)).alloc (.cells (momA fun _ => 0) 23)) := ((Below.refl _ w).alloc (Nat.le_refl _) _).alloc (by simp) _
  have a3 : At ((w.alloc (.cells (momA Bv) 23)).alloc (.cells (momA fun _ => 0) 23)) w.heap.size 5 Bv := at_later (at_new w (momA Bv) 23 5 Bv (momA_at Bv)) ((Below.refl _ _).alloc (by simp) _)
  have a4 : At ((w.alloc (.cells (momA Bv) 23)).alloc (.cells (momA fun _ => 0) 23)) (w.heap.size + 1) 5 (fun _ => 0) := by
    have := at_new (w.alloc (.cells (momA Bv) 23)) (momA fun _ => 0) 23 5 (fun _ => 0) (momA_at _)
    simpa using this
  have ag : At ((w.alloc (.cells (momA Bv) 23)).alloc (.cells (momA fun _ => 0) 23)) g 30 G := at_later hG (hB1.mono (by omega))
  have hz1 : ((w.alloc (.cells (momA Bv) 23)).alloc (.cells (momA fun _ => 0) 23)).heap.size = w.heap.size + 1 + 1 := by simp
  generalize (w.alloc (.cells (momA Bv) 23)).alloc (.cells (momA fun _ => 0) 23) = w1 at *
  have h24 : w1.rangeAt g 0 (gramA G).toList := rangeAt_of ag (by rw [gramA_size]; omega) (gramA_at G)
  refine wp_region_lit ?_
  iterate 9 go_step
  refine wpList_load_mid rfl 24 (.tmp 17) rfl g 0 rfl (gramA G).toList _ h24 Try.underlying24 rfl info24 ?_
  simp only [Array.toArray_toList]
  iterate 3 go_step
  rw [show (#[Value.float FloatKind.f64 0, Value.float FloatKind.f64 0, Value.float FloatKind.f64 0, Value.float FloatKind.f64 0, Value.float FloatKind.f64 0, Value.float FloatKind.f64 0, Value.float FloatKind.f64 0, Value.float FloatKind.f64 0, Value.float FloatKind.f64 0, Value.float FloatKind.f64 0, Value.float FloatKind.f64 0, Value.float FloatKind.f64 0, Value.float FloatKind.f64 0, Value.float FloatKind.f64 0, Value.float FloatKind.f64 0, Value.float FloatKind.f64 0, Value.float FloatKind.f64 0, Value.float FloatKind.f64 0, Value.float FloatKind.f64 0, Value.float FloatKind.f64 0, Value.float FloatKind.f64 0, Value.float FloatKind.f64 0, Value.float FloatKind.f64 0, Value.float FloatKind.f64 0, Value.float FloatKind.f64 0] : Array Value) = gramA fun _ => 0 from rfl]
  obtain ⟨a5, hb5, ht5⟩ := AddLaw.stored_new w1 (fun _ => 0) G
  have hz2 : ((w1.alloc (.cells (gramA fun _ => 0) 24)).setCells w1.heap.size 0 (gramA G).toList).heap.size = w.heap.size + 1 + 1 + 1 := by
    rw [size_setCells, World.size_alloc, hz1]
  rw [hz1] at a5 hb5 ht5 hz2
  refine wpList_store_mid rfl 24 (.tmp 5) (.tmp 18) rfl (w.heap.size + 1 + 1) 0 (gramA G) rfl rfl ht5 info24 (gramA_one G) ?_
  generalize (w1.alloc (.cells (gramA fun _ => 0) 24)).setCells (w.heap.size + 1 + 1) 0 (gramA G).toList = w2 at *
  go_upto_region 3 with fail
  have hb3 : Below (w.heap.size + 1 + 1 + 1) w2 (w2.alloc (.cells #[Value.bool false, Value.bool false, Value.bool false, Value.bool false, Value.bool false] 41)) := (Below.refl _ w2).alloc (by omega) _
  have hSt : St g w.heap.size G Bv false (w2.alloc (.cells #[Value.bool false, Value.bool false, Value.bool false, Value.bool false, Value.bool false] 41)) := by
    refine ⟨at_later (at_later ag (hb5.mono (by omega))) (hb3.mono (by omega)), ⟨Bv, rfl, at_later (at_later a3 (hb5.mono (by omega))) (hb3.mono (by omega))⟩, at_later (at_later a4 (hb5.mono (by omega))) (hb3.mono (by omega)), at_later a5 (hb3.mono (by omega)), ?_, by simp; omega⟩
    intro k hk
    rw [← hz2]
    refine ⟨?_, World.frozen?_alloc_new _ _ _ _⟩
    rw [World.cell?_alloc_new]
    match k, hk with
    | 0, _ => rfl
    | 1, _ => rfl
    | 2, _ => rfl
    | 3, _ => rfl
    | 4, _ => rfl
  have hB3 : Below w.heap.size w (w2.alloc (.cells #[Value.bool false, Value.bool false, Value.bool false, Value.bool false, Value.bool false] 41)) := (hB1.trans (hb5.mono (by omega))).trans (hb3.mono (by omega))
  generalize w2.alloc (.cells #[Value.bool false, Value.bool false, Value.bool false, Value.bool false, Value.bool false] 41) = w3 at *
  clear hb3 hb5 ht5 h24 hz1 hz2 a3 a4 a5 ag hB1 hG
  have hneg : ∀ b b' : Nat, b < b' → b ≠ b' := fun b b' h => by omega
  go_wp2
  go_loopw [19] (fun c wr => ∃ i : Nat, i ≤ 5 ∧ c = .int .i64 i ∧ St g w.heap.size G Bv (decide (0 < i ∧ n ≠ 0)) wr ∧ Below w.heap.size w wr) (fun c _ => 5 - (intOf c).toNat)
  case atStart => exact ⟨0, by omega, rfl, by simpa using hSt, hB3⟩
  case round =>
    clear hSt hB3
    obtain ⟨i, hi, rfl, hSt, hB3⟩ := hrel
    have HS : Hid (St g w.heap.size G Bv (decide (0 < i ∧ n ≠ 0)) wr) := hSt
    have HB : Hid (Below w.heap.size w wr) := hB3
    obtain ⟨ag, ⟨B', eB, a3⟩, a4, a5, a6, hz⟩ := hSt
    clear hB3
    have o00 : FloatKind.f64.format.order 0 0 = some .eq := by decide
    have m00 : ∀ w : World, (binOp .mul 22 (.float .f64 4472406533629990549) (.float .f64 0)).run Try.prog w = .ok (.float .f64 0) w := fun w => run_float_arith w .mul 22 .f64 _ _ _ (by decide)
    by_cases hlt : i < 5
    · by_cases h0 : i = 0 ∧ n ≠ 0
      · obtain ⟨rfl, hn0⟩ := h0
        obtain ⟨c', hc1, hc2⟩ := coll_lt hn0 (by omega)
        have m0 : ∀ w : World, (binOp .mul 22 (.float .f64 4472406533629990549) (.float .f64 (cnt n))).run Try.prog w = .ok (.float .f64 c') w := fun w => run_float_arith w .mul 22 .f64 _ _ _ hc1
        have o0 : FloatKind.f64.format.order (cnt n) c' = some .gt := hc2
        have hc5 := (a5 0 (by omega)).1
        have hcg := (ag 0 (by omega)).1
        rw [hGs.1] at hc5 hcg
        have hk0 := (a6 0 (by omega)).1
        have hk1 := (a6 0 (by omega)).2
        have hS1 : St g w.heap.size G Bv true (wr.drew.setCell ⟨w.heap.size + 1 + 1 + 1, 0, none⟩ (.bool true)) :=
          ⟨at_other (same_drew wr) ag (by omega), ⟨B', eB, at_other (same_drew wr) a3 (by omega)⟩, at_other (same_drew wr) a4 (by omega), at_other (same_drew wr) a5 (by omega), kb_put (kb_same (same_drew wr) a6), by simp; omega⟩
        have hB1 : Below w.heap.size w (wr.drew.setCell ⟨w.heap.size + 1 + 1 + 1, 0, none⟩ (.bool true)) := HB.out.drew.setCell (by simp; omega) _
        have HS1 : Hid (St g w.heap.size G Bv true (wr.setCell ⟨w.heap.size + 1 + 1 + 1, 0, none⟩ (.bool true)).drew) := hS1
        have HB1 : Hid (Below w.heap.size w (wr.setCell ⟨w.heap.size + 1 + 1 + 1, 0, none⟩ (.bool true)).drew) := hB1
        clear a3 a4 a5 a6 ag eB hc1 hc2 hS1 hB1
        go_wp2
        go_big_region
        go_wp2
        generalize (wr.setCell ⟨w.heap.size + 1 + 1 + 1, 0, none⟩ (.bool true)).drew = wk at *
        clear hc5 hcg hk0 hk1 m00 m0 o0 HS HB
        have dq : ∀ w : World, (binOp .quo 22 (.float .f64 0) (.float .f64 (cnt n))).run Try.prog w = .ok (.float .f64 0) w := fun w => run_float_arith w .quo 22 .f64 _ _ _ (div_cnt hn0 (by omega))
        go_loopw [8] (fun c wr => ∃ r : Nat, 1 ≤ r ∧ r ≤ 5 ∧ c = .int .i64 r ∧ St g w.heap.size G Bv true wr ∧ Below w.heap.size w wr) (fun c _ => 5 - (intOf c).toNat)
        case atStart => exact ⟨1, by omega, by omega, rfl, HS1.out, HB1.out⟩
        case round =>
          clear HS1 HB1
          obtain ⟨r, hr1, hr5, rfl, hSt, hB3⟩ := hrel
          have HS : Hid (St g w.heap.size G Bv true wr) := hSt
          have HB : Hid (Below w.heap.size w wr) := hB3
          obtain ⟨ag, ⟨B', eB, a3⟩, a4, a5, a6, hz⟩ := hSt
          clear hB3
          by_cases hltr : r < 5
          · have hcr := (a5 (r * 5) (by omega)).1
            have hc0 := (a5 0 (by omega)).1
            rw [hGs.1] at hc0
            rw [hGs.2 (r * 5) (by omega) (by omega)] at hcr
            clear ag a3 a4 a5 a6 eB
            go_wp2
            go_big_region
            all_goals
              go_wp2
              clear hcr hc0 dq
              go_loopw [10] (fun c wr => ∃ k : Nat, k ≤ 5 ∧ c = .int .i64 k ∧ St g w.heap.size G Bv true wr ∧ Below w.heap.size w wr) (fun c _ => 5 - (intOf c).toNat)
              case atStart => exact ⟨0, by omega, rfl, st_same HS.out (same_drew wr), HB.out.drew⟩
              case round =>
                clear HS HB hz
                obtain ⟨k, hk5, rfl, hSt, hB3⟩ := hrel
                have HS : Hid (St g w.heap.size G Bv true wr) := hSt
                have HB : Hid (Below w.heap.size w wr) := hB3
                obtain ⟨ag, ⟨B', eB, a3⟩, a4, a5, a6, hz⟩ := hSt
                clear hB3
                by_cases hltk : k < 5
                · have hG0 := hGs.2 (r * 5 + k) (by omega) (by omega)
                  have hcr := (a5 (r * 5 + k) (by omega)).1
                  have hcf := (a5 (r * 5 + k) (by omega)).2
                  have hc0 := (a5 k (by omega)).1
                  rw [hG0] at hcr
                  have mk : ∀ w : World, (binOp .mul 22 (.float .f64 0) (.float .f64 (G k))).run Try.prog w = .ok (.float .f64 0) w := fun w => run_float_arith w .mul 22 .f64 _ _ _ (by
                    by_cases hk0 : k = 0
                    · subst hk0; rw [hGs.1]; exact mul_cnt hn0 (by omega)
                    · rw [hGs.2 k (by omega) (by omega)]; exact b4)
                  have sk : ∀ w : World, (binOp .sub 22 (.float .f64 0) (.float .f64 0)).run Try.prog w = .ok (.float .f64 0) w := fun w => run_float_arith w .sub 22 .f64 _ _ _ b6
                  have hsf : ∀ (w : World) (a : Addr) (x : Nat) (m : Mode), (store a (.float .f64 x) m).run Try.prog w = stored Try.prog w a (.float .f64 x) m := fun w a x m => run_store _ w a _ m rfl
                  have HS2 : Hid (St g w.heap.size G Bv true (wr.setCell ⟨w.heap.size + 1 + 1, r * 5 + k, none⟩ (.float .f64 0))) :=
                    ⟨at_other (same_refl wr) ag (by omega), ⟨B', eB, at_other (same_refl wr) a3 (by omega)⟩, at_other (same_refl wr) a4 (by omega), at_congr (at_put (same_refl wr) a5 (by omega)) (fun x hx => by
                      by_cases e : x = r * 5 + k
                      · subst e; simp only [if_true]; exact hG0.symm
                      · simp only [if_neg e]), kb_other (same_refl wr) a6 (by omega), by simpa using hz⟩
                  have HB2 : Hid (Below w.heap.size w (wr.setCell ⟨w.heap.size + 1 + 1, r * 5 + k, none⟩ (.float .f64 0))) := HB.out.setCell (by simp; omega) _
                  clear ag a3 a4 a5 a6 eB hG0
                  go_wp2
                  go_big_region
                  all_goals
                    go_wp2
                    go_roundw
                    case rel => exact ⟨k + 1, by omega, by go_num, st_same HS2.out (same_drew _), HB2.out.drew⟩
                    case measure => simp [intOf]; omega
                · have hk5' : k = 5 := by omega
                  subst hk5'
                  have hmul : ∀ (w : World) (x y : Nat), (binOp .mul 22 (.float .f64 x) (.float .f64 y)).run Try.prog w = .ok (.float .f64 (res .mul x y w)) (wld .mul x y w) := fun w x y => run_arith w .mul (by simp) 22 x y
                  have hsub : ∀ (w : World) (x y : Nat), (binOp .sub 22 (.float .f64 x) (.float .f64 y)).run Try.prog w = .ok (.float .f64 (res .sub x y w)) (wld .sub x y w) := fun w x y => run_arith w .sub (by simp) 22 x y
                  have hcw := cell_wld
                  have hfw := frozen_wld
                  have hsf : ∀ (w : World) (a : Addr) (x : Nat) (m : Mode), (store a (.float .f64 x) m).run Try.prog w = stored Try.prog w a (.float .f64 x) m := fun w a x m => run_store _ w a _ m rfl
                  have hcb := (a3 r (by omega)).1
                  have hcbf := (a3 r (by omega)).2
                  have hcb0 := (a3 0 (by omega)).1
                  have HS2 : Hid (∀ W x, Same wr W → St g w.heap.size G Bv true (W.setCell ⟨w.heap.size, r, none⟩ (.float .f64 x))) := (fun W x hW =>
                    ⟨at_other hW ag (by omega), ⟨_, by simp only [if_neg (show ¬ 0 = r by omega)]; exact eB, at_put hW a3 (by omega)⟩, at_other hW a4 (by omega), at_other hW a5 (by omega), kb_other hW a6 (by omega), by have := (hW.2.2 0).size; simp; omega⟩ : ∀ W x, Same wr W → St g w.heap.size G Bv true (W.setCell ⟨w.heap.size, r, none⟩ (.float .f64 x)))
                  have HB2 : Hid (∀ W x, Same wr W → Below w.heap.size w (W.setCell ⟨w.heap.size, r, none⟩ (.float .f64 x))) := (fun W x hW => (HB.out.trans (hW.2.2 _)).setCell (Nat.le_refl _) _ : ∀ W x, Same wr W → Below w.heap.size w (W.setCell ⟨w.heap.size, r, none⟩ (.float .f64 x)))
                  clear ag a3 a4 a5 a6 eB HS HB
                  go_wp2
                  go_big_region
                  all_goals
                    go_wp2
                    go_roundw
                    case rel => exact ⟨r + 1, by omega, by omega, by go_num, HS2.out _ _ (((same_drew wr).wld _ _ _).wld _ _ _), HB2.out _ _ (((same_drew wr).wld _ _ _).wld _ _ _)⟩
                    case measure => simp [intOf]; omega
          · have hr5' : r = 5 := by omega
            subst hr5'
            clear ag a3 a4 a5 a6 eB
            go_wp2
            go_roundw
            case rel => exact ⟨1, by omega, by go_num, by simpa [hn0] using HS.out, HB.out⟩
            case measure => simp [intOf]
      · have hzero : G (i * 5 + i) = 0 := by
          by_cases hi0 : i = 0
          · have hn0 : n = 0 := by omega
            subst hi0 hn0
            exact hGs.1
          · exact hGs.2 _ (by omega) (by omega)
        have hc5 := (a5 (i * 5 + i) (by omega)).1
        have hcg := (ag (i * 5 + i) (by omega)).1
        rw [hzero] at hc5 hcg
        clear a3 a4 a5 a6 ag eB
        go_wp2
        go_big_region
        all_goals
          go_wp2
          go_roundw
          case rel =>
            refine ⟨i + 1, by omega, by go_num, ?_, HB.out.drew⟩
            have e : decide (0 < i + 1 ∧ n ≠ 0) = decide (0 < i ∧ n ≠ 0) := by
              by_cases hn0 : n = 0
              · simp [hn0]
              · have : 0 < i := by omega
                simp [this]
            rw [e]
            exact st_same HS.out (same_drew wr)
          case measure => simp [intOf]; omega
    · have hi5 : i = 5 := by omega
      subst hi5
      have hv : decide (0 < 5 ∧ n ≠ 0) = decide (n ≠ 0) := by simp
      rw [hv] at HS
      clear ag a3 a4 a5 a6 eB m00 o00 hv
      go_wp2
      rw [show (#[Value.float FloatKind.f64 0, Value.float FloatKind.f64 0, Value.float FloatKind.f64 0, Value.float FloatKind.f64 0, Value.float FloatKind.f64 0] : Array Value) = momA fun _ => 0 from rfl]
      have ax : At (wr.alloc (.cells (momA fun _ => 0) 23)) wr.heap.size 5 (fun _ => 0) := at_new wr (momA fun _ => 0) 23 5 (fun _ => 0) (momA_at _)
      have hx1 : Below wr.heap.size wr (wr.alloc (.cells (momA fun _ => 0) 23)) := (Below.refl _ wr).alloc (Nat.le_refl _) _
      have HSx : Hid (St g w.heap.size G Bv (decide (n ≠ 0)) (wr.alloc (.cells (momA fun _ => 0) 23))) := st_later HS.out hg hx1
      have HBx : Hid (Below w.heap.size w (wr.alloc (.cells (momA fun _ => 0) 23))) := HB.out.trans (hx1.mono (by omega))
      have HAx : Hid (At (wr.alloc (.cells (momA fun _ => 0) 23)) wr.heap.size 5 (fun _ => 0)) := ax
      generalize hwx : wr.alloc (.cells (momA fun _ => 0) 23) = wx at *
      clear ax hx1 HS HB hwx
      generalize wr.heap.size = bx at *
      go_loopw [12] (fun c w2 => ∃ (r : Int) (R : Nat → Nat), -1 ≤ r ∧ r ≤ 4 ∧ c = .int .i64 r ∧ St g w.heap.size G Bv (decide (n ≠ 0)) w2 ∧ At w2 bx 5 R ∧ (∀ k, 0 < k → k < 5 → R k = 0) ∧ (n = 0 → R 0 = 0) ∧ (r < 0 → n ≠ 0 → ∃ s, Sm s (Bv 0) ∧ FOp .quo s (cnt n) (R 0)) ∧ Below w.heap.size w w2) (fun c _ => (intOf c + 1).toNat)
      case atStart => exact ⟨4, fun _ => 0, by omega, by omega, rfl, HSx.out, HAx.out, fun _ _ _ => rfl, fun _ => rfl, fun h => by omega, HBx.out⟩
      case round =>
        clear HSx HBx HAx
        obtain ⟨r, R, hr1, hr4, rfl, hSt, hA, hR, hR0, hRq, hB⟩ := hrel
        have HS : Hid (St g w.heap.size G Bv (decide (n ≠ 0)) wr) := hSt
        have HA : Hid (At wr bx 5 R) := hA
        have HB : Hid (Below w.heap.size w wr) := hB
        have HR : Hid ((∀ k, 0 < k → k < 5 → R k = 0) ∧ (n = 0 → R 0 = 0)) := ⟨hR, hR0⟩
        obtain ⟨ag, ⟨B', eB, a3⟩, a4, a5, a6, hzz⟩ := hSt
        clear hB
        by_cases hge : 0 ≤ r
        · obtain ⟨r, rfl⟩ := Int.eq_ofNat_of_zero_le hge
          clear hRq hA hR hR0
          have hkc := (a6 r (by omega)).1
          by_cases hkept : r = 0 ∧ n ≠ 0
          · obtain ⟨rfl, hn0⟩ := hkept
            have hkt : wr.cell? ⟨w.heap.size + 1 + 1 + 1, 0, none⟩ = some (.bool true) := by rw [hkc]; simp [hn0]
            have hcb := (a3 0 (by omega)).1
            rw [eB] at hcb
            clear hkc ag a3 a4 a5 a6 eB
            go_wp2
            go_loopw [13, 14] (fun x c wr => ∃ (k s : Nat), 1 ≤ k ∧ k ≤ 5 ∧ c = .int .i64 k ∧ x = .float .f64 s ∧ Sm s (Bv 0) ∧ St g w.heap.size G Bv (decide (n ≠ 0)) wr ∧ At wr bx 5 R ∧ Below w.heap.size w wr) (fun _ c _ => 5 - (intOf c).toNat)
            case atStart => exact ⟨1, Bv 0, by omega, by omega, rfl, rfl, hb, HS.out, HA.out, HB.out⟩
            case round =>
              clear HS HA HB hkt hcb
              obtain ⟨k, s, hk1, hk5, rfl, rfl, hsm, hSt, hA, hB⟩ := hrel
              have HS : Hid (St g w.heap.size G Bv (decide (n ≠ 0)) wr) := hSt
              have HA : Hid (At wr bx 5 R) := hA
              have HB : Hid (Below w.heap.size w wr) := hB
              have HM : Hid (Sm s (Bv 0)) := hsm
              obtain ⟨ag, ⟨B', eB, a3⟩, a4, a5, a6, hzz⟩ := hSt
              clear hB hsm
              by_cases hltk : k < 5
              · have hc5 := (a5 k (by omega)).1
                have hcx := (hA k hltk).1
                rw [hGs.2 k (by omega) (by omega)] at hc5
                rw [HR.out.1 k (by omega) (by omega)] at hcx
                have m00 : ∀ w : World, (binOp .mul 22 (.float .f64 0) (.float .f64 0)).run Try.prog w = .ok (.float .f64 0) w := fun w => run_float_arith w .mul 22 .f64 _ _ _ b4
                have hsub : ∀ (w : World) (x y : Nat), (binOp .sub 22 (.float .f64 x) (.float .f64 y)).run Try.prog w = .ok (.float .f64 (res .sub x y w)) (wld .sub x y w) := fun w x y => run_arith w .sub (by simp) 22 x y
                clear ag a3 a4 a5 a6 eB hA
                go_wp2
                go_big_region
                all_goals
                  go_wp2
                  go_roundw
                  case rel => exact ⟨k + 1, _, by omega, by omega, by go_num, rfl, sub_step HM.out (fop_res ..), st_same HS.out ((same_drew wr).wld _ _ _), at_same ((same_drew wr).wld _ _ _) HA.out, HB.out.trans (((same_drew wr).wld _ _ _).2.2 _)⟩
                  case measure => simp [intOf]; omega
              · have hk5' : k = 5 := by omega
                subst hk5'
                have hc5 := (a5 0 (by omega)).1
                rw [hGs.1] at hc5
                have hcx := (hA 0 (by omega)).1
                have hcf := (hA 0 (by omega)).2
                have hquo : ∀ (w : World) (x y : Nat), (binOp .quo 22 (.float .f64 x) (.float .f64 y)).run Try.prog w = .ok (.float .f64 (res .quo x y w)) (wld .quo x y w) := fun w x y => run_arith w .quo (by simp) 22 x y
                have hsf : ∀ (w : World) (a : Addr) (x : Nat) (m : Mode), (store a (.float .f64 x) m).run Try.prog w = stored Try.prog w a (.float .f64 x) m := fun w a x m => run_store _ w a _ m rfl
                have hcw := cell_wld
                have hfw := frozen_wld
                have HS2 : Hid (∀ W x, Same wr W → St g w.heap.size G Bv (decide (n ≠ 0)) (W.setCell ⟨bx, 0, none⟩ (.float .f64 x))) := (fun W x hW =>
                    ⟨at_other hW ag (by omega), ⟨_, eB, at_other hW a3 (by omega)⟩, at_other hW a4 (by omega), at_other hW a5 (by omega), kb_other hW a6 (by omega), by have := (hW.2.2 0).size; simp; omega⟩ : ∀ W x, Same wr W → St g w.heap.size G Bv (decide (n ≠ 0)) (W.setCell ⟨bx, 0, none⟩ (.float .f64 x)))
                clear ag a3 a4 a5 a6 eB hA
                go_wp2
                go_roundw
                case rel =>
                  refine ⟨-1, fun x => if x = 0 then res .quo s (cnt n) wr else R x, by omega, by omega, rfl, HS2.out _ _ ((same_refl wr).wld _ _ _), at_put ((same_refl wr).wld _ _ _) HA.out (by omega), fun k h0 hk => ?_, fun h => absurd h hn0, fun _ _ => ⟨s, HM.out, ?_⟩, (HB.out.trans (((same_refl wr).wld _ _ _).2.2 _)).setCell (by simp; omega) _⟩
                  · simp only [if_neg (show ¬ k = 0 by omega)]
                    exact HR.out.1 k h0 hk
                  · simp only [if_true]
                    exact fop_res ..
                case measure => simp [intOf]
          · have hkf : wr.cell? ⟨w.heap.size + 1 + 1 + 1, r, none⟩ = some (.bool false) := by
              rw [hkc]
              by_cases hr0 : r = 0
              · have : n = 0 := by omega
                simp [this]
              · simp [hr0]
            clear hkc ag a3 a4 a5 a6 eB
            go_wp2
            go_roundw
            case rel =>
              refine ⟨(r : Int) - 1, R, by omega, by omega, by go_num, HS.out, HA.out, HR.out.1, HR.out.2, fun h hn0 => ?_, HB.out⟩
              omega
            case measure => simp [intOf]
        · have hrm : r = -1 := by omega
          subst hrm
          have hrx : wr.rangeAt bx 0 (momA R).toList := rangeAt_of hA (Nat.le_refl _) (momA_at R)
          have ht : wr.there (w.heap.size + 1) 0 (momA R).size := fun j hj => by
            rw [Nat.zero_add]
            have := a4 j hj
            exact ⟨by rw [this.1]; rfl, this.2⟩
          have hRq' := hRq (by omega)
          clear ag a3 a5 a6 eB hA hRq
          go_upto_region 29 with fail
          refine wp_region_lit ?_
          refine wpList_load_mid rfl 23 (.tmp 11) rfl bx 0 rfl (momA R).toList _ hrx Try.underlying23 rfl info23 ?_
          simp only [Array.toArray_toList]
          refine wpList_store_mid rfl 23 (.tmp 4) (.tmp 124) rfl (w.heap.size + 1) 0 (momA R) rfl rfl ht info23 (momA_one R) ?_
          have hr := range_setCells (w := wr) (b := w.heap.size + 1) (vs := (momA R).toList) (by simpa using ht)
          have hfin : Below w.heap.size w (wr.setCells (w.heap.size + 1) 0 (momA R).toList) := below_setCells (by omega) _ _ _ _ HB.out
          clear ht hrx
          go_wp2
          refine bodyPost_ret (results_cell_mid rfl _ _ (w.heap.size + 1) (momA R).toList _ rfl hr Try.underlying23 rfl info23) rfl ?_
          exact ⟨R, rfl, hR, hR0, hRq', hfin⟩

end Go.Proofs.Qxb6603773a.Solve
