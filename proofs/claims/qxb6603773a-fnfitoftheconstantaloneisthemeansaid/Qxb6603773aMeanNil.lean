import Derived.Test.Qxb6603773aMeanWalk
import Derived.OwnWalk
import Derived.WalkSpells
import Derived.Deep.RegionWith
import Derived.Deep.RegionHeld3
namespace Go.Proofs.Qxb6603773a.MeanLaw
open Go.RowKit Go.Proofs.Qxb6603773a.Add Go.Proofs.Qxb6603773a.Mean Go.Proofs.Qxb6603773a.Exact Go.Proofs.Qxb6603773a.Solve Go.Proofs.Qxb6603773a.MeanCalls

set_option maxHeartbeats 4000000 in
set_option maxRecDepth 100000 in
theorem walk_nil (w : World) :
    Calls Try.prog 5 #[.slice none 0 0] w fun e w' => e = .returned (.bool true) ∧ Below w.heap.size w w' := by
  have hq : ∀ (w : World) (a : Option Addr) (n c : Nat), (binOp .neq 33 (.slice a n c) (.slice none 0 0)).run Try.prog w = .ok (.bool (!a.isNone)) w := fun w a n c => run_neq_slice_nil_any w _ _ a n c 0 0 Try.underlying33
  have hsf : ∀ (w : World) (a : Addr) (x : Nat) (m : Mode), (store a (.float .f64 x) m).run Try.prog w = stored Try.prog w a (.float .f64 x) m := fun w a x m => run_store _ w a _ m rfl
  go_enter Try.func5, Try.ntmps5
  go_wp2_with fail
  refine (zz11_yes _ _ _ _ (by omega)).mono ?_
  rintro e w ⟨rfl, rfl⟩
  go_upto_region 14 with fail
  rw [show (#[Value.float FloatKind.f64 0, Value.float FloatKind.f64 0, Value.float FloatKind.f64 0, Value.float FloatKind.f64 0, Value.float FloatKind.f64 0] : Array Value) = momA fun _ => 0 from rfl, show (#[Value.float FloatKind.f64 0, Value.float FloatKind.f64 0, Value.float FloatKind.f64 0, Value.float FloatKind.f64 0, Value.float FloatKind.f64 0, Value.float FloatKind.f64 0, Value.float FloatKind.f64 0, Value.float FloatKind.f64 0, Value.float FloatKind.f64 0, Value.float FloatKind.f64 0, Value.float FloatKind.f64 0, Value.float FloatKind.f64 0, Value.float FloatKind.f64 0, Value.float FloatKind.f64 0, Value.float FloatKind.f64 0, Value.float FloatKind.f64 0, Value.float FloatKind.f64 0, Value.float FloatKind.f64 0, Value.float FloatKind.f64 0, Value.float FloatKind.f64 0, Value.float FloatKind.f64 0, Value.float FloatKind.f64 0, Value.float FloatKind.f64 0, Value.float FloatKind.f64 0, Value.float FloatKind.f64 0] : Array Value) = gramA fun _ => 0 from rfl]
  have a5 : At ((w.alloc (.cells (gramA fun _ => 0) 24)).alloc (.cells (momA fun _ => 0) 23)) w.heap.size 25 (fun _ => 0) := at_later (at_new w _ 24 25 _ (gramA_at _)) ((Below.refl _ _).alloc (by simp) _)
  have a6 : At ((w.alloc (.cells (gramA fun _ => 0) 24)).alloc (.cells (momA fun _ => 0) 23)) (w.heap.size + 1) 5 (fun _ => 0) := by
    have := at_new (w.alloc (.cells (gramA fun _ => 0) 24)) (momA fun _ => 0) 23 5 (fun _ => 0) (momA_at _)
    simpa using this
  have hb2 : Below w.heap.size w ((w.alloc (.cells (gramA fun _ => 0) 24)).alloc (.cells (momA fun _ => 0) 23)) := ((Below.refl _ w).alloc (Nat.le_refl _) _).alloc (by simp) _
  have HB2 : Hid (Below w.heap.size w ((w.alloc (.cells (gramA fun _ => 0) 24)).alloc (.cells (momA fun _ => 0) 23))) := hb2
  have hz2 : w.heap.size ≤ ((w.alloc (.cells (gramA fun _ => 0) 24)).alloc (.cells (momA fun _ => 0) 23)).heap.size := hb2.size
  generalize (w.alloc (.cells (gramA fun _ => 0) 24)).alloc (.cells (momA fun _ => 0) 23) = w2 at *
  have r5 : w2.rangeAt w.heap.size 0 (gramA fun _ => 0).toList := rangeAt_of a5 (Nat.le_refl _) (gramA_at _)
  have r6 : w2.rangeAt (w.heap.size + 1) 0 (momA fun _ => 0).toList := rangeAt_of a6 (Nat.le_refl _) (momA_at _)
  refine wp_region_lit ?_
  refine wpList_load_mid rfl 24 (.tmp 5) rfl w.heap.size 0 rfl (gramA fun _ => 0).toList _ r5 Try.underlying24 rfl info24 ?_
  refine wpList_load_mid rfl 23 (.tmp 6) rfl (w.heap.size + 1) 0 rfl (momA fun _ => 0).toList _ r6 Try.underlying23 rfl info23 ?_
  simp only [Array.toArray_toList]
  clear r5 r6 a5 a6 hb2
  go_wp2_with fail
  refine (newFit_any (fun _ => 0) (fun _ => 0) w2).mono ?_
  rintro e w3 ⟨rfl, hF, hb3, hz3⟩
  have HF : Hid (At w3 (w2.heap.size + 2) 30 (fun _ => 0)) := at_congr hF (fun k _ => by simp)
  have HB3 : Hid (Below w.heap.size w w3) := HB2.out.trans (hb3.mono (by omega))
  have hz4 : w2.heap.size + 2 < w3.heap.size := by omega
  have hz5 : w.heap.size < w2.heap.size + 2 := by omega
  generalize w2.heap.size + 2 = gf at *
  go_upto_region 18 with fail
  rw [show (#[Value.float FloatKind.f64 4607182418800017408, Value.float FloatKind.f64 0, Value.float FloatKind.f64 0, Value.float FloatKind.f64 0, Value.float FloatKind.f64 0] : Array Value) = momA xs from rfl]
  have hb4 : Below w3.heap.size w3 (w3.alloc (.cells (momA xs) 23)) := (Below.refl _ w3).alloc (Nat.le_refl _) _
  have HX4 : Hid (At (w3.alloc (.cells (momA xs) 23)) w3.heap.size 5 xs) := at_new w3 (momA xs) 23 5 xs (momA_at _)
  have HF4 : Hid (At (w3.alloc (.cells (momA xs) 23)) gf 30 (fun _ => 0)) := at_later HF.out (hb4.mono (by omega))
  have HB4 : Hid (Below w.heap.size w (w3.alloc (.cells (momA xs) 23))) := HB3.out.trans (hb4.mono (by omega))
  have hz6 : w3.heap.size < (w3.alloc (.cells (momA xs) 23)).heap.size := by simp
  generalize w3.alloc (.cells (momA xs) 23) = w4 at *
  generalize w3.heap.size = bx at *
  clear hb4 HF HB3
  clear HX4
  go_wp2
  refine wp_loop_rounds 1 ?_
  rw [rounds_succ]
  go_wp2_with fail
  refine (fitMoment_any gf (fun _ => 0) w4 (by omega) HF4.out).mono ?_
  rintro e w5 ⟨rfl, hb5⟩
  have HF5 : Hid (At w5 gf 30 (fun _ => 0)) := at_later HF4.out (hb5.mono (by omega))
  have HB5 : Hid (Below w.heap.size w w5) := HB4.out.trans (hb5.mono (by omega))
  have hz7 : bx < w5.heap.size := Nat.lt_of_lt_of_le hz6 hb5.size
  clear hb5 HF4 HB4
  go_wp2_with fail
  refine (fitSolve_any 0 gf (fun _ => 0) (fun _ => 0) w5 (by omega) HF5.out ⟨rfl, fun _ _ _ => rfl⟩ (by omega) (Or.inl ⟨rfl, by decide⟩)).mono ?_
  rintro e w6 ⟨R, rfl, r1, r2, r3, hb6⟩
  have HR : Hid ((∀ k, 0 < k → k < 5 → R k = 0) ∧ (0 = 0 → R 0 = 0)) := ⟨r1, fun _ => r2 rfl⟩
  have HB6 : Hid (Below w.heap.size w w6) := HB5.out.trans (hb6.mono (by omega))
  have hz8 : w.heap.size ≤ w6.heap.size := HB6.out.size
  clear r1 r2 r3 hb6 HF5 HB5
  dsimp only
  iterate 4 go_step
  rw [show (#[Value.float FloatKind.f64 0, Value.float FloatKind.f64 0, Value.float FloatKind.f64 0, Value.float FloatKind.f64 0, Value.float FloatKind.f64 0] : Array Value) = momA fun _ => 0 from rfl]
  obtain ⟨a7, hb7, ht7⟩ := stored_newM w6 (fun _ => 0) R
  refine wpList_store_mid rfl 23 (.tmp 11) (.tmp 65) rfl w6.heap.size 0 (momA R) rfl rfl ht7 info23 (momA_one R) ?_
  have HB7 : Hid (Below w.heap.size w ((w6.alloc (.cells (momA fun _ => 0) 23)).setCells w6.heap.size 0 (momA R).toList)) := HB6.out.trans (hb7.mono (by omega))
  have hz9 : w6.heap.size < ((w6.alloc (.cells (momA fun _ => 0) 23)).setCells w6.heap.size 0 (momA R).toList).heap.size := by rw [size_setCells]; simp
  generalize (w6.alloc (.cells (momA fun _ => 0) 23)).setCells w6.heap.size 0 (momA R).toList = w7 at *
  generalize w6.heap.size = bg at *
  clear hb7 ht7 HB6
  go_upto_region 25 with fail
  rw [show (#[Value.float FloatKind.f64 0, Value.float FloatKind.f64 0, Value.float FloatKind.f64 0, Value.float FloatKind.f64 0, Value.float FloatKind.f64 0] : Array Value) = momA fun _ => 0 from rfl]
  have hb8 : Below w7.heap.size w7 (w7.alloc (.cells (momA fun _ => 0) 23)) := (Below.refl _ w7).alloc (Nat.le_refl _) _
  have HAg8 : Hid (At (w7.alloc (.cells (momA fun _ => 0) 23)) bg 5 R) := at_later a7 (hb8.mono (by omega))
  have HAw8 : Hid (At (w7.alloc (.cells (momA fun _ => 0) 23)) w7.heap.size 5 (fun _ => 0)) := at_new w7 _ 23 5 _ (momA_at _)
  have HBw8 : Hid (Below w.heap.size w (w7.alloc (.cells (momA fun _ => 0) 23))) := HB7.out.trans (hb8.mono (by omega))
  generalize w7.alloc (.cells (momA fun _ => 0) 23) = w8 at *
  have hz10 : w.heap.size ≤ w7.heap.size := by omega
  generalize w7.heap.size = bw at *
  clear hb8 a7 HB7
  obtain ⟨V, hV⟩ : ∃ V : Nat → Nat, V = fun _ => 0 := ⟨_, rfl⟩
  have HAw : Hid (At w8 bw 5 V) := (by rw [hV]; exact HAw8.out : At w8 bw 5 V)
  have HE : Hid (∀ k, k < 5 → Eqv (R k) (V k)) := (by
    intro k hk
    left
    rw [hV]
    by_cases hk0 : k = 0
    · subst hk0; exact HR.out.2 rfl
    · exact HR.out.1 k (by omega) hk : ∀ k, k < 5 → Eqv (R k) (V k))
  have HAg := HAg8
  have HBw := HBw8
  clear HAg8 HAw8 HBw8 HR hV
  go_wp2
  go_loopw [13] (fun c wr => ∃ k : Nat, k ≤ 5 ∧ c = .int .i64 k ∧ At wr bg 5 R ∧ At wr bw 5 V ∧ Below w.heap.size w wr) (fun c _ => 5 - (intOf c).toNat)
  case atStart => exact ⟨0, by omega, rfl, HAg.out, HAw.out, HBw.out⟩
  case round =>
    clear HAg HAw HBw
    obtain ⟨k, hk5, rfl, hg, hv, hB⟩ := hrel
    have HAg : Hid (At wr bg 5 R) := hg
    have HAw : Hid (At wr bw 5 V) := hv
    have HBw : Hid (Below w.heap.size w wr) := hB
    clear hB
    by_cases hltk : k < 5
    · have hcg := (hg k hltk).1
      have hcv := (hv k hltk).1
      have hE := HE.out k hltk
      clear hg hv
      go_wp2_with fail
      go_region_with (go_at_call 13; refine (sameNum_any (R k) (V k) _ hE).mono ?_; rintro e w9 ⟨rfl, rfl⟩)
      all_goals
        go_wp2
        go_roundw
        case rel => exact ⟨k + 1, by omega, by go_num, at_same (same_drew wr) HAg.out, at_same (same_drew wr) HAw.out, HBw.out.drew⟩
        case measure => simp [intOf]; omega
    · have hk5' : k = 5 := by omega
      subst hk5'
      clear hg hv
      go_wp2
      go_ret
      exact ⟨rfl, HBw.out⟩

end Go.Proofs.Qxb6603773a.MeanLaw
