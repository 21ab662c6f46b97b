import Derived.Test.Qxb6603773aAddMore
import Derived.OwnWalk
import Derived.WalkSpells
import Derived.Deep.RegionWith
import Derived.Deep.RegionHeld3
namespace Go.Proofs.Qxb6603773a.MeanLaw
open Go.RowKit Go.Proofs.Qxb6603773a.Add Go.Proofs.Qxb6603773a.Mean Go.Proofs.Qxb6603773a.Exact Go.Proofs.Qxb6603773a.Solve Go.Proofs.Qxb6603773a.MeanCalls

theorem info22 : (Try.prog.info? 22).map (fun i => (i.zero, i.size, i.bytes)) = some (some (.float .f64 0), 1, 8) := by kernel_rfl

theorem at_made {w : World} {base g n : Nat} (h : w.ownsRow base 22 1 (.slice (some ⟨g, 0, none⟩) n n) n (madeCells (Value.cells (.float .f64 0)) (n * 1)).toList) : At w g n (fun _ => 0) := by
  intro k hk
  refine ⟨?_, ?_⟩
  · rw [h.cellAt k (by omega)]
    have hk' : k < n * 1 := by omega
    simp [madeCells, Value.cells, hk, Nat.mod_one]
  · obtain ⟨_, ⟨h1, _⟩ | ⟨g', cap, cur, hv, _, hh, _, _, hs, _⟩⟩ := h
    · cases h1
    · injection hv with e1 e2 e3
      injection e1 with e1
      injection e1 with e1 _ _
      subst e1
      unfold World.frozen?
      rw [hh]
      simp

theorem stored_newM (w : World) (Z G : Nat → Nat) : At ((w.alloc (.cells (momA Z) 23)).setCells w.heap.size 0 (momA G).toList) w.heap.size 5 G ∧ Below w.heap.size w ((w.alloc (.cells (momA Z) 23)).setCells w.heap.size 0 (momA G).toList) ∧ (w.alloc (.cells (momA Z) 23)).there w.heap.size 0 (momA G).size := by
  have ht : (w.alloc (.cells (momA Z) 23)).there w.heap.size 0 (momA G).size := by
    intro j hj
    rw [Nat.zero_add]
    have := at_new w (momA Z) 23 5 Z (momA_at _) j hj
    exact ⟨by rw [this.1]; rfl, this.2⟩
  refine ⟨fun k hk => ⟨?_, ?_⟩, below_setCells (Nat.le_refl _) _ _ _ _ ((Below.refl _ w).alloc (Nat.le_refl _) _), ht⟩
  · have hr := range_setCells (vs := (momA G).toList) (by simpa using ht)
    have := hr k (.float .f64 (G k)) (by rw [Array.getElem?_toList]; exact momA_at G k hk)
    rw [Nat.zero_add] at this
    exact this
  · rw [World.frozen?_setCells]
    have := (ht k hk).2
    rw [Nat.zero_add] at this
    exact this

theorem sm_self {a b : Nat} (h : Sm a b) : Sm a a := by
  rcases h with ⟨rfl, h⟩ | ⟨h, _⟩
  · exact Or.inl ⟨rfl, h⟩
  · exact Or.inr ⟨h, h⟩

set_option maxHeartbeats 4000000 in
set_option maxRecDepth 100000 in
theorem walk_some (b off : Nat) (sp : Option Nat) (n cap : Nat) (Y : Nat → Nat) (w : World) (hb : 0 < n → b < w.heap.size) (hY : ∀ k, k < n → w.cell? ⟨b, off + k, none⟩ = some (.float .f64 (Y k))) (hYl : ∀ k, k < n → Y k < 2 ^ 64) (hn : n ≤ 65536) (hsp : 0 < n → sp = none) :
    Calls Try.prog 5 #[.slice (some ⟨b, off, sp⟩) n cap] w fun e w' => e = .returned (.bool true) ∧ Below w.heap.size w w' := by
  obtain ⟨i0, hi, hz0, hz1, hz2⟩ := info_parts info22
  have hq : ∀ (w : World) (a : Option Addr) (n c : Nat), (binOp .neq 33 (.slice a n c) (.slice none 0 0)).run Try.prog w = .ok (.bool (!a.isNone)) w := fun w a n c => run_neq_slice_nil_any w _ _ a n c 0 0 Try.underlying33
  have hsf : ∀ (w : World) (a : Addr) (x : Nat) (m : Mode), (store a (.float .f64 x) m).run Try.prog w = stored Try.prog w a (.float .f64 x) m := fun w a x m => run_store _ w a _ m rfl
  have HY : Hid (∀ k, k < n → w.cell? ⟨b, off + k, none⟩ = some (.float .f64 (Y k))) := hY
  have HYl : Hid (∀ k, k < n → Y k < 2 ^ 64) := hYl
  clear hY hYl
  go_enter Try.func5, Try.ntmps5
  go_wp2_with fail
  refine (zz11_yes _ _ _ _ (by omega)).mono ?_
  rintro e w ⟨rfl, rfl⟩
  go_wp2_with (at_make; refine wpList_make_full _ rfl (.tmp 23) (.tmp 23) 33 rfl w.heap.size 22 i0 (.float .f64 0) 1 Try.underlying33 hi hz0 hz1 .i64 .i64 _ _ n rfl rfl rfl rfl (by rw [hz2]; omega) (by unfold maxLen; omega) (Nat.le_refl _) ?_; intro w1 hown hg)
  have hA1 := at_made hown
  have hB1 := (Below.refl w.heap.size w).grown hg (Nat.le_refl _) (by simp)
  have hl1 : w.heap.size < w1.heap.size := (hown.lt _ rfl).2
  clear hown hg hq
  go_loopw [4] (fun c wr => ∃ (i : Nat) (Z : Nat → Nat), i ≤ n ∧ c = .int .i64 i ∧ At wr w.heap.size n Z ∧ (∀ k, k < i → Z k = Y k) ∧ w.heap.size < wr.heap.size ∧ Below w.heap.size w wr) (fun c _ => n - (intOf c).toNat)
  case atStart => exact ⟨0, fun _ => 0, by omega, rfl, hA1, fun k hk => by omega, hl1, hB1⟩
  case round =>
    clear hA1 hB1 hl1
    obtain ⟨i, Z, hin, rfl, hA, hZ, hl, hB⟩ := hrel
    have HB : Hid (Below w.heap.size w wr) := hB
    have HA : Hid (At wr w.heap.size n Z) := hA
    have HZ : Hid (∀ k, k < i → Z k = Y k) := hZ
    clear hB hZ
    by_cases hlt : i < n
    · obtain rfl := hsp (by omega)
      have hc := ((HB.out).cell (p := ⟨b, off + i, none⟩) (hb (by omega))).trans (HY.out i hlt)
      have hd := (hA i hlt).1
      have hf := (hA i hlt).2
      clear hA
      go_wp2
      go_roundw
      case rel => exact ⟨i + 1, _, by omega, by go_num, at_put (same_refl wr) HA.out hlt, fun k hk => by
        by_cases e : k = i
        · subst e; simp only [if_true]
        · simp only [if_neg e]; exact HZ.out k (by omega), by simpa using hl, HB.out.setCell (Nat.le_refl _) _⟩
      case measure => simp [intOf]; omega
    · have hin' : i = n := by omega
      subst hin'
      have HC : Hid (At wr w.heap.size i Y) := at_congr hA HZ.out
      clear hA HA HZ HY
      go_upto_region 14 with fail
      rw [show (#[Value.float FloatKind.f64 0, Value.float FloatKind.f64 0, Value.float FloatKind.f64 0, Value.float FloatKind.f64 0, Value.float FloatKind.f64 0] : Array Value) = momA fun _ => 0 from rfl, show (#[Value.float FloatKind.f64 0, Value.float FloatKind.f64 0, Value.float FloatKind.f64 0, Value.float FloatKind.f64 0, Value.float FloatKind.f64 0, Value.float FloatKind.f64 0, Value.float FloatKind.f64 0, Value.float FloatKind.f64 0, Value.float FloatKind.f64 0, Value.float FloatKind.f64 0, Value.float FloatKind.f64 0, Value.float FloatKind.f64 0, Value.float FloatKind.f64 0, Value.float FloatKind.f64 0, Value.float FloatKind.f64 0, Value.float FloatKind.f64 0, Value.float FloatKind.f64 0, Value.float FloatKind.f64 0, Value.float FloatKind.f64 0, Value.float FloatKind.f64 0, Value.float FloatKind.f64 0, Value.float FloatKind.f64 0, Value.float FloatKind.f64 0, Value.float FloatKind.f64 0, Value.float FloatKind.f64 0] : Array Value) = gramA fun _ => 0 from rfl]
      have a5 : At ((wr.alloc (.cells (gramA fun _ => 0) 24)).alloc (.cells (momA fun _ => 0) 23)) wr.heap.size 25 (fun _ => 0) := at_later (at_new wr _ 24 25 _ (gramA_at _)) ((Below.refl _ _).alloc (by simp) _)
      have a6 : At ((wr.alloc (.cells (gramA fun _ => 0) 24)).alloc (.cells (momA fun _ => 0) 23)) (wr.heap.size + 1) 5 (fun _ => 0) := by
        have := at_new (wr.alloc (.cells (gramA fun _ => 0) 24)) (momA fun _ => 0) 23 5 (fun _ => 0) (momA_at _)
        simpa using this
      have hb2 : Below wr.heap.size wr ((wr.alloc (.cells (gramA fun _ => 0) 24)).alloc (.cells (momA fun _ => 0) 23)) := ((Below.refl _ wr).alloc (Nat.le_refl _) _).alloc (by simp) _
      have HC2 : Hid (At ((wr.alloc (.cells (gramA fun _ => 0) 24)).alloc (.cells (momA fun _ => 0) 23)) w.heap.size i Y) := at_later HC.out (hb2.mono (by omega))
      have HB2 : Hid (Below w.heap.size w ((wr.alloc (.cells (gramA fun _ => 0) 24)).alloc (.cells (momA fun _ => 0) 23))) := HB.out.trans (hb2.mono (by omega))
      have hz2 : wr.heap.size ≤ ((wr.alloc (.cells (gramA fun _ => 0) 24)).alloc (.cells (momA fun _ => 0) 23)).heap.size := hb2.size
      generalize (wr.alloc (.cells (gramA fun _ => 0) 24)).alloc (.cells (momA fun _ => 0) 23) = w2 at *
      have r5 : w2.rangeAt wr.heap.size 0 (gramA fun _ => 0).toList := rangeAt_of a5 (Nat.le_refl _) (gramA_at _)
      have r6 : w2.rangeAt (wr.heap.size + 1) 0 (momA fun _ => 0).toList := rangeAt_of a6 (Nat.le_refl _) (momA_at _)
      refine wp_region_lit ?_
      refine wpList_load_mid rfl 24 (.tmp 5) rfl wr.heap.size 0 rfl (gramA fun _ => 0).toList _ r5 Try.underlying24 rfl info24 ?_
      refine wpList_load_mid rfl 23 (.tmp 6) rfl (wr.heap.size + 1) 0 rfl (momA fun _ => 0).toList _ r6 Try.underlying23 rfl info23 ?_
      simp only [Array.toArray_toList]
      clear r5 r6 a5 a6 hb2 HC HB
      go_wp2_with fail
      refine (newFit_any (fun _ => 0) (fun _ => 0) w2).mono ?_
      rintro e w3 ⟨rfl, hF, hb3, hz3⟩
      have HF : Hid (At w3 (w2.heap.size + 2) 30 (fun _ => 0)) := at_congr hF (fun k _ => by simp)
      have HC3 : Hid (At w3 w.heap.size i Y) := at_later HC2.out (hb3.mono (by omega))
      have HB3 : Hid (Below w.heap.size w w3) := HB2.out.trans (hb3.mono (by omega))
      have hz4 : w2.heap.size + 2 < w3.heap.size := by omega
      have hz5 : w.heap.size < w2.heap.size + 2 := by omega
      generalize w2.heap.size + 2 = gf at *
      clear hF hb3 HC2 HB2 hz3 hz2
      go_upto_region 18 with fail
      rw [show (#[Value.float FloatKind.f64 4607182418800017408, Value.float FloatKind.f64 0, Value.float FloatKind.f64 0, Value.float FloatKind.f64 0, Value.float FloatKind.f64 0] : Array Value) = momA xs from rfl]
      have hb4 : Below w3.heap.size w3 (w3.alloc (.cells (momA xs) 23)) := (Below.refl _ w3).alloc (Nat.le_refl _) _
      have HX4 : Hid (At (w3.alloc (.cells (momA xs) 23)) w3.heap.size 5 xs) := at_new w3 (momA xs) 23 5 xs (momA_at _)
      have HF4 : Hid (At (w3.alloc (.cells (momA xs) 23)) gf 30 (fun _ => 0)) := at_later HF.out (hb4.mono (by omega))
      have HC4 : Hid (At (w3.alloc (.cells (momA xs) 23)) w.heap.size i Y) := at_later HC3.out (hb4.mono (by omega))
      have HB4 : Hid (Below w.heap.size w (w3.alloc (.cells (momA xs) 23))) := HB3.out.trans (hb4.mono (by omega))
      have hz6 : w3.heap.size < (w3.alloc (.cells (momA xs) 23)).heap.size := by simp
      generalize w3.alloc (.cells (momA xs) 23) = w4 at *
      generalize w3.heap.size = bx at *
      clear hb4 HF HC3 HB3
      go_wp2
      go_loopw [9, 10] (fun x c wr => ∃ (j s : Nat) (G : Nat → Nat), j ≤ i ∧ c = .int .i64 j ∧ x = .float .f64 s ∧ At wr gf 30 G ∧ Gs j G ∧ Sm (G 25) s ∧ At wr bx 5 xs ∧ At wr w.heap.size i Y ∧ bx < wr.heap.size ∧ Below w.heap.size w wr) (fun _ c _ => i - (intOf c).toNat)
      case atStart => exact ⟨0, 0, fun _ => 0, by omega, rfl, rfl, HF4.out, ⟨rfl, fun _ _ _ => rfl⟩, Or.inl ⟨rfl, by decide⟩, HX4.out, HC4.out, hz6, HB4.out⟩
      case round =>
        clear HF4 HX4 HC4 HB4 hz6
        obtain ⟨j, s, G, hji, rfl, rfl, hF, hGs, hSm, hX, hC, hz6, hB⟩ := hrel
        have HF : Hid (At wr gf 30 G) := hF
        have HG : Hid (Gs j G) := hGs
        have HM : Hid (Sm (G 25) s) := hSm
        have HX : Hid (At wr bx 5 xs) := hX
        have HC : Hid (At wr w.heap.size i Y) := hC
        have HB : Hid (Below w.heap.size w wr) := hB
        clear hF hGs hSm hB
        by_cases hltj : j < i
        · have hx0 := (hX 0 (by omega)).1
          have hx1 := (hX 1 (by omega)).1
          have hx2 := (hX 2 (by omega)).1
          have hx3 := (hX 3 (by omega)).1
          have hx4 := (hX 4 (by omega)).1
          have hcy := (hC j hltj).1
          clear hX hC
          go_wp2_with fail
          go_region_with (go_at_call 8; refine (fitAdd_more gf gf bx 5 G xs xs (Y j) one wr.drew (Nat.le_refl _) (by simp; omega) (at_same (same_drew wr) HF.out) (by omega) (by simpa using hz6) (at_same (same_drew wr) HX.out)).mono ?_; rintro e w5 ⟨rfl, G', h1, h2, h3, h4⟩)
          all_goals
            have hcy5 : w5.cell? ⟨w.heap.size, j, none⟩ = some (.float .f64 (Y j)) := ((h3.cell (p := ⟨w.heap.size, j, none⟩) hz5).trans hcy)
            have hadd : ∀ (w : World) (x y : Nat), (binOp .add 22 (.float .f64 x) (.float .f64 y)).run Try.prog w = .ok (.float .f64 (res .add x y w)) (wld .add x y w) := fun w x y => run_arith w .add (by simp) 22 x y
            have H1 : Hid (At w5 gf 30 G') := h1
            have H2 : Hid (Upd xs (Y j) one 25 30 G G') := h2
            have H3 : Hid (Below gf wr w5) := (Below.refl gf wr).drew.trans h3
            have H4 : Hid (At w5 bx 5 xs) := h4
            clear h1 h2 h3 h4 hcy hx0 hx1 hx2 hx3 hx4
            go_wp2
            go_roundw
            case rel => exact ⟨j + 1, _, G', by omega, by go_num, rfl, at_same ((same_refl w5).wld _ _ _) H1.out, gram_step HG.out (by omega) H2.out, mom_step HM.out (HYl.out j hltj) H2.out (fop_res ..), at_same ((same_refl w5).wld _ _ _) H4.out, at_same ((same_refl w5).wld _ _ _) (at_later HC.out (H3.out.mono (by omega))), Nat.lt_of_lt_of_le hz6 (Nat.le_trans H3.out.size (((same_refl w5).wld _ _ _).2.2 0).size), (HB.out.trans (H3.out.mono (by omega))).trans (((same_refl w5).wld _ _ _).2.2 _)⟩
            case measure => simp [intOf]; omega
        · have hjn : j = i := by omega
          subst hjn
          clear hX hC HX HC
          go_wp2_with fail
          refine (fitMoment_any gf G wr (by omega) HF.out).mono ?_
          rintro e w5 ⟨rfl, hb5⟩
          have HF5 : Hid (At w5 gf 30 G) := at_later HF.out (hb5.mono (by omega))
          have HB5 : Hid (Below w.heap.size w w5) := HB.out.trans (hb5.mono (by omega))
          have hz7 : bx < w5.heap.size := Nat.lt_of_lt_of_le hz6 hb5.size
          clear hb5 HF HB
          go_wp2_with fail
          refine (fitSolve_any j gf G (fun k => G (25 + k)) w5 (by omega) HF5.out HG.out (by omega) (sm_self HM.out)).mono ?_
          rintro e w6 ⟨R, rfl, r1, r2, r3, hb6⟩
          have HR : Hid ((∀ k, 0 < k → k < 5 → R k = 0) ∧ (j = 0 → R 0 = 0) ∧ (j ≠ 0 → ∃ s, Sm s (G 25) ∧ FOp .quo s (cnt j) (R 0))) := ⟨r1, r2, r3⟩
          have HB6 : Hid (Below w.heap.size w w6) := HB5.out.trans (hb6.mono (by omega))
          have hz8 : w.heap.size ≤ w6.heap.size := HB6.out.size
          clear r1 r2 r3 hb6 HF5 HB5
          dsimp only
          iterate 4 go_step
          rw [show (#[Value.float FloatKind.f64 0, Value.float FloatKind.f64 0, Value.float FloatKind.f64 0, Value.float FloatKind.f64 0, Value.float FloatKind.f64 0] : Array Value) = momA fun _ => 0 from rfl]
          obtain ⟨a7, hb7, ht7⟩ := stored_newM w6 (fun _ => 0) R
          refine wpList_store_mid rfl 23 (.tmp 11) (.tmp 65) rfl w6.heap.size 0 (momA R) rfl rfl ht7 info23 (momA_one R) ?_
          have HB7 : Hid (Below w.heap.size w ((w6.alloc (.cells (momA fun _ => 0) 23)).setCells w6.heap.size 0 (momA R).toList)) := HB6.out.trans (hb7.mono (by omega))
          have hz9 : w6.heap.size < ((w6.alloc (.cells (momA fun _ => 0) 23)).setCells w6.heap.size 0 (momA R).toList).heap.size := by rw [size_setCells]; simp
          generalize (w6.alloc (.cells (momA fun _ => 0) 23)).setCells w6.heap.size 0 (momA R).toList = w7 at *
          generalize w6.heap.size = bg at *
          clear hb7 ht7 HB6
          go_upto_region 25 with fail
          rw [show (#[Value.float FloatKind.f64 0, Value.float FloatKind.f64 0, Value.float FloatKind.f64 0, Value.float FloatKind.f64 0, Value.float FloatKind.f64 0] : Array Value) = momA fun _ => 0 from rfl]
          have hb8 : Below w7.heap.size w7 (w7.alloc (.cells (momA fun _ => 0) 23)) := (Below.refl _ w7).alloc (Nat.le_refl _) _
          have HAg8 : Hid (At (w7.alloc (.cells (momA fun _ => 0) 23)) bg 5 R) := at_later a7 (hb8.mono (by omega))
          have HAw8 : Hid (At (w7.alloc (.cells (momA fun _ => 0) 23)) w7.heap.size 5 (fun _ => 0)) := at_new w7 _ 23 5 _ (momA_at _)
          have HBw8 : Hid (Below w.heap.size w (w7.alloc (.cells (momA fun _ => 0) 23))) := HB7.out.trans (hb8.mono (by omega))
          generalize w7.alloc (.cells (momA fun _ => 0) 23) = w8 at *
          have hz10 : w.heap.size ≤ w7.heap.size := by omega
          generalize w7.heap.size = bw at *
          clear hb8 a7 HB7
          by_cases hj0 : j = 0
          · have HJ : Hid (j = 0) := hj0
            have hjn : ¬ 0 < j := by omega
            clear hj0
            obtain ⟨V, hV⟩ : ∃ V : Nat → Nat, V = fun _ => 0 := ⟨_, rfl⟩
            have HAw : Hid (At w8 bw 5 V) := (by rw [hV]; exact HAw8.out : At w8 bw 5 V)
            have HE : Hid (∀ k, k < 5 → Eqv (R k) (V k)) := (by
              intro k hk
              left
              rw [hV]
              by_cases hk0 : k = 0
              · subst hk0; exact HR.out.2.1 HJ.out
              · exact HR.out.1 k (by omega) hk : ∀ k, k < 5 → Eqv (R k) (V k))
            have HAg := HAg8
            have HBw := HBw8
            clear HAg8 HAw8 HBw8 HR HM HG HYl hV
            go_wp2
            go_loopw [13] (fun c wr => ∃ k : Nat, k ≤ 5 ∧ c = .int .i64 k ∧ At wr bg 5 R ∧ At wr bw 5 V ∧ Below w.heap.size w wr) (fun c _ => 5 - (intOf c).toNat)
            case atStart => exact ⟨0, by omega, rfl, HAg.out, HAw.out, HBw.out⟩
            case round =>
              clear HAg HAw HBw
              obtain ⟨k, hk5, rfl, hg, hv, hB⟩ := hrel
              have HAg : Hid (At wr bg 5 R) := hg
              have HAw : Hid (At wr bw 5 V) := hv
              have HBw : Hid (Below w.heap.size w wr) := hB
              clear hB
              by_cases hltk : k < 5
              · have hcg := (hg k hltk).1
                have hcv := (hv k hltk).1
                have hE := HE.out k hltk
                clear hg hv
                go_wp2_with fail
                go_region_with (go_at_call 13; refine (sameNum_any (R k) (V k) _ hE).mono ?_; rintro e w9 ⟨rfl, rfl⟩)
                all_goals
                  go_wp2
                  go_roundw
                  case rel => exact ⟨k + 1, by omega, by go_num, at_same (same_drew wr) HAg.out, at_same (same_drew wr) HAw.out, HBw.out.drew⟩
                  case measure => simp [intOf]; omega
              · have hk5' : k = 5 := by omega
                subst hk5'
                clear hg hv
                go_wp2
                go_ret
                exact ⟨rfl, HBw.out⟩
          · have hcf : floatOfInt .f64 (j : Int) = cnt j := (by
              have := cnt_nearest (n := j) (by omega)
              rw [← this]
              show Ieee.double.nearest (decide ((j : Int) < 0)) (j : Int).natAbs 0 = _
              rw [decide_eq_false (by omega)]
              rfl)
            have hquo : ∀ (w : World) (x y : Nat), (binOp .quo 22 (.float .f64 x) (.float .f64 y)).run Try.prog w = .ok (.float .f64 (res .quo x y w)) (wld .quo x y w) := fun w x y => run_arith w .quo (by simp) 22 x y
            have hcw := cell_wld
            have hfw := frozen_wld
            have hc0 := (HAw8.out 0 (by omega)).1
            have hc1 := (HAw8.out 0 (by omega)).2
            obtain ⟨V, hV⟩ : ∃ V : Nat → Nat, V = fun x => if x = 0 then res .quo s (cnt j) w8 else 0 := ⟨_, rfl⟩
            have HAw : Hid (At ((wld .quo s (cnt j) w8).setCell ⟨bw, 0, none⟩ (.float .f64 (res .quo s (cnt j) w8))) bw 5 V) := (by rw [hV]; exact at_put ((same_refl w8).wld _ _ _) HAw8.out (by omega) : At ((wld .quo s (cnt j) w8).setCell ⟨bw, 0, none⟩ (.float .f64 (res .quo s (cnt j) w8))) bw 5 V)
            have HAg : Hid (At ((wld .quo s (cnt j) w8).setCell ⟨bw, 0, none⟩ (.float .f64 (res .quo s (cnt j) w8))) bg 5 R) := at_other ((same_refl w8).wld _ _ _) HAg8.out (by omega)
            have HBw : Hid (Below w.heap.size w ((wld .quo s (cnt j) w8).setCell ⟨bw, 0, none⟩ (.float .f64 (res .quo s (cnt j) w8)))) := (HBw8.out.trans (((same_refl w8).wld _ _ _).2.2 _)).setCell hz10 _
            have HE : Hid (∀ k, k < 5 → Eqv (R k) (V k)) := (by
              intro k hk
              rw [hV]
              by_cases hk0 : k = 0
              · subst hk0
                obtain ⟨s', h1, h2⟩ := HR.out.2.2 hj0
                simp only [if_true]
                exact quo_eqv (h1.trans HM.out) h2 (fop_res ..)
              · left
                simp only [if_neg hk0]
                exact HR.out.1 k (by omega) hk : ∀ k, k < 5 → Eqv (R k) (V k))
            clear HAg8 HAw8 HBw8 HR HM HG HYl hV
            go_wp2
            go_loopw [13] (fun c wr => ∃ k : Nat, k ≤ 5 ∧ c = .int .i64 k ∧ At wr bg 5 R ∧ At wr bw 5 V ∧ Below w.heap.size w wr) (fun c _ => 5 - (intOf c).toNat)
            case atStart => exact ⟨0, by omega, rfl, HAg.out, HAw.out, HBw.out⟩
            case round =>
              clear HAg HAw HBw
              obtain ⟨k, hk5, rfl, hg, hv, hB⟩ := hrel
              have HAg : Hid (At wr bg 5 R) := hg
              have HAw : Hid (At wr bw 5 V) := hv
              have HBw : Hid (Below w.heap.size w wr) := hB
              clear hB
              by_cases hltk : k < 5
              · have hcg := (hg k hltk).1
                have hcv := (hv k hltk).1
                have hE := HE.out k hltk
                clear hg hv
                go_wp2_with fail
                go_region_with (go_at_call 13; refine (sameNum_any (R k) (V k) _ hE).mono ?_; rintro e w9 ⟨rfl, rfl⟩)
                all_goals
                  go_wp2
                  go_roundw
                  case rel => exact ⟨k + 1, by omega, by go_num, at_same (same_drew wr) HAg.out, at_same (same_drew wr) HAw.out, HBw.out.drew⟩
                  case measure => simp [intOf]; omega
              · have hk5' : k = 5 := by omega
                subst hk5'
                clear hg hv
                go_wp2
                go_ret
                exact ⟨rfl, HBw.out⟩

end Go.Proofs.Qxb6603773a.MeanLaw
