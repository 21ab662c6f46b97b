import Derived.Test.Qxb6603773aFitCalls
import Derived.Deep.QuietTactic
import Derived.BigQuiet
namespace Go.Proofs.Qxb6603773a.AddLaw
open Go.RowKit Go.Proofs.Qxb6603773a.Add

def ge (x y : Nat) : Bool := FloatKind.f64.format.order x y == some .gt || FloatKind.f64.format.order x y == some .eq

theorem ge_yes {x y : Nat} (h : ge x y = true) : (FloatKind.f64.format.order x y == some .gt || FloatKind.f64.format.order x y == some .eq) = true ∧ (!(FloatKind.f64.format.order x y == some .gt) && !(FloatKind.f64.format.order x y == some .eq)) = false := by
  unfold ge at h
  exact ⟨h, by rw [← Bool.not_or, h]; rfl⟩
theorem ge_no {x y : Nat} (h : ge x y = false) : (FloatKind.f64.format.order x y == some .gt || FloatKind.f64.format.order x y == some .eq) = false ∧ (!(FloatKind.f64.format.order x y == some .gt) && !(FloatKind.f64.format.order x y == some .eq)) = true := by
  unfold ge at h
  exact ⟨h, by rw [← Bool.not_or, h]; rfl⟩

set_option maxHeartbeats 1600000 in
set_option maxRecDepth 100000 in
theorem walk_no (G M X : Nat → Nat) (y keep : Nat) (w : World) (h : ge keep 0 = false) :
    Calls Try.prog 3 #[.agg (gramA G), .agg (momA M), .agg (momA X), .float .f64 y, .float .f64 keep] w fun e w' => e = .returned (.bool true) ∧ Below w.heap.size w w' := by
  have s1 : (gramA G).size = 25 := rfl
  have s2 : (momA M).size = 5 := rfl
  have s3 : (momA X).size = 5 := rfl
  obtain ⟨h1, h2⟩ := ge_no h
  go_enter Try.func3, Try.ntmps3
  go_wp2_with fail
  go_ret
  exact ⟨rfl, (((Below.refl _ w).alloc (Nat.le_refl _) _).alloc (by simp) _).alloc (by simp; omega) _⟩

set_option maxHeartbeats 1600000 in
set_option maxRecDepth 100000 in
theorem walk_inf (G M X : Nat → Nat) (y keep : Nat) (w : World) (h : ge keep 0 = true) (hf : Rung.fin keep = false) :
    Calls Try.prog 3 #[.agg (gramA G), .agg (momA M), .agg (momA X), .float .f64 y, .float .f64 keep] w fun e w' => e = .returned (.bool true) ∧ Below w.heap.size w w' := by
  have s1 : (gramA G).size = 25 := rfl
  have s2 : (momA M).size = 5 := rfl
  have s3 : (momA X).size = 5 := rfl
  obtain ⟨h1, h2⟩ := ge_yes h
  go_enter Try.func3, Try.ntmps3
  go_wp2_with fail
  refine (finite_any _ _).mono ?_
  rintro e w1 ⟨rfl, hsame⟩
  rw [hf]
  have hb := ((((Below.refl _ w).alloc (Nat.le_refl _) (.cells (gramA G) 24)).alloc (by simp) (.cells (momA M) 23)).alloc (by simp; omega) (.cells (momA X) 23)).trans (hsame.2.2 w.heap.size)
  clear hsame
  go_wp2
  go_ret
  exact ⟨rfl, hb⟩

theorem at_same {w W : World} (h : Same w W) {g n : Nat} {G : Nat → Nat} (hA : At w g n G) : At W g n G := fun k hk => ⟨(h.1 _).trans (hA k hk).1, (h.2.1 _).trans (hA k hk).2⟩

theorem boxes (G M X : Nat → Nat) (w : World) : At (((w.alloc (.cells (gramA G) 24)).alloc (.cells (momA M) 23)).alloc (.cells (momA X) 23)) w.heap.size 25 G ∧ At (((w.alloc (.cells (gramA G) 24)).alloc (.cells (momA M) 23)).alloc (.cells (momA X) 23)) (w.heap.size + 1) 5 M ∧ At (((w.alloc (.cells (gramA G) 24)).alloc (.cells (momA M) 23)).alloc (.cells (momA X) 23)) (w.heap.size + 1 + 1) 5 X := by
  have a0 := at_new w (gramA G) 24 25 G (gramA_at G)
  have a1 := at_new (w.alloc (.cells (gramA G) 24)) (momA M) 23 5 M (momA_at M)
  have a2 := at_new ((w.alloc (.cells (gramA G) 24)).alloc (.cells (momA M) 23)) (momA X) 23 5 X (momA_at X)
  simp only [World.size_alloc] at a1 a2
  refine ⟨at_later (at_later a0 ((Below.refl _ _).alloc (by simp) _)) ((Below.refl _ _).alloc (by simp) _), at_later a1 ((Below.refl _ _).alloc (by simp) _), a2⟩

/-- The entry i of the diagonal, and x's, pass the law's tests. -/
def Good (G X : Nat → Nat) (i : Nat) : Prop := ge (G (i * 5 + i)) 0 = true ∧ Rung.fin (G (i * 5 + i)) = true ∧ Rung.fin (X i) = true

theorem stored_new (w : World) (Z G : Nat → Nat) : At ((w.alloc (.cells (gramA Z) 24)).setCells w.heap.size 0 (gramA G).toList) w.heap.size 25 G ∧ Below w.heap.size w ((w.alloc (.cells (gramA Z) 24)).setCells w.heap.size 0 (gramA G).toList) ∧ (w.alloc (.cells (gramA Z) 24)).there w.heap.size 0 (gramA G).size := by
  have ht : (w.alloc (.cells (gramA Z) 24)).there w.heap.size 0 (gramA G).size := by
    intro j hj
    rw [Nat.zero_add]
    have := at_new w (gramA Z) 24 25 Z (gramA_at _) j hj
    exact ⟨by rw [this.1]; rfl, this.2⟩
  refine ⟨fun k hk => ⟨?_, ?_⟩, below_setCells (Nat.le_refl _) _ _ _ _ ((Below.refl _ w).alloc (Nat.le_refl _) _), ht⟩
  · have hr := range_setCells (vs := (gramA G).toList) (by simpa using ht)
    have := hr k (.float .f64 (G k)) (by rw [Array.getElem?_toList]; exact gramA_at G k hk)
    rw [Nat.zero_add] at this
    exact this
  · rw [World.frozen?_setCells]
    have := (ht k hk).2
    rw [Nat.zero_add] at this
    exact this

/-- What 'add' left in an entry of the diagonal. -/
theorem diagonal {G M X G' : Nat → Nat} {y keep i : Nat} (hk : ge keep 0 = true) (hf : Rung.fin keep = true) (hi : i < 5) (hg : Good G X i) (hU : Upd X y keep 25 30 (fun k => if k < 25 then G k else M (k - 25)) G') :
    ∃ p q, floatBits .mul .f64 keep (G (i * 5 + i)) = some p ∧ floatBits .mul .f64 (X i) (X i) = some q ∧ ge (G' (i * 5 + i)) 0 = true ∧ ge (G' (i * 5 + i)) q = true ∧ ge (G' (i * 5 + i)) p = true := by
  obtain ⟨g0, g1, g2⟩ := hg
  obtain ⟨p, q, d, h1, h2, h3, h4, h5, h6⟩ := Rung.entry hf hk g1 g0 g2
  obtain ⟨p', q', f1, f2, f3⟩ := (hU (i * 5 + i) (by omega)).1 (Or.inl ⟨by omega, by omega⟩)
  have e1 : Ul X (i * 5 + i) = X i := by unfold Ul; rw [if_pos (by omega)]; congr 1; omega
  have e2 : Ur X y (i * 5 + i) = X i := by unfold Ur; rw [if_pos (by omega)]; congr 1; omega
  rw [e1, e2] at f2
  simp only [if_pos (show i * 5 + i < 25 by omega)] at f1
  have m1 : floatBits .mul .f64 keep (G (i * 5 + i)) = some p := h1
  have m2 : floatBits .mul .f64 (X i) (X i) = some q := h2
  have ep : p' = p := by
    rcases f1 with f1 | f1
    · rw [m1] at f1; exact (Option.some.inj f1).symm
    · rw [m1] at f1; cases f1.1
  have eq : q' = q := by
    rcases f2 with f2 | f2
    · rw [m2] at f2; exact (Option.some.inj f2).symm
    · rw [m2] at f2; cases f2.1
  subst ep eq
  have m3 : floatBits .add .f64 p' q' = some d := h3
  have ed : G' (i * 5 + i) = d := by
    rcases f3 with f3 | f3
    · rw [m3] at f3; exact (Option.some.inj f3).symm
    · rw [m3] at f3; cases f3.1
  rw [ed]
  exact ⟨p', q', m1, m2, h4, h5, h6⟩

set_option maxHeartbeats 4000000 in
set_option maxRecDepth 100000 in
theorem walk_main (G M X : Nat → Nat) (y keep : Nat) (w : World) (h : ge keep 0 = true) (hf : Rung.fin keep = true) :
    Calls Try.prog 3 #[.agg (gramA G), .agg (momA M), .agg (momA X), .float .f64 y, .float .f64 keep] w fun e w' => e = .returned (.bool true) ∧ Below w.heap.size w w' := by
  have s1 : (gramA G).size = 25 := rfl
  have s2 : (momA M).size = 5 := rfl
  have s3 : (momA X).size = 5 := rfl
  obtain ⟨h1, h2⟩ := ge_yes h
  go_enter Try.func3, Try.ntmps3
  go_wp2_with fail
  refine (finite_any _ _).mono ?_
  rintro e w1 ⟨rfl, hsame⟩
  rw [hf]
  have hb := ((((Below.refl _ w).alloc (Nat.le_refl _) (.cells (gramA G) 24)).alloc (by simp) (.cells (momA M) 23)).alloc (by simp; omega) (.cells (momA X) 23)).trans (hsame.2.2 w.heap.size)
  obtain ⟨b0, b1, b2⟩ := boxes G M X w
  have hA0 := at_same hsame b0
  have hA1 := at_same hsame b1
  have hA2 := at_same hsame b2
  have hsz : w.heap.size + 3 ≤ w1.heap.size := by have := (hsame.2.2 0).size; simp at this; omega
  clear b0 b1 b2
  clear hsame s1 s2 s3
  go_wp2_with fail
  go_loopw [11] (fun c wr => ∃ i : Nat, i ≤ 5 ∧ c = .int .i64 i ∧ At wr w.heap.size 25 G ∧ At wr (w.heap.size + 1) 5 M ∧ At wr (w.heap.size + 1 + 1) 5 X ∧ w.heap.size + 3 ≤ wr.heap.size ∧ Below w.heap.size w wr ∧ ∀ a, a < i → Good G X a) (fun c _ => 5 - (intOf c).toNat)
  case atStart => exact ⟨0, by omega, rfl, hA0, hA1, hA2, hsz, hb, fun a ha => by omega⟩
  case round =>
    clear hA0 hA1 hA2 hsz hb
    obtain ⟨i, hi, rfl, hA0, hA1, hA2, hsz, hb, hgood⟩ := hrel
    have H0 : Hid (At wr w.heap.size 25 G) := hA0
    have H1 : Hid (At wr (w.heap.size + 1) 5 M) := hA1
    have H2 : Hid (At wr (w.heap.size + 1 + 1) 5 X) := hA2
    have HB : Hid (Below w.heap.size w wr) := hb
    have HG : Hid (∀ a, a < i → Good G X a) := hgood
    clear hb hA1 hgood
    by_cases hlt : i < 5
    · have hc := (hA0 (i * 5 + i) (by omega)).1
      have hx := (hA2 i hlt).1
      clear hA0 hA2
      cases hg0 : ge (G (i * 5 + i)) 0 with
      | false =>
        obtain ⟨g1, g2⟩ := ge_no hg0
        go_wp2_with fail
        go_ret
        exact ⟨rfl, HB.out⟩
      | true =>
        obtain ⟨g1, g2⟩ := ge_yes hg0
        go_wp2_with fail
        refine (finite_any _ _).mono ?_
        rintro e w2 ⟨rfl, hs2⟩
        have hx2 := (hs2.1 _).trans hx
        have HS2 : Hid (Same wr w2) := hs2
        clear hs2
        cases hf0 : Rung.fin (G (i * 5 + i)) with
        | false =>
          go_wp2_with fail
          go_ret
          exact ⟨rfl, HB.out.trans (HS2.out.2.2 _)⟩
        | true =>
          go_wp2_with fail
          refine (finite_any _ _).mono ?_
          rintro e w3 ⟨rfl, hs3⟩
          have HS3 : Hid (Same w2 w3) := hs3
          clear hs3
          cases hf1 : Rung.fin (X i) with
          | false =>
            go_wp2_with fail
            go_ret
            exact ⟨rfl, (HB.out.trans (HS2.out.2.2 _)).trans (HS3.out.2.2 _)⟩
          | true =>
            go_wp2_with fail
            go_roundw
            case rel => exact ⟨i + 1, by omega, by go_num, at_same HS3.out (at_same HS2.out H0.out), at_same HS3.out (at_same HS2.out H1.out), at_same HS3.out (at_same HS2.out H2.out), Nat.le_trans hsz (Nat.le_trans (HS2.out.2.2 0).size (HS3.out.2.2 0).size), (HB.out.trans (HS2.out.2.2 _)).trans (HS3.out.2.2 _), fun a ha => by
              by_cases e : a = i
              · subst e; exact ⟨hg0, hf0, hf1⟩
              · exact HG.out a (by omega)⟩
            case measure => simp [intOf]; omega
    · have hi5 : i = 5 := by omega
      subst hi5
      have R0 : Hid (wr.rangeAt w.heap.size 0 (gramA G).toList) := rangeAt_of hA0 (by rw [gramA_size]; omega) (gramA_at G)
      have R1 : Hid (wr.rangeAt (w.heap.size + 1) 0 (momA M).toList) := rangeAt_of H1.out (Nat.le_refl _) (momA_at M)
      have R2 : Hid (wr.rangeAt (w.heap.size + 1 + 1) 0 (momA X).toList) := rangeAt_of hA2 (Nat.le_refl _) (momA_at X)
      clear hA0 hA2
      go_upto_region 8 with fail
      refine wp_region_lit ?_
      refine wpList_load_mid rfl 24 (.tmp 5) rfl w.heap.size 0 rfl (gramA G).toList _ R0.out Try.underlying24 rfl info24 ?_
      refine wpList_load_mid rfl 23 (.tmp 6) rfl (w.heap.size + 1) 0 rfl (momA M).toList _ R1.out Try.underlying23 rfl info23 ?_
      simp only [Array.toArray_toList]
      go_wp2_with fail
      refine (newFit_any G M wr).mono ?_
      rintro e w2 ⟨rfl, hF, hb2, hz2⟩
      have R3 : Hid (w2.rangeAt (w.heap.size + 1 + 1) 0 (momA X).toList) := rangeAt_of (at_later H2.out (hb2.mono (by omega))) (Nat.le_refl _) (momA_at X)
      have HF : Hid (At w2 (wr.heap.size + 2) 30 (fun k => if k < 25 then G k else M (k - 25))) := hF
      have HB2 : Hid (Below wr.heap.size wr w2) := hb2
      clear hF hb2 R0 R1 R2
      go_upto_region 9 with fail
      refine wp_region_lit ?_
      iterate 3 go_step
      refine wpList_load_mid rfl 23 (.tmp 7) rfl (w.heap.size + 1 + 1) 0 rfl (momA X).toList _ R3.out Try.underlying23 rfl info23 ?_
      simp only [Array.toArray_toList]
      go_wp2_with fail
      refine (fitAdd_any wr.heap.size (wr.heap.size + 2) _ X y keep w2 (by omega) (by omega) HF.out).mono ?_
      rintro e w3 ⟨rfl, G', hG', hU, hb3⟩
      have HG' : Hid (At w3 (wr.heap.size + 2) 30 G') := hG'
      have HU : Hid (Upd X y keep 25 30 (fun k => if k < 25 then G k else M (k - 25)) G') := hU
      have HB3 : Hid (Below wr.heap.size w2 w3) := hb3
      have hz3 : wr.heap.size + 3 ≤ w3.heap.size := by have := hb3.size; omega
      clear hG' hU hb3 R3 HF
      go_wp2_with fail
      refine (fitGram_any (wr.heap.size + 2) G' w3 (by omega) HG'.out).mono ?_
      rintro e w4 ⟨rfl, hb4⟩
      have HB4 : Hid (Below wr.heap.size wr w4) := (HB2.out.trans HB3.out).trans (hb4.mono (by omega))
      clear hb4 HG'
      dsimp only
      iterate 4 go_step
      rw [show (#[Value.float FloatKind.f64 0, Value.float FloatKind.f64 0, Value.float FloatKind.f64 0, Value.float FloatKind.f64 0, Value.float FloatKind.f64 0, Value.float FloatKind.f64 0, Value.float FloatKind.f64 0, Value.float FloatKind.f64 0, Value.float FloatKind.f64 0, Value.float FloatKind.f64 0, Value.float FloatKind.f64 0, Value.float FloatKind.f64 0, Value.float FloatKind.f64 0, Value.float FloatKind.f64 0, Value.float FloatKind.f64 0, Value.float FloatKind.f64 0, Value.float FloatKind.f64 0, Value.float FloatKind.f64 0, Value.float FloatKind.f64 0, Value.float FloatKind.f64 0, Value.float FloatKind.f64 0, Value.float FloatKind.f64 0, Value.float FloatKind.f64 0, Value.float FloatKind.f64 0, Value.float FloatKind.f64 0] : Array Value) = gramA fun _ => 0 from rfl]
      obtain ⟨hA5, hb5, ht5⟩ := stored_new w4 (fun _ => 0) G'
      refine wpList_store_mid rfl 24 (.tmp 13) (.tmp 60) rfl w4.heap.size 0 (gramA G') rfl rfl ht5 info24 (gramA_one G') ?_
      generalize (w4.alloc (.cells (gramA fun _ => 0) 24)).setCells w4.heap.size 0 (gramA G').toList = w5 at *
      have hz4 := HB4.out.size
      have hA0 : At w5 w.heap.size 25 G := at_later (at_later H0.out (HB4.out.mono (by omega))) (hb5.mono (by omega))
      have hA2 : At w5 (w.heap.size + 1 + 1) 5 X := at_later (at_later H2.out (HB4.out.mono (by omega))) (hb5.mono (by omega))
      have hB5 : Below w.heap.size w w5 := (HB.out.trans (HB4.out.mono (by omega))).trans (hb5.mono (by omega))
      clear hb5 ht5 HB HB4 HB2 HB3 H0 H1 H2
      go_wp2
      go_loopw [14, 15] (fun c _ wr => ∃ i : Nat, i ≤ 5 ∧ c = .int .i64 i ∧ At wr w4.heap.size 25 G' ∧ At wr w.heap.size 25 G ∧ At wr (w.heap.size + 1 + 1) 5 X ∧ Below w.heap.size w wr) (fun c _ _ => 5 - (intOf c).toNat)
      case atStart => exact ⟨0, by omega, rfl, hA5, hA0, hA2, hB5⟩
      case round =>
        clear hA5 hA0 hA2 hB5
        obtain ⟨i, hi, rfl, hA5, hA0, hA2, hB5⟩ := hrel
        by_cases hlt : i < 5
        · obtain ⟨p, q, m1, m2, o1, o2, o3⟩ := diagonal h hf hlt (HG.out i hlt) HU.out
          have hc5 := (hA5 (i * 5 + i) (by omega)).1
          have hc0 := (hA0 (i * 5 + i) (by omega)).1
          have hcx := (hA2 i hlt).1
          have hm1 : ∀ w : World, (binOp .mul 22 (.float .f64 keep) (.float .f64 (G (i * 5 + i)))).run Try.prog w = .ok (.float .f64 p) w := fun w => run_float_arith w .mul 22 .f64 _ _ _ m1
          have hm2 : ∀ w : World, (binOp .mul 22 (.float .f64 (X i)) (.float .f64 (X i))).run Try.prog w = .ok (.float .f64 q) w := fun w => run_float_arith w .mul 22 .f64 _ _ _ m2
          obtain ⟨o11, o12⟩ := ge_yes o1
          obtain ⟨o21, o22⟩ := ge_yes o2
          obtain ⟨o31, o32⟩ := ge_yes o3
          have H5 : Hid (At wr w4.heap.size 25 G') := hA5
          have H0 : Hid (At wr w.heap.size 25 G) := hA0
          have H2 : Hid (At wr (w.heap.size + 1 + 1) 5 X) := hA2
          have HB5 : Hid (Below w.heap.size w wr) := hB5
          clear hA5 hA0 hA2 hB5 m1 m2 o1 o2 o3
          go_wp2_with fail
          go_big_region
          all_goals
            go_wp2
            go_roundw
            case rel => exact ⟨i + 1, by omega, by go_num, at_same (same_drew wr) H5.out, at_same (same_drew wr) H0.out, at_same (same_drew wr) H2.out, HB5.out.drew⟩
            case measure => simp [intOf]; omega
        · have hi5 : i = 5 := by omega
          subst hi5
          clear hA5 hA0 hA2
          go_wp2
          go_ret
          exact ⟨rfl, hB5⟩

/-- THE WALK. -/
theorem walk (G M X : Nat → Nat) (y keep : Nat) (w : World) :
    Calls Try.prog 3 #[.agg (gramA G), .agg (momA M), .agg (momA X), .float .f64 y, .float .f64 keep] w fun e w' => e = .returned (.bool true) ∧ Below w.heap.size w w' := by
  cases h : ge keep 0 with
  | false => exact walk_no G M X y keep w h
  | true =>
    cases hf : Rung.fin keep with
    | false => exact walk_inf G M X y keep w h hf
    | true => exact walk_main G M X y keep w h hf

end Go.Proofs.Qxb6603773a.AddLaw
