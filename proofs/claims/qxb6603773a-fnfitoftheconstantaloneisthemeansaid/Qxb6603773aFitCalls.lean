import Derived.Test.Qxb6603773aAddWalk
import Derived.Deep.MidRow
import Derived.Deep.Cut
namespace Go.Proofs.Qxb6603773a.Add
open Go.RowKit

theorem order_self {x : Nat} (w : World) : (Ieee.double.order (res .sub x x w) 0 == some .eq) = Rung.fin x := by
  have h := fop_res .sub x x w
  generalize res .sub x x w = r at h
  unfold FOp floatBits at h
  unfold Rung.fin
  have hn : isNan r → (Ieee.double.order r 0 == some .eq) = false := by
    rintro ⟨s, t, e⟩
    unfold Ieee.Format.order
    rw [e]; rfl
  cases hx : Ieee.double.read x with
  | number s m i =>
    have e : FloatKind.f64.format.sub x x = some 0 := by
      show Ieee.double.sub x x = some 0
      unfold Ieee.Format.sub
      rw [hx]
      simp only [Ieee.Datum.opposite, Ieee.Datum.sum, Int.min_self, Int.sub_self]
      have e0 : Ieee.signed s m (0 : Int).toNat + Ieee.signed (!s) m (0 : Int).toNat = 0 := by
        unfold Ieee.signed
        cases s <;> simp <;> omega
      rw [e0]
      cases s <;> rfl
    rcases h with h | h
    · simp only [e] at h
      injection h with h
      subst h
      rfl
    · simp only [e] at h
      cases h.1
  | infinity s =>
    have e : FloatKind.f64.format.sub x x = none := by
      show Ieee.double.sub x x = none
      unfold Ieee.Format.sub
      rw [hx]
      cases s <;> rfl
    rcases h with h | h
    · simp only [e] at h
      cases h
    · exact hn h.2
  | nan s t =>
    have e : FloatKind.f64.format.sub x x = none := by
      show Ieee.double.sub x x = none
      unfold Ieee.Format.sub
      rw [hx]
      rfl
    rcases h with h | h
    · simp only [e] at h
      cases h
    · exact hn h.2

set_option maxHeartbeats 400000 in
theorem finite_any (x : Nat) (w : World) : Calls Try.prog 6 #[.float .f64 x] w fun e w' => e = .returned (.bool (Rung.fin x)) ∧ Same w w' := by
  have hsub : ∀ (w : World) (x y : Nat), (binOp .sub 22 (.float .f64 x) (.float .f64 y)).run Try.prog w = .ok (.float .f64 (res .sub x y w)) (wld .sub x y w) := fun w x y => run_arith w .sub (by simp) 22 x y
  go_enter Try.func6, Try.ntmps6
  go_wp2
  go_ret
  refine ⟨?_, ⟨fun a => cell_wld _ _ _ _ a, fun a => frozen_wld _ _ _ _ a, fun B => ?_⟩⟩
  · rw [← order_self (x := x) w]; rfl
  · unfold wld
    split
    · exact Below.refl B w
    · exact (Below.refl B w).drew

theorem range_alloc_old {w : World} {b o : Nat} {cs : List Value} (h : w.rangeAt b o cs) (hb : b < w.heap.size) (x : Obj) : (w.alloc x).rangeAt b o cs := fun j v hj => by
  rw [World.cell?_alloc_lt _ _ _ hb]; exact h j v hj
theorem range_new (w : World) (A : Array Value) (t : TypeId) : (w.alloc (.cells A t)).rangeAt w.heap.size 0 A.toList := fun j v hj => by
  rw [World.cell?_alloc_new, Nat.zero_add]; simpa using hj

theorem info24 : (Try.prog.info? 24).map (·.size) = some 25 := by kernel_rfl
theorem info23 : (Try.prog.info? 23).map (·.size) = some 5 := by kernel_rfl

theorem wpList_build {P : Program} {ops : Array Oper} {rest : List Oper} {op : Oper} {a : Act} {w : World} {Q : Exit → Act → World → Prop} (hgd : op.guard = none) (t : TypeId) (parts : Array (Nat × Operand)) (ho : op.op = .build t parts)
    (vs : Array (Nat × Value)) (hv : parts.map (fun p => (p.1, a.eval p.2)) = vs) (v : Value) (hr : (Instr.build t vs).run P w = .ok v w)
    (h : wpList P ops Q rest (a.put op.dst v) w) : wpList P ops Q (op :: rest) a w :=
  wpList_plain hgd fun _ hK => by
    unfold Oper.wp execOp
    simp only [ho, hv, Sem.run_bind, Sem.run_pure, Result.andThen_ok, hr]
    exact hK _ _ h

set_option maxHeartbeats 800000 in
theorem newFit_abs (GA MA FA : Array Value) (hGA : GA.size = 25) (hMA : MA.size = 5) (hb : ∀ w, (Instr.build 38 #[(0, .agg GA), (1, .agg MA)]).run Try.prog w = .ok (.agg FA) w) (w : World) :
    Calls Try.prog 7 #[.agg GA, .agg MA] w fun e w' => e = .returned (.pointer (some ⟨w.heap.size + 2, 0, none⟩)) ∧ w' = ((w.alloc (.cells GA 24)).alloc (.cells MA 23)).alloc (.cells FA 38) := by
  have h1 : Hid (((w.alloc (.cells GA 24)).alloc (.cells MA 23)).rangeAt w.heap.size 0 GA.toList) := range_alloc_old (range_new _ _ _) (by simp) _
  have h2 : Hid (((w.alloc (.cells GA 24)).alloc (.cells MA 23)).rangeAt (w.heap.size + 1) 0 MA.toList) := (by have := range_new (w.alloc (.cells GA 24)) MA 23; simpa using this : ((w.alloc (.cells GA 24)).alloc (.cells MA 23)).rangeAt (w.heap.size + 1) 0 MA.toList)
  have hi24 : Hid ((Try.prog.info? 24).map (·.size) = some GA.toList.length) := (by rw [info24]; simp [hGA] : (Try.prog.info? 24).map (·.size) = some GA.toList.length)
  have hi23 : Hid ((Try.prog.info? 23).map (·.size) = some MA.toList.length) := (by rw [info23]; simp [hMA] : (Try.prog.info? 23).map (·.size) = some MA.toList.length)
  go_enter Try.func7, Try.ntmps7
  go_upto_region 1 with fail
  refine wp_region_lit ?_
  refine wpList_load_mid rfl 24 (.tmp 2) rfl w.heap.size 0 rfl GA.toList _ h1.out Try.underlying24 rfl hi24.out ?_
  refine wpList_load_mid rfl 23 (.tmp 3) rfl (w.heap.size + 1) 0 rfl MA.toList _ h2.out Try.underlying23 rfl hi23.out ?_
  clear h1 h2 hi24 hi23
  simp only [Array.toArray_toList]
  refine wpList_build rfl 38 _ rfl #[(0, .agg GA), (1, .agg MA)] (by simp [Act.eval, Act.put]) _ (hb _) ?_
  clear hb
  go_wp2
  go_ret
  exact ⟨rfl, rfl⟩

/-- The cells of a gram matrix; of a moment; of a fit. -/
def gramA (G : Nat → Nat) : Array Value := #[.float .f64 (G 0), .float .f64 (G 1), .float .f64 (G 2), .float .f64 (G 3), .float .f64 (G 4), .float .f64 (G 5), .float .f64 (G 6), .float .f64 (G 7), .float .f64 (G 8), .float .f64 (G 9), .float .f64 (G 10), .float .f64 (G 11), .float .f64 (G 12), .float .f64 (G 13), .float .f64 (G 14), .float .f64 (G 15), .float .f64 (G 16), .float .f64 (G 17), .float .f64 (G 18), .float .f64 (G 19), .float .f64 (G 20), .float .f64 (G 21), .float .f64 (G 22), .float .f64 (G 23), .float .f64 (G 24)]
def momA (M : Nat → Nat) : Array Value := #[.float .f64 (M 0), .float .f64 (M 1), .float .f64 (M 2), .float .f64 (M 3), .float .f64 (M 4)]
def fitA (G M : Nat → Nat) : Array Value := #[.float .f64 (G 0), .float .f64 (G 1), .float .f64 (G 2), .float .f64 (G 3), .float .f64 (G 4), .float .f64 (G 5), .float .f64 (G 6), .float .f64 (G 7), .float .f64 (G 8), .float .f64 (G 9), .float .f64 (G 10), .float .f64 (G 11), .float .f64 (G 12), .float .f64 (G 13), .float .f64 (G 14), .float .f64 (G 15), .float .f64 (G 16), .float .f64 (G 17), .float .f64 (G 18), .float .f64 (G 19), .float .f64 (G 20), .float .f64 (G 21), .float .f64 (G 22), .float .f64 (G 23), .float .f64 (G 24), .float .f64 (M 0), .float .f64 (M 1), .float .f64 (M 2), .float .f64 (M 3), .float .f64 (M 4)]

theorem gramA_at (G : Nat → Nat) (k : Nat) (h : k < 25) : (gramA G)[k]? = some (.float .f64 (G k)) := by
  match k, h with
  | 0, _ => rfl
  | 1, _ => rfl
  | 2, _ => rfl
  | 3, _ => rfl
  | 4, _ => rfl
  | 5, _ => rfl
  | 6, _ => rfl
  | 7, _ => rfl
  | 8, _ => rfl
  | 9, _ => rfl
  | 10, _ => rfl
  | 11, _ => rfl
  | 12, _ => rfl
  | 13, _ => rfl
  | 14, _ => rfl
  | 15, _ => rfl
  | 16, _ => rfl
  | 17, _ => rfl
  | 18, _ => rfl
  | 19, _ => rfl
  | 20, _ => rfl
  | 21, _ => rfl
  | 22, _ => rfl
  | 23, _ => rfl
  | 24, _ => rfl
  | j + 25, h => exact absurd h (by omega)
theorem momA_at (M : Nat → Nat) (k : Nat) (h : k < 5) : (momA M)[k]? = some (.float .f64 (M k)) := by
  match k, h with
  | 0, _ => rfl
  | 1, _ => rfl
  | 2, _ => rfl
  | 3, _ => rfl
  | 4, _ => rfl
  | j + 5, h => exact absurd h (by omega)
theorem fitA_at (G M : Nat → Nat) (k : Nat) (h : k < 30) : (fitA G M)[k]? = some (.float .f64 (if k < 25 then G k else M (k - 25))) := by
  match k, h with
  | 0, _ => rfl
  | 1, _ => rfl
  | 2, _ => rfl
  | 3, _ => rfl
  | 4, _ => rfl
  | 5, _ => rfl
  | 6, _ => rfl
  | 7, _ => rfl
  | 8, _ => rfl
  | 9, _ => rfl
  | 10, _ => rfl
  | 11, _ => rfl
  | 12, _ => rfl
  | 13, _ => rfl
  | 14, _ => rfl
  | 15, _ => rfl
  | 16, _ => rfl
  | 17, _ => rfl
  | 18, _ => rfl
  | 19, _ => rfl
  | 20, _ => rfl
  | 21, _ => rfl
  | 22, _ => rfl
  | 23, _ => rfl
  | 24, _ => rfl
  | 25, _ => rfl
  | 26, _ => rfl
  | 27, _ => rfl
  | 28, _ => rfl
  | 29, _ => rfl
  | j + 30, h => exact absurd h (by omega)

theorem built (G M : Nat → Nat) (w : World) : (Instr.build 38 #[(0, .agg (gramA G)), (1, .agg (momA M))]).run Try.prog w = .ok (.agg (fitA G M)) w := run_build w 38 _ _ (by kernel_rfl)

theorem at_new (w : World) (A : Array Value) (t : TypeId) (n : Nat) (G : Nat → Nat) (h : ∀ k, k < n → A[k]? = some (.float .f64 (G k))) : At (w.alloc (.cells A t)) w.heap.size n G := fun k hk =>
  ⟨by rw [World.cell?_alloc_new]; exact h k hk, World.frozen?_alloc_new _ _ _ _⟩

/-- ZZNewFit. -/
theorem newFit_any (G M : Nat → Nat) (w : World) : Calls Try.prog 7 #[.agg (gramA G), .agg (momA M)] w fun e w' => e = .returned (.pointer (some ⟨w.heap.size + 2, 0, none⟩)) ∧ At w' (w.heap.size + 2) 30 (fun k => if k < 25 then G k else M (k - 25)) ∧ Below w.heap.size w w' ∧ w.heap.size + 3 = w'.heap.size := by
  refine (newFit_abs (gramA G) (momA M) (fitA G M) rfl rfl (built G M) w).mono ?_
  rintro e w' ⟨rfl, rfl⟩
  refine ⟨rfl, ?_, ?_, by simp⟩
  · have := at_new ((w.alloc (.cells (gramA G) 24)).alloc (.cells (momA M) 23)) (fitA G M) 38 30 _ (fitA_at G M)
    simpa using this
  · exact (((Below.refl _ w).alloc (Nat.le_refl _) _).alloc (by simp) _).alloc (by simp; omega) _

theorem rangeAt_of {w : World} {g n : Nat} {G : Nat → Nat} {A : Array Value} (h : At w g n G) (hs : A.size ≤ n) (hA : ∀ k, k < A.size → A[k]? = some (.float .f64 (G k))) : w.rangeAt g 0 A.toList := fun j v hj => by
  have hj' : j < A.size := by have := (List.getElem?_eq_some_iff.1 hj).1; simpa using this
  have e := hA j hj'
  rw [Array.getElem?_toList] at hj
  rw [e] at hj
  rw [Nat.zero_add, ← hj]
  exact (h j (by omega)).1

set_option maxHeartbeats 800000 in
/-- ZZFitAdd. -/
theorem fitAdd_any (B g : Nat) (G X : Nat → Nat) (y keep : Nat) (w : World) (hB : B ≤ g) (hg : g < w.heap.size) (hG : At w g 30 G) :
    Calls Try.prog 8 #[.pointer (some ⟨g, 0, none⟩), .agg (momA X), .float .f64 y, .float .f64 keep] w fun e w' => e = .returned (.tuple #[]) ∧ ∃ G', At w' g 30 G' ∧ Upd X y keep 25 30 G G' ∧ Below B w w' := by
  unfold momA
  go_enter Try.func8, Try.ntmps8
  go_wp2_with fail
  refine (add_any B g G X y keep _ hB (Nat.lt_of_lt_of_le hg (by simp)) (at_later hG ((Below.refl _ w).alloc hg _))).mono ?_
  rintro e w' ⟨rfl, G', h1, h2, h3⟩
  have hb : Below B w w' := ((Below.refl B w).alloc (by omega) _).trans h3
  clear h3
  go_wp2
  go_end0
  exact ⟨rfl, G', h1, h2, hb⟩

theorem gramA_one (G : Nat → Nat) : (gramA G).all (·.oneCell') = true := by kernel_rfl
theorem gramA_size (G : Nat → Nat) : (gramA G).size = 25 := rfl

theorem zero24 : (Try.prog.info? 24).map (·.zero) = some (some (.agg (gramA fun _ => 0))) := by kernel_rfl

theorem results_cell_mid {P : Program} {fn : Func} {p : Tmp} {ty : TypeId} (h : fn.results = #[.cell p ty]) (tmps : Array Value) (w : World) (b : Nat) (cs : List Value) (d : TypeDesc)
    (hp : tmps.getD p undef = .pointer (some ⟨b, 0, none⟩)) (hc : w.rangeAt b 0 cs) (hu : P.underlying ty = some d) (hd : d.isRow = true) (hi : (P.info? ty).map (·.size) = some cs.length) :
    (results fn tmps).run P w = .ok (.agg cs.toArray) w := by
  have hp' : tmps[p]?.getD undef = .pointer (some ⟨b, 0, none⟩) := by simpa using hp
  simp [results, h, hp', asAddr, run_loadVar_mid w b 0 ty cs d hc hu hd hi]

theorem below_setCells {B b : Nat} (hB : B ≤ b) : ∀ (vs : List Value) (o : Nat) (a w : World), Below B a w → Below B a (w.setCells b o vs)
  | [], _, _, _, h => h
  | v :: vs, o, a, _, h => below_setCells hB vs (o + 1) a _ (h.setCell (p := ⟨b, o, none⟩) hB v)

theorem range_setCells {w : World} {b : Nat} {vs : List Value} (h : w.there b 0 vs.length) : (w.setCells b 0 vs).rangeAt b 0 vs := fun j v hj => by
  have hj' := (List.getElem?_eq_some_iff.1 hj).1
  have := World.cell?_setCells_in b vs 0 w (fun k hk => (h k hk).1) j hj'
  rw [this, ← hj, List.getElem?_eq_getElem hj']

set_option maxHeartbeats 800000 in
/-- ZZFitGram. -/
theorem fitGram_any (g : Nat) (G : Nat → Nat) (w : World) (hg : g < w.heap.size) (hG : At w g 30 G) :
    Calls Try.prog 9 #[.pointer (some ⟨g, 0, none⟩)] w fun e w' => e = .returned (.agg (gramA G)) ∧ Below w.heap.size w w' := by
  go_enter Try.func9, Try.ntmps9
  go_upto_region 1 with fail
  rw [show (#[Value.float FloatKind.f64 0, Value.float FloatKind.f64 0, Value.float FloatKind.f64 0, Value.float FloatKind.f64 0, Value.float FloatKind.f64 0, Value.float FloatKind.f64 0, Value.float FloatKind.f64 0, Value.float FloatKind.f64 0, Value.float FloatKind.f64 0, Value.float FloatKind.f64 0, Value.float FloatKind.f64 0, Value.float FloatKind.f64 0, Value.float FloatKind.f64 0, Value.float FloatKind.f64 0, Value.float FloatKind.f64 0, Value.float FloatKind.f64 0, Value.float FloatKind.f64 0, Value.float FloatKind.f64 0, Value.float FloatKind.f64 0, Value.float FloatKind.f64 0, Value.float FloatKind.f64 0, Value.float FloatKind.f64 0, Value.float FloatKind.f64 0, Value.float FloatKind.f64 0, Value.float FloatKind.f64 0] : Array Value) = gramA fun _ => 0 from rfl]
  have h24 : (w.alloc (.cells (gramA fun _ => 0) 24)).rangeAt g 0 (gramA G).toList := rangeAt_of (at_later hG ((Below.refl _ w).alloc hg _)) (by rw [gramA_size]; omega) (gramA_at G)
  have ht : (w.alloc (.cells (gramA fun _ => 0) 24)).there w.heap.size 0 (gramA G).size := by
    intro j hj
    rw [Nat.zero_add]
    have := at_new w (gramA fun _ => 0) 24 25 (fun _ => 0) (gramA_at _) j hj
    exact ⟨by rw [this.1]; rfl, this.2⟩
  generalize hW : w.alloc (.cells (gramA fun _ => 0) 24) = W at *
  refine wp_region_lit ?_
  iterate 9 go_step
  refine wpList_load_mid rfl 24 (.tmp 5) rfl g 0 rfl (gramA G).toList _ h24 Try.underlying24 rfl info24 ?_
  simp only [Array.toArray_toList]
  refine wpList_store_mid rfl 24 (.tmp 2) (.tmp 6) rfl w.heap.size 0 (gramA G) rfl (by simp [Act.eval, Act.put]) ht info24 (gramA_one G) ?_
  have hr := range_setCells (vs := (gramA G).toList) (by simpa using ht)
  have hb : Below w.heap.size w (W.setCells w.heap.size 0 (gramA G).toList) := below_setCells (Nat.le_refl _) _ _ _ _ (by rw [← hW]; exact (Below.refl _ w).alloc (Nat.le_refl _) _)
  go_wp2
  refine bodyPost_ret (results_cell_mid rfl _ _ w.heap.size (gramA G).toList _ rfl hr Try.underlying24 rfl info24) rfl ?_
  exact ⟨rfl, hb⟩

theorem momA_one (G : Nat → Nat) : (momA G).all (·.oneCell') = true := by kernel_rfl
end Go.Proofs.Qxb6603773a.Add
