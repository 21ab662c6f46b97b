/-
  'FnAddKeepsTheDiagonalNonNegativeAndAboveEachPart' returns true for every input and changes nothing that was there.
-/
import Derived.Test.Qxb6603773aAddLaw
import Derived.ProofKit
import Derived.OpenShut
import Derived.ShutString
import Derived.ChangeOld
namespace Go.Proofs.Qxb6603773a.AddLaw
open Go.ChangeShapes Go.WideShapes Go.ChangeAt Go.RowKit
open Go.Proofs.Qxb6603773a.Add
set_option linter.unusedVariables false

theorem own : ownKnob Try.prog.godebug = none := by kernel_rfl
theorem laidOut : laidOutB Try.prog = true := by kernel_rfl
theorem cells24 : Try.prog.cellsOf 24 = 25 := by kernel_rfl
theorem cells23 : Try.prog.cellsOf 23 = 5 := by kernel_rfl
theorem types24 : Try.prog.cellTypes Try.prog.depth 24 = some (List.replicate 25 22) := by kernel_rfl
theorem types23 : Try.prog.cellTypes Try.prog.depth 23 = some (List.replicate 5 22) := by kernel_rfl

theorem cell_float {w : World} {r : Reach} {b0 : Nat} {v : Value} (h : Cell.okWide Try.prog w r b0 22 v) : ∃ b, v = .float .f64 b := by
  simp only [Try.underlying22, Cell.okWide] at h
  cases v <;> simp_all [Cell.ok, Try.underlying22]

/-- An array of floats that came in, of whatever depth. -/
theorem open_floats {w : World} {r : Reach} {b0 : Nat} {t e : TypeId} {n N : Nat} {v : Value} (ht : Try.prog.underlying t = some (.array n e)) (hc : Try.prog.cellsOf t = N) (hts : Try.prog.cellTypes Try.prog.depth t = some (List.replicate N 22)) (h : Value.okWide Try.prog w r b0 t v) :
    ∃ (cs : Array Value) (G : Nat → Nat), v = .agg cs ∧ cs.size = N ∧ ∀ k, k < N → cs[k]? = some (.float .f64 (G k)) := by
  simp only [Value.okWide, ht] at h
  obtain ⟨cs, rfl, hs, ts, hts', _, hv⟩ := h
  rw [hts] at hts'
  injection hts' with hts'
  subst hts'
  rw [hc] at hs
  have hex : ∀ k, ∃ b, k < N → cs[k]? = some (.float .f64 b) := by
    intro k
    by_cases hk : k < N
    · obtain ⟨u, hu, hok⟩ := hv k cs[k] (Array.getElem?_eq_getElem (by omega))
      rw [List.length_replicate, Nat.mod_eq_of_lt hk] at hu
      have hu' : u = 22 := by
        have := List.getElem?_replicate (a := 22) (n := N) (i := k)
        rw [if_pos hk] at this
        rw [this] at hu
        exact (Option.some.inj hu).symm
      subst hu'
      obtain ⟨b, hb⟩ := cell_float hok
      exact ⟨b, fun _ => by rw [Array.getElem?_eq_getElem (by omega), hb]⟩
    · exact ⟨0, fun h => absurd h hk⟩
  exact ⟨cs, fun k => (hex k).choose, rfl, hs, fun k hk => (hex k).choose_spec hk⟩

theorem arr_ext {A B : Array Value} {N : Nat} {G : Nat → Nat} (hA : A.size = N) (hB : B.size = N) (h1 : ∀ k, k < N → A[k]? = some (.float .f64 (G k))) (h2 : ∀ k, k < N → B[k]? = some (.float .f64 (G k))) : A = B := by
  refine Array.ext (hA.trans hB.symm) fun i hi hi' => ?_
  have a := h1 i (by omega)
  have b := h2 i (by omega)
  rw [Array.getElem?_eq_getElem hi] at a
  rw [Array.getElem?_eq_getElem hi'] at b
  exact (Option.some.inj a).trans (Option.some.inj b).symm

theorem open_gram {w : World} {r : Reach} {b0 : Nat} {v : Value} (h : Value.okWide Try.prog w r b0 24 v) : ∃ G, v = .agg (gramA G) := by
  obtain ⟨cs, G, rfl, hs, hk⟩ := open_floats Try.underlying24 cells24 types24 h
  exact ⟨G, by rw [arr_ext hs (gramA_size G) hk (gramA_at G)]⟩
theorem open_mom {w : World} {r : Reach} {b0 : Nat} {v : Value} (h : Value.okWide Try.prog w r b0 23 v) : ∃ G, v = .agg (momA G) := by
  obtain ⟨cs, G, rfl, hs, hk⟩ := open_floats Try.underlying23 cells23 types23 h
  exact ⟨G, by rw [arr_ext hs rfl hk (momA_at G)]⟩

/-! ### THE ROW's STEP -/
set_option maxRecDepth 100000 in
theorem lifted (os : Os) (started : os.Started) (H : Type) (enc : TypeId × Value → H) :
    ReturnsInHanded {} Try.checked os 3 .any (Rows.fnAddKeepsTheDiagonalNonNegativeAndAboveEachPartSpec.pre6 enc Try.prog Try.f3 Rows.fnAddKeepsTheDiagonalNonNegativeAndAboveEachPartRow.domain false) (Rows.fnAddKeepsTheDiagonalNonNegativeAndAboveEachPartSpec.post enc Try.prog Try.f3 false true false false) := by
  refine returnsInHanded_of_change (C := Try.checked) own started (by kernel_rfl) Try.func3
    (ChangeSpec.witness6 (enc := enc) (C := Try.checked) false ⟨#[], #[.agg (gramA fun _ => 0), .agg (momA fun _ => 0), .agg (momA fun _ => 0), .float .f64 0, .float .f64 0], []⟩ 8 (by kernel_rfl) (by kernel_rfl) (by kernel_rfl) (by kernel_rfl)) ?_
  intro W base args ds gs before hval0 hW hcnd _
  have hval : ∀ (j : Nat) t v, Try.f3.params[j]? = some t → args[j]? = some v → Value.okWide Try.prog W .any base t v := hval0
  have hW' := hW
  obtain ⟨p, q, hA0, hV, rfl, hfz, hnd⟩ := hW
  have hA : DataW.TrodAll enc Try.prog W 0 (fun _ => true) true Try.f3.params.toList args.toList ds p := hA0
  rw [Try.params3] at hA hval
  obtain ⟨v0, vs0, d0, ds0, p0, q0, hargs, rfl, rfl, h0, r0⟩ := trodAll_cons hA
  obtain ⟨v1, vs1, d1, ds1, p1, q1, rfl, rfl, rfl, h1, r1⟩ := trodAll_cons r0
  obtain ⟨v2, vs2, d2, ds2, p2, q2, rfl, rfl, rfl, h2, r2⟩ := trodAll_cons r1
  obtain ⟨v3, vs3, d3, ds3, p3, q3, rfl, rfl, rfl, h3, r3⟩ := trodAll_cons r2
  obtain ⟨v4, vs4, d4, ds4, p4, q4, rfl, rfl, rfl, h4, r4⟩ := trodAll_cons r3
  obtain ⟨rfl, rfl, rfl⟩ := trodAll_nil r4
  obtain rfl : args = #[v0, v1, v2, v3, v4] := by cases args; simp_all
  obtain ⟨rfl, rfl⟩ := trodVars_none hV
  obtain ⟨G, rfl⟩ := open_gram (hval 0 24 v0 rfl rfl)
  obtain ⟨M, rfl⟩ := open_mom (hval 1 23 v1 rfl rfl)
  obtain ⟨X, rfl⟩ := open_mom (hval 2 23 v2 rfl rfl)
  obtain ⟨y, rfl⟩ := okWide_float Try.underlying22 (hval 3 22 v3 rfl rfl)
  obtain ⟨keep, rfl⟩ := okWide_float Try.underlying22 (hval 4 22 v4 rfl rfl)
  have lt0 : ∀ x ∈ p0, x.block < W.heap.size := by obtain ⟨m, hm⟩ := h0; exact DataW.trod_lt m _ _ _ hm
  have lt1 : ∀ x ∈ p1, x.block < W.heap.size := by obtain ⟨m, hm⟩ := h1; exact DataW.trod_lt m _ _ _ hm
  have lt2 : ∀ x ∈ p2, x.block < W.heap.size := by obtain ⟨m, hm⟩ := h2; exact DataW.trod_lt m _ _ _ hm
  have lt3 : ∀ x ∈ p3, x.block < W.heap.size := by obtain ⟨m, hm⟩ := h3; exact DataW.trod_lt m _ _ _ hm
  have lt4 : ∀ x ∈ p4, x.block < W.heap.size := by obtain ⟨m, hm⟩ := h4; exact DataW.trod_lt m _ _ _ hm
  clear hA0 hval0
  refine (walk G M X y keep W).mono fun e W' ⟨he, bel⟩ => ?_
  subst he
  exact ⟨_, rfl, _, _, _, [], _, [], hW', trodAll_mk1 (shut_bool Try.underlying4 _), (trodAll_cons_mk (Below.trod laidOut (by kernel_rfl) (of_decide_eq_true (by kernel_rfl)) h0 bel lt0) (trodAll_cons_mk (Below.trod laidOut (by kernel_rfl) (of_decide_eq_true (by kernel_rfl)) h1 bel lt1) (trodAll_cons_mk (Below.trod laidOut (by kernel_rfl) (of_decide_eq_true (by kernel_rfl)) h2 bel lt2) (trodAll_cons_mk (Below.trod laidOut (by kernel_rfl) (of_decide_eq_true (by kernel_rfl)) h3 bel lt3) (trodAll_cons_mk (Below.trod laidOut (by kernel_rfl) (of_decide_eq_true (by kernel_rfl)) h4 bel lt4) trodAll_mk0))))), rfl, bel.frame _, fun h => by cases h⟩

theorem over : Rows.fnAddKeepsTheDiagonalNonNegativeAndAboveEachPartRow.holds Try.pinned (OpenSpec.ofChange Rows.fnAddKeepsTheDiagonalNonNegativeAndAboveEachPartSpec) :=
  OpenClaim.holds_of_wide 3 Try.f3 rfl rfl rfl rfl rfl rfl rfl ⟨rfl, rfl, rfl, rfl, rfl⟩ rfl rfl rfl rfl rfl (by kernel_rfl) Try.func3 (by kernel_rfl)
    (of_decide_eq_true (by kernel_rfl)) (by unfold Func.isWrapper; first | (rw [if_pos (by decide +kernel)]; kernel_rfl) | (rw [if_neg (by decide +kernel)]; exact ⟨rfl, rfl⟩))
    (fun os started H enc _ => lifted os started H enc)

/-- ████ THE STATEMENT ████ -/
theorem proved : Rows.FnAddKeepsTheDiagonalNonNegativeAndAboveEachPartSaid := over
end Go.Proofs.Qxb6603773a.AddLaw
