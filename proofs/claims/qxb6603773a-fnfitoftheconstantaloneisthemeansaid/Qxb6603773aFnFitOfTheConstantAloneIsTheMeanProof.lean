/-
  'FnFitOfTheConstantAloneIsTheMean' returns true for every input and changes nothing that was there.
-/
import Derived.Test.Qxb6603773aMeanNil
import Derived.Deep.Slices
import Derived.ProofKit
import Derived.OpenShut
import Derived.ShutString
import Derived.ChangeOld
namespace Go.Proofs.Qxb6603773a.MeanLaw
open Go.ChangeShapes Go.WideShapes Go.ChangeAt Go.RowKit Go.Deep
open Go.Proofs.Qxb6603773a.Add Go.Proofs.Qxb6603773a.MeanCalls
set_option linter.unusedVariables false

theorem own : ownKnob Try.prog.godebug = none := by kernel_rfl
theorem laidOut : laidOutB Try.prog = true := by kernel_rfl

theorem trod_float {H : Type} {enc : TypeId × Value → H} {w : World} {base : Nat} {spare : Nat → Bool} {held : Bool} {n : Nat} {v : Value} {x : DataW H × List MemPlace} (h : DataW.trod enc Try.prog w base spare held n 22 [v] = some x) : ∃ b, v = .float .f64 b ∧ b < 2 ^ 64 := by
  cases n with
  | zero => simp [DataW.trod] at h
  | succ m =>
    simp only [DataW.trod, Try.underlying22] at h
    cases v <;> simp at h
    rename_i k b
    obtain ⟨⟨rfl, hw⟩, _⟩ := h
    exact ⟨b, rfl, by simpa [Lit.wf] using hw⟩

theorem cell_block {w : World} {p : Addr} {v : Value} (h : w.cell? p = some v) : p.block < w.heap.size := by
  unfold World.cell? at h
  split at h
  · rename_i hb
    exact (Array.getElem?_eq_some_iff.1 hb).1
  · cases h

theorem open_ys {H : Type} {enc : TypeId × Value → H} {w : World} {base : Nat} {held : Bool} {fuel : Nat} {cs : List Value} {x : DataW H × List MemPlace} (h : DataW.trod enc Try.prog w base (fun _ => true) held fuel 33 cs = some x) :
    cs = [.slice none 0 0] ∨ ∃ (b off : Nat) (sp : Option Nat) (n cap : Nat) (Y : Nat → Nat), cs = [.slice (some ⟨b, off, sp⟩) n cap] ∧ n ≤ maxLen ∧ (0 < n → b < w.heap.size) ∧ (∀ k, k < n → w.cell? ⟨b, off + k, none⟩ = some (.float .f64 (Y k))) ∧ (∀ k, k < n → Y k < 2 ^ 64) ∧ (0 < n → sp = none) := by
  rcases open_slice1 Try.underlying33 (by kernel_rfl) h with h0 | ⟨a, len, cap, m, n, V, D, Pl, rfl, hb, hl, hm, hmm, _, hx⟩
  · exact Or.inl h0.1
  · right
    simp only [if_true] at hmm
    have hex : ∀ k, ∃ y, k < len → w.cell? (a.add k) = some (.float .f64 y) ∧ y < 2 ^ 64 := by
      intro k
      by_cases hk : k < len
      · obtain ⟨h1, h2⟩ := hx k (by omega)
        obtain ⟨y, e, hy⟩ := trod_float h2
        exact ⟨y, fun _ => ⟨by rw [h1, e], hy⟩⟩
      · exact ⟨0, fun h => absurd h hk⟩
    obtain ⟨b, off, sp⟩ := a
    have hsp : 0 < len → sp = none := fun hp => by
      have := ((hex 0).choose_spec hp).1
      simpa [Addr.add] using World.cell?_spot this
    refine ⟨b, off, sp, len, cap, fun k => (hex k).choose, rfl, by omega, fun hp => ?_, fun k hk => ?_, fun k hk => ((hex k).choose_spec hk).2, hsp⟩
    · have := cell_block ((hex 0).choose_spec hp).1
      simpa [Addr.add] using this
    · have := ((hex k).choose_spec hk).1
      obtain rfl := hsp (by omega)
      rw [← this, Addr.add_mid]

set_option maxHeartbeats 400000 in
theorem walk_long (w : World) (p : Option Addr) (n c : Nat) (hn : n ≤ maxLen) (h : ¬ n ≤ 1048576) :
    Calls Try.prog 5 #[.slice p n c] w fun e w' => e = .returned (.bool true) ∧ Below w.heap.size w w' := by
  go_enter Try.func5, Try.ntmps5
  go_wp2_with fail
  refine (zz11_no _ _ _ _ hn h).mono ?_
  rintro e w ⟨rfl, rfl⟩
  go_wp2
  go_ret
  exact ⟨rfl, Below.refl _ _⟩

set_option maxHeartbeats 400000 in
theorem walk_half (w : World) (p : Option Addr) (n c : Nat) (h : n ≤ 1048576) (h2 : 65536 < n) :
    Calls Try.prog 5 #[.slice p n c] w fun e w' => e = .returned (.bool true) ∧ Below w.heap.size w w' := by
  go_enter Try.func5, Try.ntmps5
  go_wp2_with fail
  refine (zz11_yes _ _ _ _ h).mono ?_
  rintro e w ⟨rfl, rfl⟩
  go_wp2
  go_ret
  exact ⟨rfl, Below.refl _ _⟩

/-! ### THE ROW's STEP -/
set_option maxRecDepth 100000 in
theorem lifted (os : Os) (started : os.Started) (H : Type) (enc : TypeId × Value → H) :
    ReturnsInHanded {} Try.checked os 5 .any (Rows.fnFitOfTheConstantAloneIsTheMeanSpec.pre6 enc Try.prog Try.f5 Rows.fnFitOfTheConstantAloneIsTheMeanRow.domain false) (Rows.fnFitOfTheConstantAloneIsTheMeanSpec.post enc Try.prog Try.f5 false true false false) := by
  refine returnsInHanded_of_change (C := Try.checked) own started (by kernel_rfl) Try.func5
    (ChangeSpec.witness6 (enc := enc) (C := Try.checked) false ⟨#[], #[.slice none 0 0], []⟩ 8 (by kernel_rfl) (by kernel_rfl) (by kernel_rfl) (by kernel_rfl)) ?_
  intro W base args ds gs before hval0 hW hcnd _
  have hval : ∀ (j : Nat) t v, Try.f5.params[j]? = some t → args[j]? = some v → Value.okWide Try.prog W .any base t v := hval0
  have hW' := hW
  obtain ⟨p, q, hA0, hV, rfl, hfz, hnd⟩ := hW
  have hA : DataW.TrodAll enc Try.prog W 0 (fun _ => true) true Try.f5.params.toList args.toList ds p := hA0
  rw [Try.params5] at hA hval
  obtain ⟨v0, vs0, d0, ds0, p0, q0, hargs, rfl, rfl, h0, r0⟩ := trodAll_cons hA
  obtain ⟨rfl, rfl, rfl⟩ := trodAll_nil r0
  obtain rfl : args = #[v0] := by cases args; simp_all
  obtain ⟨rfl, rfl⟩ := trodVars_none hV
  obtain ⟨a0, len0, cap0, rfl⟩ := okWide_slice Try.underlying33 (hval 0 33 v0 rfl rfl)
  have k0 := h0
  have lt0 : ∀ x ∈ p0, x.block < W.heap.size := by obtain ⟨m, hm⟩ := k0; exact DataW.trod_lt m _ _ _ hm
  have hwalk : Calls Try.prog 5 #[.slice a0 len0 cap0] W fun e w' => e = .returned (.bool true) ∧ Below W.heap.size W w' := by
    obtain ⟨fuel, hf⟩ := h0
    rcases open_ys hf with hcs | ⟨b, off, sp, n, cap, Y, hcs, hm, hb, hY, hYl, hsp⟩
    · simp [Value.cells] at hcs
      obtain ⟨rfl, rfl, rfl⟩ := hcs
      exact walk_nil W
    · simp [Value.cells] at hcs
      obtain ⟨rfl, rfl, rfl⟩ := hcs
      by_cases h1 : len0 ≤ 1048576
      · by_cases h2 : len0 ≤ 65536
        · exact walk_some b off sp len0 cap0 Y W hb hY hYl h2 hsp
        · exact walk_half W _ len0 cap0 h1 (by omega)
      · exact walk_long W _ len0 cap0 hm h1
  clear hA0 hval0
  refine hwalk.mono fun e W' ⟨he, bel⟩ => ?_
  subst he
  exact ⟨_, rfl, _, _, _, [], _, [], hW', trodAll_mk1 (shut_bool Try.underlying4 _), (trodAll_cons_mk (Below.trod laidOut (by kernel_rfl) (of_decide_eq_true (by kernel_rfl)) k0 bel lt0) trodAll_mk0), rfl, bel.frame _, fun h => by cases h⟩

theorem over : Rows.fnFitOfTheConstantAloneIsTheMeanRow.holds Try.pinned (OpenSpec.ofChange Rows.fnFitOfTheConstantAloneIsTheMeanSpec) :=
  OpenClaim.holds_of_wide 5 Try.f5 rfl rfl rfl rfl rfl rfl rfl ⟨rfl, rfl, rfl, rfl, rfl⟩ rfl rfl rfl rfl rfl (by kernel_rfl) Try.func5 (by kernel_rfl)
    (of_decide_eq_true (by kernel_rfl)) (by unfold Func.isWrapper; first | (rw [if_pos (by decide +kernel)]; kernel_rfl) | (rw [if_neg (by decide +kernel)]; exact ⟨rfl, rfl⟩))
    (fun os started H enc _ => lifted os started H enc)

/-- ████ THE STATEMENT ████ -/
theorem proved : Rows.FnFitOfTheConstantAloneIsTheMeanSaid := over
end Go.Proofs.Qxb6603773a.MeanLaw
