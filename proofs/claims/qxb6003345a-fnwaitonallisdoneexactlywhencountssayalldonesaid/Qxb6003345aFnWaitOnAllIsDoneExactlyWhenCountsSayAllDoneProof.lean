/-
  'FnWaitOnAllIsDoneExactlyWhenCountsSayAllDone' returns true for every input and changes nothing that was there.
-/
import Derived.Test.Qxb6003345aWaitWalk
import Derived.Test.Qxb6003345aStrsOpen
namespace Go.Proofs.Qxb6003345a.WaitLaw
open Go.ChangeShapes Go.WideShapes Go.ChangeAt Go.RowKit
open Go.Proofs.Qxb6003345a.StrsOpen
set_option linter.unusedVariables false

theorem walk (w : World) (p : Option Addr) (n cap : Nat) (ss : List ByteArray) (tw : Bool) (h : Strs w p n cap ss) :
    Calls Try.prog 8 #[.slice p n cap, .bool tw] w fun e w' => e = .returned (.bool true) ∧ Below w.heap.size w w' := by
  obtain ⟨hl, hm, hc, hsr, hwf⟩ := h
  rcases Nat.lt_or_ge 4096 n with h1 | h1
  · exact walk_long w p n cap tw h1 hm hsr
  · rcases Nat.eq_zero_or_pos n with h0 | h0
    · subst h0
      have : ss = [] := List.eq_nil_of_length_eq_zero hl
      subst this
      exact walk_zero w p cap tw hc
    · obtain ⟨_, _, ⟨_, h2, _⟩ | ⟨x, rfl, hx⟩⟩ := hc
      · omega
      · cases tw with
        | false => exact walk_once w x n cap ss hl h0 h1 hsr hx hwf
        | true => exact walk_twice w x n cap ss hl h0 h1 hsr hx hwf

set_option maxRecDepth 100000 in
theorem lifted (os : Os) (started : os.Started) (H : Type) (enc : TypeId × Value → H) :
    ReturnsInHanded {} Try.checked os 8 .any (Rows.fnWaitOnAllIsDoneExactlyWhenCountsSayAllDoneSpec.pre6 enc Try.prog Try.f8 Rows.fnWaitOnAllIsDoneExactlyWhenCountsSayAllDoneRow.domain false) (Rows.fnWaitOnAllIsDoneExactlyWhenCountsSayAllDoneSpec.post enc Try.prog Try.f8 false true false false) := by
  refine returnsInHanded_of_change (C := Try.checked) own started (by kernel_rfl) Try.func8
    (ChangeSpec.witness6 (enc := enc) (C := Try.checked) false ⟨#[], #[.slice none 0 0, .bool false], []⟩ 8 (by kernel_rfl) (by kernel_rfl) (by kernel_rfl) (by kernel_rfl)) ?_
  intro W base args ds gs before hval0 hW hcnd _
  have hval : ∀ (j : Nat) t v, Try.f8.params[j]? = some t → args[j]? = some v → Value.okWide Try.prog W .any base t v := hval0
  have hW' := hW
  obtain ⟨p, q, hA0, hV, rfl, hfz, hnd⟩ := hW
  have hA : DataW.TrodAll enc Try.prog W 0 (fun _ => true) true Try.f8.params.toList args.toList ds p := hA0
  rw [Try.params8] at hA hval
  obtain ⟨v0, vs0, d0, ds0, p0, q0, hargs, rfl, rfl, h0, r0⟩ := trodAll_cons hA
  obtain ⟨v1, vs1, d1, ds1, p1, q1, rfl, rfl, rfl, h1, r1⟩ := trodAll_cons r0
  obtain ⟨rfl, rfl, rfl⟩ := trodAll_nil r1
  obtain rfl : args = #[v0, v1] := by cases args; simp_all
  obtain ⟨rfl, rfl⟩ := trodVars_none hV
  obtain ⟨a0, len0, cap0, rfl⟩ := okWide_slice Try.underlying41 (hval 0 41 v0 rfl rfl)
  have k0 := h0
  have lt0 : ∀ x ∈ p0, x.block < W.heap.size := by obtain ⟨m, hm⟩ := k0; exact DataW.trod_lt m _ _ _ hm
  obtain ⟨ss, w0⟩ : ∃ ss, Strs W a0 len0 cap0 ss := by
    obtain ⟨fuel, hf⟩ := h0
    exact opened (fun _ => rfl) (by simpa [Value.cells] using hf)
  obtain ⟨tw, rfl, rfl, rfl⟩ := open_bool Try.underlying4 (hval 1 4 v1 rfl rfl) h1
  clear hA0 hval0
  refine (walk W a0 len0 cap0 ss tw w0).mono fun e W' ⟨he, bel⟩ => ?_
  subst he
  exact ⟨_, rfl, _, _, _, [], _, [], hW', trodAll_mk1 (shut_bool Try.underlying4 _), (trodAll_cons_mk (Below.trod laidOut (by kernel_rfl) (of_decide_eq_true (by kernel_rfl)) k0 bel lt0) (trodAll_cons_mk (shut_bool Try.underlying4 tw) trodAll_mk0)), rfl, bel.frame _, fun h => by cases h⟩

theorem over : Rows.fnWaitOnAllIsDoneExactlyWhenCountsSayAllDoneRow.holds Try.pinned (OpenSpec.ofChange Rows.fnWaitOnAllIsDoneExactlyWhenCountsSayAllDoneSpec) :=
  OpenClaim.holds_of_wide 8 Try.f8 rfl rfl rfl rfl rfl rfl rfl ⟨rfl, rfl, rfl, rfl, rfl⟩ rfl rfl rfl rfl rfl (by kernel_rfl) Try.func8 (by kernel_rfl)
    (of_decide_eq_true (by kernel_rfl)) (by unfold Func.isWrapper; first | (rw [if_pos (by decide +kernel)]; kernel_rfl) | (rw [if_neg (by decide +kernel)]; exact ⟨rfl, rfl⟩))
    (fun os started H enc _ => lifted os started H enc)

theorem proved : Rows.FnWaitOnAllIsDoneExactlyWhenCountsSayAllDoneSaid := over
end Go.Proofs.Qxb6003345a.WaitLaw
