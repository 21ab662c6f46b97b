/-
  'FnWordReadsWrittenLiteral' returns true for every input and changes nothing that was there.
-/
import Derived.Test.Qxb6003345aWordWalks
import Derived.ProofKit
import Derived.OpenShut
import Derived.ShutString
import Derived.ChangeOld
namespace Go.Proofs.Qxb6003345a.Word
open Go.ChangeShapes Go.WideShapes Go.ChangeAt Go.RowKit
open Go.ChangeMaps (open_string shut_string)
set_option linter.unusedVariables false

theorem own : ownKnob Try.prog.godebug = none := by kernel_rfl

set_option maxHeartbeats 1600000 in
theorem walk_main (a b c d : ByteArray) (w : World) (h : a.size + b.size + c.size + d.size ≤ 1048576) (hl : b.size + c.size < d.size) :
    Calls Try.prog 5 #[.string a, .string b, .string c, .string d] w fun e w' => e = .returned (.bool true) ∧ Below w.heap.size w w' := by
  obtain ⟨cap, w1, hcv, hby, hbl, hsz⟩ := conv_bytes w (a ++ b ++ c)
  go_enter Try.func5, Try.ntmps5
  go_wp2_with fail
  refine (zz_yes _ _ _ _ _ h).mono ?_
  rintro e w' ⟨rfl, rfl⟩
  go_wp2_with fail
  refine (zzword_yes _ _ a.size _ cap (a ++ b ++ c) b _ ?hn1 ?hi1 ?hs1 ?hq1 hby (plain_yes a b c)).mono ?_
  case hn1 => simp [ByteArray.size_append]
  case hi1 => simp [ByteArray.size_append]; omega
  case hs1 => simp [ByteArray.size_append]; omega
  case hq1 => omega
  rintro e w2 ⟨rfl, hb2⟩
  go_wp2_with fail
  refine (zzword_no _ _ a.size _ cap (a ++ b ++ c) d _ ?hn2 ?hi2 (bytes_later hby hb2 hsz) (plain_no a b c d hl)).mono ?_
  case hn2 => simp [ByteArray.size_append]
  case hi2 => simp [ByteArray.size_append]; omega
  rintro e w3 ⟨rfl, hb3⟩
  have hs2 := hb2.size
  go_wp2_with fail
  have hby3 := bytes_later (bytes_later hby hb2 hsz) hb3 (Nat.lt_of_lt_of_le hsz hs2)
  refine (zzword_no _ _ a.size _ cap (a ++ b ++ c) _ w3 ?hn3 ?hi3 hby3 ?hp3).mono ?_
  case hn3 => simp [ByteArray.size_append]
  case hi3 => simp [ByteArray.size_append]; omega
  case hp3 => exact plain_x a b c _ rfl
  rintro e w4 ⟨rfl, hb4⟩
  have hs3 := hb3.size
  have hfin : Below w'.heap.size w' w4 := ((hbl.trans (hb2.mono (by omega))).trans (hb3.mono (by omega))).trans (hb4.mono (by omega))
  clear hby hbl hb2 hb3 hb4 hcv hby3
  go_wp2
  go_ret
  exact ⟨rfl, hfin⟩

set_option maxHeartbeats 400000 in
theorem walk (a b c d : ByteArray) (w : World) :
    Calls Try.prog 5 #[.string a, .string b, .string c, .string d] w fun e w' => e = .returned (.bool true) ∧ Below w.heap.size w w' := by
  by_cases h : a.size + b.size + c.size + d.size ≤ 1048576
  · by_cases hl : b.size + c.size < d.size
    · exact walk_main a b c d w h hl
    · go_enter Try.func5, Try.ntmps5
      go_wp2_with fail
      refine (zz_yes _ _ _ _ _ h).mono ?_
      rintro e w' ⟨rfl, rfl⟩
      go_wp2
      go_ret
      exact ⟨rfl, Below.refl _ _⟩
  · go_enter Try.func5, Try.ntmps5
    go_wp2_with fail
    refine (zz_no _ _ _ _ _ h).mono ?_
    rintro e w' ⟨rfl, rfl⟩
    go_wp2
    go_ret
    exact ⟨rfl, Below.refl _ _⟩

/-! ### THE ROW's STEP: WRITTEN OUT: LEAVE IT -/
set_option maxRecDepth 100000 in
theorem lifted (os : Os) (started : os.Started) (H : Type) (enc : TypeId × Value → H) :
    ReturnsInHanded {} Try.checked os 5 .any (Rows.fnWordReadsWrittenLiteralSpec.pre6 enc Try.prog Try.f5 Rows.fnWordReadsWrittenLiteralRow.domain false) (Rows.fnWordReadsWrittenLiteralSpec.post enc Try.prog Try.f5 false true false false) := by
  refine returnsInHanded_of_change (C := Try.checked) own started (by kernel_rfl) Try.func5
    (ChangeSpec.witness6 (enc := enc) (C := Try.checked) false ⟨#[], #[.string ByteArray.empty, .string ByteArray.empty, .string ByteArray.empty, .string ByteArray.empty], []⟩ 8 (by kernel_rfl) (by kernel_rfl) (by kernel_rfl) (by kernel_rfl)) ?_
  intro W base args ds gs before hval0 hW hcnd _
  have hval : ∀ (j : Nat) t v, Try.f5.params[j]? = some t → args[j]? = some v → Value.okWide Try.prog W .any base t v := hval0
  have hW' := hW
  obtain ⟨p, q, hA0, hV, rfl, hfz, hnd⟩ := hW
  have hA : DataW.TrodAll enc Try.prog W 0 (fun _ => true) true Try.f5.params.toList args.toList ds p := hA0
  rw [Try.params5] at hA hval
  obtain ⟨v0, vs0, d0, ds0, p0, q0, hargs, rfl, rfl, h0, r0⟩ := trodAll_cons hA
  obtain ⟨v1, vs1, d1, ds1, p1, q1, rfl, rfl, rfl, h1, r1⟩ := trodAll_cons r0
  obtain ⟨v2, vs2, d2, ds2, p2, q2, rfl, rfl, rfl, h2, r2⟩ := trodAll_cons r1
  obtain ⟨v3, vs3, d3, ds3, p3, q3, rfl, rfl, rfl, h3, r3⟩ := trodAll_cons r2
  obtain ⟨rfl, rfl, rfl⟩ := trodAll_nil r3
  obtain rfl : args = #[v0, v1, v2, v3] := by cases args; simp_all
  obtain ⟨rfl, rfl⟩ := trodVars_none hV
  obtain ⟨a0, rfl, rfl, rfl, w0⟩ := open_string Try.underlying9 (hval 0 9 v0 rfl rfl) h0
  obtain ⟨a1, rfl, rfl, rfl, w1⟩ := open_string Try.underlying9 (hval 1 9 v1 rfl rfl) h1
  obtain ⟨a2, rfl, rfl, rfl, w2⟩ := open_string Try.underlying9 (hval 2 9 v2 rfl rfl) h2
  obtain ⟨a3, rfl, rfl, rfl, w3⟩ := open_string Try.underlying9 (hval 3 9 v3 rfl rfl) h3
  clear hA0 hval0
  simp only [List.append_nil] at hW'
  refine (walk a0 a1 a2 a3 W).mono fun e W' ⟨he, bel⟩ => ?_
  subst he
  exact ⟨_, rfl, _, _, _, [], [], [], hW', trodAll_mk1 (shut_bool Try.underlying4 _), (trodAll_cons_mk (shut_string Try.underlying9 w0) (trodAll_cons_mk (shut_string Try.underlying9 w1) (trodAll_cons_mk (shut_string Try.underlying9 w2) (trodAll_cons_mk (shut_string Try.underlying9 w3) trodAll_mk0)))), rfl, bel.frame _, fun h => by cases h⟩

theorem over : Rows.fnWordReadsWrittenLiteralRow.holds Try.pinned (OpenSpec.ofChange Rows.fnWordReadsWrittenLiteralSpec) :=
  OpenClaim.holds_of_wide 5 Try.f5 rfl rfl rfl rfl rfl rfl rfl ⟨rfl, rfl, rfl, rfl, rfl⟩ rfl rfl rfl rfl rfl (by kernel_rfl) Try.func5 (by kernel_rfl)
    (of_decide_eq_true (by kernel_rfl)) (by unfold Func.isWrapper; first | (rw [if_pos (by decide +kernel)]; kernel_rfl) | (rw [if_neg (by decide +kernel)]; exact ⟨rfl, rfl⟩))
    (fun os started H enc _ => lifted os started H enc)

/-- ████ THE STATEMENT ████ -/
theorem proved : Rows.FnWordReadsWrittenLiteralSaid :=
  over
end Go.Proofs.Qxb6003345a.Word
