/-
  'FnNextSkipsWhiteSpaceToToken' returns true for every input and changes nothing that was there.
-/
import Derived.Test.Qxb6003345aNextWalk
import Derived.ProofKit
import Derived.OpenShut
import Derived.ShutString
import Derived.ChangeOld
namespace Go.Proofs.Qxb6003345a.NextLaw
open Go.ChangeShapes Go.WideShapes Go.ChangeAt Go.RowKit
open Go.Proofs.Qxb6003345a.Append Go.Proofs.Qxb6003345a.Next
set_option linter.unusedVariables false

theorem own : ownKnob Try.prog.godebug = none := by kernel_rfl
theorem laidOut : laidOutB Try.prog = true := by kernel_rfl

set_option maxHeartbeats 400000 in
set_option maxRecDepth 100000 in
theorem walk_long (w : World) (p q r : Option Addr) (n a m b l f : Nat) (c d : Int) (hn : n ≤ maxLen) (hm : m ≤ maxLen) (hl : l ≤ maxLen) (h : ¬ n + m + l ≤ 1048576) :
    Calls Try.prog 6 #[.slice p n a, .slice q m b, .int .u8 c, .int .u8 d, .slice r l f] w fun e w' => e = .returned (.bool true) ∧ Below w.heap.size w w' := by
  go_enter Try.func6, Try.ntmps6
  go_wp2_with fail
  refine (zz22_no _ _ _ _ _ _ _ _ _ _ _ _ hn hm hl h).mono ?_
  rintro e w ⟨rfl, rfl⟩
  go_wp2
  go_ret
  exact ⟨rfl, Below.refl _ _⟩

set_option maxHeartbeats 400000 in
set_option maxRecDepth 100000 in
theorem walk_c (w : World) (p q r : Option Addr) (n a m b l f : Nat) (c : UInt8) (d : Int) (h : n + m + l ≤ 1048576) (hc : spc c = true) :
    Calls Try.prog 6 #[.slice p n a, .slice q m b, .int .u8 (c.toNat : Int), .int .u8 d, .slice r l f] w fun e w' => e = .returned (.bool true) ∧ Below w.heap.size w w' := by
  go_enter Try.func6, Try.ntmps6
  go_wp2_with fail
  refine (zz22_yes _ _ _ _ _ _ _ _ _ _ _ _ h).mono ?_
  rintro e w ⟨rfl, rfl⟩
  go_wp2_with fail
  refine (isSpace_any c _).mono ?_
  rintro e w ⟨rfl, rfl⟩
  rw [hc]
  go_wp2
  go_ret
  exact ⟨rfl, Below.refl _ _⟩

set_option maxHeartbeats 400000 in
set_option maxRecDepth 100000 in
theorem walk_d (w : World) (p q r : Option Addr) (n a m b l f : Nat) (c d : UInt8) (h : n + m + l ≤ 1048576) (hc : spc c = false) (hd : spc d = true) :
    Calls Try.prog 6 #[.slice p n a, .slice q m b, .int .u8 (c.toNat : Int), .int .u8 (d.toNat : Int), .slice r l f] w fun e w' => e = .returned (.bool true) ∧ Below w.heap.size w w' := by
  have HC : Hid (spc c = false) := hc
  have HD : Hid (spc d = true) := hd
  clear hc hd
  go_enter Try.func6, Try.ntmps6
  go_wp2_with fail
  refine (zz22_yes _ _ _ _ _ _ _ _ _ _ _ _ h).mono ?_
  rintro e w ⟨rfl, rfl⟩
  go_wp2_with fail
  refine (isSpace_any c _).mono ?_
  rintro e w ⟨rfl, rfl⟩
  rw [HC.out]
  go_wp2_with fail
  refine (isSpace_any d _).mono ?_
  rintro e w ⟨rfl, rfl⟩
  rw [HD.out]
  go_wp2
  go_ret
  exact ⟨rfl, Below.refl _ _⟩

set_option maxHeartbeats 400000 in
set_option maxRecDepth 100000 in
theorem walk_eq (w : World) (p q r : Option Addr) (n a m b l f : Nat) (c d : UInt8) (h : n + m + l ≤ 1048576) (hc : spc c = false) (hd : spc d = false) (hcd : ((c.toNat : Int) == (d.toNat : Int)) = true) :
    Calls Try.prog 6 #[.slice p n a, .slice q m b, .int .u8 (c.toNat : Int), .int .u8 (d.toNat : Int), .slice r l f] w fun e w' => e = .returned (.bool true) ∧ Below w.heap.size w w' := by
  have HC : Hid (spc c = false) := hc
  have HD : Hid (spc d = false) := hd
  clear hc hd
  go_enter Try.func6, Try.ntmps6
  go_wp2_with fail
  refine (zz22_yes _ _ _ _ _ _ _ _ _ _ _ _ h).mono ?_
  rintro e w ⟨rfl, rfl⟩
  go_wp2_with fail
  refine (isSpace_any c _).mono ?_
  rintro e w ⟨rfl, rfl⟩
  rw [HC.out]
  go_wp2_with fail
  refine (isSpace_any d _).mono ?_
  rintro e w ⟨rfl, rfl⟩
  rw [HD.out]
  go_wp2
  go_ret
  exact ⟨rfl, Below.refl _ _⟩

theorem byte_of {x : Int} (h : (Lit.int .u8 x).wf = true) : ∃ c : UInt8, x = (c.toNat : Int) := by
  have hb : 0 ≤ x ∧ x ≤ 255 := by simpa [Lit.wf, IntKind.min, IntKind.max, IntKind.bits, IntKind.signed] using h
  exact ⟨UInt8.ofNat x.toNat, by simp; omega⟩

theorem walk (a0 : Option Addr) (len0 cap0 : Nat) (z0 : List Int) (a1 : Option Addr) (len1 cap1 : Nat) (z1 : List Int) (a2 : Int) (a3 : Int) (a4 : Option Addr) (len4 cap4 : Nat) (z4 : List Int) (w : World) (w0 : IsRow .u8 w a0 len0 cap0 z0) (w1 : IsRow .u8 w a1 len1 cap1 z1) (w2 : (Lit.int .u8 a2).wf = true) (w3 : (Lit.int .u8 a3).wf = true) (w4 : IsRow .u8 w a4 len4 cap4 z4) :
    Calls Try.prog 6 #[.slice a0 len0 cap0, .slice a1 len1 cap1, .int .u8 a2, .int .u8 a3, .slice a4 len4 cap4] w fun e w' => e = .returned (.bool true) ∧ Below w.heap.size w w' := by
  obtain ⟨pre, hn, hp, _⟩ := bytes_of_row w0
  obtain ⟨ws, hm, hq, _⟩ := bytes_of_row w1
  obtain ⟨suf, hl, hr, _⟩ := bytes_of_row w4
  obtain ⟨c, rfl⟩ := byte_of w2
  obtain ⟨d, rfl⟩ := byte_of w3
  by_cases h : len0 + len1 + len4 ≤ 1048576
  · cases hc : spc c with
    | true => exact walk_c w a0 a1 a4 len0 cap0 len1 cap1 len4 cap4 c _ h hc
    | false =>
      cases hd : spc d with
      | true => exact walk_d w a0 a1 a4 len0 cap0 len1 cap1 len4 cap4 c d h hc hd
      | false =>
        cases hcd : ((c.toNat : Int) == (d.toNat : Int)) with
        | true => exact walk_eq w a0 a1 a4 len0 cap0 len1 cap1 len4 cap4 c d h hc hd hcd
        | false => exact walk_main w a0 a1 a4 len0 cap0 len1 cap1 len4 cap4 c d pre ws suf hp hq hr h hc hd hcd
  · exact walk_long w a0 a1 a4 len0 cap0 len1 cap1 len4 cap4 _ _ hn hm hl h

/-! ### THE ROW's STEP: WRITTEN OUT: LEAVE IT -/
set_option maxRecDepth 100000 in
theorem lifted (os : Os) (started : os.Started) (H : Type) (enc : TypeId × Value → H) :
    ReturnsInHanded {} Try.checked os 6 .any (Rows.fnNextSkipsWhiteSpaceToTokenSpec.pre6 enc Try.prog Try.f6 Rows.fnNextSkipsWhiteSpaceToTokenRow.domain false) (Rows.fnNextSkipsWhiteSpaceToTokenSpec.post enc Try.prog Try.f6 false true false false) := by
  refine returnsInHanded_of_change (C := Try.checked) own started (by kernel_rfl) Try.func6
    (ChangeSpec.witness6 (enc := enc) (C := Try.checked) false ⟨#[], #[.slice none 0 0, .slice none 0 0, .int .u8 0, .int .u8 0, .slice none 0 0], []⟩ 8 (by kernel_rfl) (by kernel_rfl) (by kernel_rfl) (by kernel_rfl)) ?_
  intro W base args ds gs before hval0 hW hcnd _
  have hval : ∀ (j : Nat) t v, Try.f6.params[j]? = some t → args[j]? = some v → Value.okWide Try.prog W .any base t v := hval0
  have hW' := hW
  obtain ⟨p, q, hA0, hV, rfl, hfz, hnd⟩ := hW
  have hA : DataW.TrodAll enc Try.prog W 0 (fun _ => true) true Try.f6.params.toList args.toList ds p := hA0
  rw [Try.params6] at hA hval
  obtain ⟨v0, vs0, d0, ds0, p0, q0, hargs, rfl, rfl, h0, r0⟩ := trodAll_cons hA
  obtain ⟨v1, vs1, d1, ds1, p1, q1, rfl, rfl, rfl, h1, r1⟩ := trodAll_cons r0
  obtain ⟨v2, vs2, d2, ds2, p2, q2, rfl, rfl, rfl, h2, r2⟩ := trodAll_cons r1
  obtain ⟨v3, vs3, d3, ds3, p3, q3, rfl, rfl, rfl, h3, r3⟩ := trodAll_cons r2
  obtain ⟨v4, vs4, d4, ds4, p4, q4, rfl, rfl, rfl, h4, r4⟩ := trodAll_cons r3
  obtain ⟨rfl, rfl, rfl⟩ := trodAll_nil r4
  obtain rfl : args = #[v0, v1, v2, v3, v4] := by cases args; simp_all
  obtain ⟨rfl, rfl⟩ := trodVars_none hV
  obtain ⟨a0, len0, cap0, rfl⟩ := okWide_slice Try.underlying22 (hval 0 22 v0 rfl rfl)
  have k0 := h0
  have lt0 : ∀ x ∈ p0, x.block < W.heap.size := by obtain ⟨m, hm⟩ := k0; exact DataW.trod_lt m _ _ _ hm
  obtain ⟨z0, w0⟩ : ∃ zs, IsRow .u8 W a0 len0 cap0 zs := by
    obtain ⟨fuel, hf⟩ := h0
    rcases open_ints Try.underlying22 Try.underlying5 (by kernel_rfl) hf with ⟨hcs, _⟩ | ⟨x, l, c, zs, hcs, _, hl, hm, hz, _, hcell, hwz⟩
    · simp [Value.cells] at hcs
      obtain ⟨rfl, rfl, rfl⟩ := hcs
      exact ⟨[], .inl ⟨rfl, rfl, rfl, rfl⟩⟩
    · simp [Value.cells] at hcs
      obtain ⟨rfl, rfl, rfl⟩ := hcs
      exact ⟨zs, .inr ⟨_, rfl, hl, hm, by simpa using hz, hcell, hwz⟩⟩
  obtain ⟨a1, len1, cap1, rfl⟩ := okWide_slice Try.underlying22 (hval 1 22 v1 rfl rfl)
  have k1 := h1
  have lt1 : ∀ x ∈ p1, x.block < W.heap.size := by obtain ⟨m, hm⟩ := k1; exact DataW.trod_lt m _ _ _ hm
  obtain ⟨z1, w1⟩ : ∃ zs, IsRow .u8 W a1 len1 cap1 zs := by
    obtain ⟨fuel, hf⟩ := h1
    rcases open_ints Try.underlying22 Try.underlying5 (by kernel_rfl) hf with ⟨hcs, _⟩ | ⟨x, l, c, zs, hcs, _, hl, hm, hz, _, hcell, hwz⟩
    · simp [Value.cells] at hcs
      obtain ⟨rfl, rfl, rfl⟩ := hcs
      exact ⟨[], .inl ⟨rfl, rfl, rfl, rfl⟩⟩
    · simp [Value.cells] at hcs
      obtain ⟨rfl, rfl, rfl⟩ := hcs
      exact ⟨zs, .inr ⟨_, rfl, hl, hm, by simpa using hz, hcell, hwz⟩⟩
  obtain ⟨a2, rfl, rfl, rfl, w2⟩ := open_int Try.underlying5 (hval 2 5 v2 rfl rfl) h2
  obtain ⟨a3, rfl, rfl, rfl, w3⟩ := open_int Try.underlying5 (hval 3 5 v3 rfl rfl) h3
  obtain ⟨a4, len4, cap4, rfl⟩ := okWide_slice Try.underlying22 (hval 4 22 v4 rfl rfl)
  have k4 := h4
  have lt4 : ∀ x ∈ p4, x.block < W.heap.size := by obtain ⟨m, hm⟩ := k4; exact DataW.trod_lt m _ _ _ hm
  obtain ⟨z4, w4⟩ : ∃ zs, IsRow .u8 W a4 len4 cap4 zs := by
    obtain ⟨fuel, hf⟩ := h4
    rcases open_ints Try.underlying22 Try.underlying5 (by kernel_rfl) hf with ⟨hcs, _⟩ | ⟨x, l, c, zs, hcs, _, hl, hm, hz, _, hcell, hwz⟩
    · simp [Value.cells] at hcs
      obtain ⟨rfl, rfl, rfl⟩ := hcs
      exact ⟨[], .inl ⟨rfl, rfl, rfl, rfl⟩⟩
    · simp [Value.cells] at hcs
      obtain ⟨rfl, rfl, rfl⟩ := hcs
      exact ⟨zs, .inr ⟨_, rfl, hl, hm, by simpa using hz, hcell, hwz⟩⟩
  clear hA0 hval0
  refine (walk a0 len0 cap0 z0 a1 len1 cap1 z1 a2 a3 a4 len4 cap4 z4 W w0 w1 w2 w3 w4).mono fun e W' ⟨he, bel⟩ => ?_
  subst he
  exact ⟨_, rfl, _, _, _, [], _, [], hW', trodAll_mk1 (shut_bool Try.underlying4 _), (trodAll_cons_mk (Below.trod laidOut (by kernel_rfl) (of_decide_eq_true (by kernel_rfl)) k0 bel lt0) (trodAll_cons_mk (Below.trod laidOut (by kernel_rfl) (of_decide_eq_true (by kernel_rfl)) k1 bel lt1) (trodAll_cons_mk (shut_int Try.underlying5 w2) (trodAll_cons_mk (shut_int Try.underlying5 w3) (trodAll_cons_mk (Below.trod laidOut (by kernel_rfl) (of_decide_eq_true (by kernel_rfl)) k4 bel lt4) trodAll_mk0))))), rfl, bel.frame _, fun h => by cases h⟩

theorem over : Rows.fnNextSkipsWhiteSpaceToTokenRow.holds Try.pinned (OpenSpec.ofChange Rows.fnNextSkipsWhiteSpaceToTokenSpec) :=
  OpenClaim.holds_of_wide 6 Try.f6 rfl rfl rfl rfl rfl rfl rfl ⟨rfl, rfl, rfl, rfl, rfl⟩ rfl rfl rfl rfl rfl (by kernel_rfl) Try.func6 (by kernel_rfl)
    (of_decide_eq_true (by kernel_rfl)) (by unfold Func.isWrapper; first | (rw [if_pos (by decide +kernel)]; kernel_rfl) | (rw [if_neg (by decide +kernel)]; exact ⟨rfl, rfl⟩))
    (fun os started H enc _ => lifted os started H enc)

/-- ████ THE STATEMENT ████ -/
theorem proved : Rows.FnNextSkipsWhiteSpaceToTokenSaid := over
end Go.Proofs.Qxb6003345a.NextLaw
