import Derived.Test.Qxb6003345aRows
import Derived.WalkKit
import Derived.WalkSpells
import Derived.WalkLawsBesides
import Derived.Maps.RangeWalk
import Derived.Maps.OwnSet
import Derived.Maps.OwnOps
import Derived.Maps.Ext
namespace Go.Proofs.Qxb6003345a.Tally
open Go.RowKit Go.Maps

/-! ### Plain: how many of the tasks that have come bear a status -/
abbrev Ts := List (List UInt8 × List UInt8)

def cnt (ts : Ts) (left : Lit → Bool) (t : List UInt8) : Nat := (ts.filter fun p => !left (.string p.1) && p.2 == t).length
/-- How many tasks bear the status t. -/
def tot (ts : Ts) (t : List UInt8) : Nat := (ts.filter fun p => p.2 == t).length

theorem cnt_none {ts : Ts} {left : Lit → Bool} (h : ∀ kl, left kl = false) (t : List UInt8) : cnt ts left t = tot ts t := by
  unfold cnt tot
  congr 1
  apply List.filter_congr
  intro p _
  simp [h]

theorem cnt_all {ts : Ts} {left : Lit → Bool} (h : ∀ p ∈ ts, left (.string p.1) = true) (t : List UInt8) : cnt ts left t = 0 := by
  unfold cnt
  rw [List.length_eq_zero_iff, List.filter_eq_nil_iff]
  intro p hp
  simp [h p hp]

theorem cnt_le (ts : Ts) (left : Lit → Bool) (t : List UInt8) : cnt ts left t ≤ ts.length := List.length_filter_le _ _
theorem tot_le (ts : Ts) (t : List UInt8) : tot ts t ≤ ts.length := List.length_filter_le _ _

def strike (left : Lit → Bool) (k : List UInt8) : Lit → Bool := fun z => left z && !z.sameKey (.string k)

theorem strike_other {left : Lit → Bool} {k k' : List UInt8} (h : k' ≠ k) : strike left k (.string k') = left (.string k') := by
  have : (k' == k) = false := by simpa using h
  simp [strike, Lit.sameKey, this]
theorem strike_same (left : Lit → Bool) (k : List UInt8) : strike left k (.string k) = false := by simp [strike, Lit.sameKey]

theorem cnt_step {k s : List UInt8} {left : Lit → Bool} (hl : left (.string k) = true) (t : List UInt8) : ∀ {ts : Ts}, ts.Pairwise (fun p q => p.1 ≠ q.1) → (k, s) ∈ ts → cnt ts (strike left k) t = cnt ts left t + if s = t then 1 else 0
  | [], _, h => by simp at h
  | p :: r, hp, h => by
    obtain ⟨h1, h2⟩ := List.pairwise_cons.1 hp
    rcases List.mem_cons.1 h with rfl | h
    · have e : r.filter (fun p => !strike left k (.string p.1) && p.2 == t) = r.filter (fun p => !left (.string p.1) && p.2 == t) := by
        apply List.filter_congr
        intro q hq
        rw [strike_other (Ne.symm (h1 q hq))]
      unfold cnt
      simp only [List.filter_cons, e, strike_same, hl]
      by_cases hst : s = t <;> simp [hst]
    · have hne : p.1 ≠ k := h1 _ h
      have ih := cnt_step hl t h2 h
      unfold cnt at ih ⊢
      simp only [List.filter_cons, strike_other hne]
      split
      · simp only [List.length_cons]; omega
      · exact ih

/-- The tally so far. -/
def Tal (Dc : DataW Unit) (ts : Ts) (left : Lit → Bool) : Prop :=
  (∀ t, Dc.atKey (.string t) (.lit (.int .i64 0)) = .lit (.int .i64 (cnt ts left t))) ∧ ∀ t, Maps.has Dc (.string t) = decide (0 < cnt ts left t)

theorem tal_start {ts : Ts} {left : Lit → Bool} (h : ∀ p ∈ ts, left (.string p.1) = true) : Tal (.map []) ts left :=
  ⟨fun t => by rw [cnt_all h]; rfl, fun t => by rw [cnt_all h]; rfl⟩

theorem tal_step {Dc : DataW Unit} {ts : Ts} {left : Lit → Bool} {k s : List UInt8} (h : Tal Dc ts left) (hm : IsMap Dc) (hl : left (.string k) = true) (hp : ts.Pairwise (fun p q => p.1 ≠ q.1)) (hmem : (k, s) ∈ ts) :
    Tal (Dc.put (.string s) (.lit (.int .i64 ((cnt ts left s : Int) + 1)))) ts (strike left k) := by
  refine ⟨fun t => ?_, fun t => ?_⟩
  · rw [cnt_step hl t hp hmem]
    by_cases e : s = t
    · subst e
      rw [atKey_put_same hm (k := .string s) trivial]
      simp
    · rw [atKey_put_other (by simpa using Ne.symm e), h.1 t]
      simp [e]
  · rw [cnt_step hl t hp hmem]
    by_cases e : s = t
    · subst e
      rw [has_put_same hm (k := .string s) trivial]
      simp
    · rw [has_put_other (by simpa using Ne.symm e), h.2 t]
      simp [e]

/-! ### The tasks in memory -/
/-- How an element that is a pointer to the head of a block reads: the block's number. -/
def ptrElem : Value → Option (DataW Unit × List MemPlace)
  | .pointer (some ⟨b, 0, none⟩) => some (.lit (.int .i64 (b : Int)), [])
  | _ => none

def ptr (b : Nat) : Value := .pointer (some ⟨b, 0, none⟩)

theorem ptrElem_inv {v : Value} {y : DataW Unit × List MemPlace} (h : ptrElem v = some y) : ∃ b : Nat, v = ptr b ∧ y = (.lit (.int .i64 (b : Int)), []) := by
  unfold ptrElem at h
  split at h
  · cases h
    exact ⟨_, rfl, rfl⟩
  · cases h

theorem law9 : Keyed Try.prog 9 := string_keyed Try.underlying9
theorem zero3 (w : World) : (zeroValue 3).run Try.prog w = .ok (.int .i64 0) w := by kernel_rfl

theorem keyOf_string_inv {key : Value} {kl : Lit} (h : keyOf Try.prog 9 key = some kl) : ∃ s : ByteArray, key = .string s ∧ kl = .string s.data.toList ∧ s.size ≤ maxLen := by
  cases key <;> simp [keyOf, Try.underlying9, mapKey] at h
  obtain ⟨hw, rfl⟩ := h
  exact ⟨_, rfl, rfl, hw⟩

/-- The step of a range over a map of strings to pointers. -/
theorem next_sp {w : World} {ops : Array Oper} {rest : List Oper} {o : Oper} {a : Act} {Q : Exit → Act → World → Prop} (hg : o.guard = none) (it : Operand) (hop : o.op = Op.next it false)
    (b r n : Nat) (D : DataW Unit) (left : Lit → Bool) (c : Nat) (hit : a.eval it = .pointer (some ⟨r, 0, none⟩)) (h : w.ranges Try.prog 9 ptrElem b r n D left c)
    (hDone : c = 0 → (∀ kl, left kl = false) → wpList Try.prog ops Q rest (a.put o.dst (.tuple #[.bool false])) w)
    (hMore : ∀ (x : ByteArray) (bt : Nat) (w' : World) (c' : Nat), x.size ≤ maxLen → left (.string x.data.toList) = true → (∀ zd, D.atKey (.string x.data.toList) zd = .lit (.int .i64 (bt : Int))) → w'.ranges Try.prog 9 ptrElem b r n D (strike left x.data.toList) c' → c' < c →
      w.grownBy w' (some r) → w'.heap.size = w.heap.size → (Instr.entry (.pointer (some ⟨r, 0, none⟩))).run Try.prog w' = .ok (.tuple #[.string x, .pointer (some ⟨bt, 0, none⟩)]) w' → wpList Try.prog ops Q rest (a.put o.dst (.tuple #[.bool true, .string x, .pointer (some ⟨bt, 0, none⟩)])) w') :
    wpList Try.prog ops Q (o :: rest) a w :=
  wpList_next_ranges w hg it hop 9 law9 ptrElem Value.string ptr (fun key kl h => by obtain ⟨s, h1, _⟩ := keyOf_string_inv h; exact ⟨s, h1⟩) (fun v y h => by obtain ⟨b, h1, _⟩ := ptrElem_inv h; exact ⟨b, h1⟩)
    b r n D left c hit h hDone (fun x bt kl y w' c' hkey hlk hv hat hrg hlt hgr hsz hen => by
      obtain ⟨x', ex, rfl, hxs⟩ := keyOf_string_inv hkey
      cases ex
      obtain ⟨b', eb, rfl⟩ := ptrElem_inv hv
      cases eb
      exact hMore x bt w' c' hxs hlk hat hrg hlt hgr hsz hen)

/-- The block m is the map of the tasks ts; each task's status lies in its block's first cell. -/
def Tasks (w : World) (m n : Nat) (ts : Ts) : Prop :=
  ts.Pairwise (fun p q => p.1 ≠ q.1) ∧ ∃ D : DataW Unit, w.ownsMap Try.prog 9 ptrElem m n D ∧ (∀ k, Maps.has D (.string k) = true → ∃ s, (k, s) ∈ ts) ∧
    ∀ p ∈ ts, ∃ b : Nat, (∀ z, D.atKey (.string p.1) z = .lit (.int .i64 (b : Int))) ∧ ∃ s : ByteArray, w.cell? ⟨b, 0, none⟩ = some (.string s) ∧ s.data.toList = p.2 ∧ s.size ≤ maxLen

set_option maxHeartbeats 400000 in
set_option maxRecDepth 100000 in
theorem counts_any (w : World) (rb m n : Nat) (ts : Ts) (hT : Tasks w m n ts) (hn : n ≤ 1048576) (hl : ts.length ≤ 1048576) (hr : w.cell? ⟨rb, 12, none⟩ = some (.map (some m))) :
    Calls Try.prog 28 #[.pointer (some ⟨rb, 0, none⟩)] w fun e w' => ∃ (mo N : Nat) (Dc : DataW Unit), e = .returned (.map (some mo)) ∧ w'.ownsMap Try.prog 9 (plainElem Try.prog 3) mo N Dc ∧
      (∀ t, Dc.atKey (.string t) (.lit (.int .i64 0)) = .lit (.int .i64 (tot ts t))) ∧ (∀ t, Maps.has Dc (.string t) = decide (0 < tot ts t)) ∧ Below w.heap.size w w' := by
  obtain ⟨hpw, D, hown, hhas, hts⟩ := hT
  have hmm := @run_makeMap Try.prog
  have hbl := hown.lt
  have hrl := World.block_lt_of_cell? w _ hr
  have e1 : (w.alloc (.map #[] 0)).heap.size = w.heap.size + 1 := by simp
  have hr1 : ∀ o, (w.alloc o).cell? ⟨rb, 12, none⟩ = some (.map (some m)) := fun o => by rw [World.cell?_alloc_past _ _ _ hrl]; exact hr
  go_enter Try.func28, Try.ntmps28
  go_wp2_with (first
    | (at_range; refine wpList_range_own _ rfl _ 46 rfl 9 56 law9 Try.underlying46 _ m n _ rfl (hown.alloc _) ?_; intro w0 hrg0 hg0 hs0)
    | go_in)
  rw [e1] at hrg0 hs0
  go_loopw [5] (fun _ wr => ∃ (left : Lit → Bool) (c N : Nat) (Dc : DataW Unit), wr.ranges Try.prog 9 ptrElem m (w.heap.size + 1) n D left c ∧ N + c ≤ n ∧
      wr.ownsMap Try.prog 9 (plainElem Try.prog 3) w.heap.size N Dc ∧ Tal Dc ts left ∧ Below w.heap.size w wr)
    (fun _ wr => wr.rangeLeft m (w.heap.size + 1))
  case atStart =>
    refine ⟨_, _, 0, .map [], hrg0, by have := hown.size_le; omega, (World.ownsMap_made _ _ _ _).kept hg0 (by simp), tal_start (fun p hp => ?_), ((Below.refl _ _).alloc (Nat.le_refl _) _).grown hg0 (by simp) (fun j hj => by cases hj)⟩
    obtain ⟨b, hb, _⟩ := hts p hp
    exact has_true_of_atKey hb
  case round =>
    obtain ⟨left, c, N, Dc, hrg, hcs, hout, hA, hnx⟩ := hrel
    go_wp2_with (first
      | (at_next; refine next_sp rfl _ rfl m (w.heap.size + 1) n _ _ _ rfl hrg ?_ ?_)
      | go_in)
    · intro hc0 hl0
      go_wp2
      go_ret
      exact ⟨w.heap.size, N, Dc, rfl, hout, fun t => by rw [hA.1, cnt_none hl0], fun t => by rw [hA.2, cnt_none hl0], hnx⟩
    · intro x b w1 c1 hxs hlk hat hrg1 hlt hg1 hs1 hen
      obtain ⟨st, hst⟩ := hhas _ (has_true_of_atKey hat)
      obtain ⟨b2, hb2, s, hcell, hsl, hss⟩ := hts _ hst
      have eb : b2 = b := by
        have := (hb2 (.map [])).symm.trans (hat (.map []))
        injection this with this
        injection this with _ this
        omega
      subst eb
      have hbl2 := World.block_lt_of_cell? w _ hcell
      have hnx1 := hnx.grown hg1 hnx.size (fun j hj => by cases hj; exact Nat.le_succ _)
      have hcell1 : w1.cell? ⟨b2, 0, none⟩ = some (.string s) := (hnx1.cell hbl2).trans hcell
      have hout1 := hout.kept hg1 (by simp)
      have hks : keyOf Try.prog 9 (.string s) = some (.string s.data.toList) := WideMaps.keyOf_string_mk Try.underlying9 hss
      obtain ⟨v, hrun, hatv, _⟩ := hout1.lookup_int law9 Try.underlying60 Try.underlying3 (zero3 _) hks
      have ev : v = (cnt ts left st : Int) := by
        rw [hA.1] at hatv
        injection hatv with hatv
        injection hatv with _ hatv
        rw [← hatv, hsl]
      subst ev
      have hcl := cnt_le ts left st
      have hst2 := tal_step hA hout.isMap hlk hpw hst
      go_wp2_with (first
        | (at_mapUpdate; refine wpList_mapUpdate_own _ rfl _ _ _ 60 rfl 9 3 law9 Try.underlying60 _ w.heap.size _ _ rfl hout1 (by unfold maxLen; omega) _ _ _ rfl rfl hks _ [] (plainElem_int Try.underlying3 (WalkArith.wf_i64 (by omega))) ?_; intro w2 hout2 hg2; go_frame)
        | go_in)
      have hrg2 := hrg1.kept hg2 (fun e => by have := Option.some.inj e; omega) (fun e => by have := Option.some.inj e; omega)
      go_roundw
      case rel =>
        refine ⟨_, c1, N + 1, _, hrg2, by omega, hout2, ?_, hnx1.grown hg2 hnx1.size (fun j hj => by cases hj; exact Nat.le_refl _)⟩
        rw [hsl]
        exact hst2
      case measure => rw [hrg2.left_eq, hrg.left_eq]; exact hlt

end Go.Proofs.Qxb6003345a.Tally
