import Derived.Test.Qxb6003345aFill
import Derived.Test.Qxb6003345aWaits
import Derived.Test.Qxb6003345aClone
namespace Go.Proofs.Qxb6003345a.WaitsFill
open Go.RowKit Go.Maps
open Go.Proofs.Qxb6003345a.Tally Go.Proofs.Qxb6003345a.Itoa Go.Proofs.Qxb6003345a.Fill

/-- A task's block: its first cell is the status. -/
def TaskAt (w : World) (b : Nat) (s : ByteArray) : Prop := ∃ C fr, w.heap[b]? = some (.cells C 59 fr) ∧ C[0]? = some (.string s)

theorem TaskAt.cell {w : World} {b : Nat} {s : ByteArray} (h : TaskAt w b s) : w.cell? ⟨b, 0, none⟩ = some (.string s) := by
  obtain ⟨C, fr, h1, h2⟩ := h
  simp [World.cell?, h1, h2]
theorem TaskAt.kept {w w' : World} {b : Nat} {s : ByteArray} (h : TaskAt w b s) (e : w'.heap[b]? = w.heap[b]?) : TaskAt w' b s := by
  obtain ⟨C, fr, h1, h2⟩ := h
  exact ⟨C, fr, e.trans h1, h2⟩
theorem TaskAt.lt {w : World} {b : Nat} {s : ByteArray} (h : TaskAt w b s) : b < w.heap.size := by
  obtain ⟨C, fr, h1, _⟩ := h
  exact (Array.getElem?_eq_some_iff.1 h1).1

/-- As 'Tasks', each task's block told by its type. -/
def Tasks2 (w : World) (m n : Nat) (ts : Ts) : Prop :=
  ts.Pairwise (fun p q => p.1 ≠ q.1) ∧ ∃ D : DataW Unit, w.ownsMap Try.prog 9 ptrElem m n D ∧ (∀ k, Maps.has D (.string k) = true → ∃ s, (k, s) ∈ ts) ∧
    ∀ p ∈ ts, ∃ b : Nat, (∀ z, D.atKey (.string p.1) z = .lit (.int .i64 (b : Int))) ∧ ∃ s : ByteArray, TaskAt w b s ∧ s.data.toList = p.2 ∧ s.size ≤ maxLen

theorem Tasks2.tasks {w : World} {m n : Nat} {ts : Ts} (h : Tasks2 w m n ts) : Tasks w m n ts := by
  obtain ⟨h1, D, h2, h3, h4⟩ := h
  refine ⟨h1, D, h2, h3, fun p hp => ?_⟩
  obtain ⟨b, hb, s, hs, r⟩ := h4 p hp
  exact ⟨b, hb, s, hs.cell, r⟩

/-- What was there stays while a row of another type, or new blocks, are written. -/
theorem Tasks2.kept {w w' : World} {m n : Nat} {ts : Ts} {row : Option Nat} (h : Tasks2 w m n ts) (hg : w.grownBy w' row) (hm : some m ≠ row) (hr : ∀ g, row = some g → ∀ C fr, w.heap[g]? ≠ some (.cells C 59 fr)) : Tasks2 w' m n ts := by
  obtain ⟨h1, D, h2, h3, h4⟩ := h
  refine ⟨h1, D, h2.kept hg hm, h3, fun p hp => ?_⟩
  obtain ⟨b, hb, s, hs, r⟩ := h4 p hp
  refine ⟨b, hb, s, hs.kept (hg.block b hs.lt ?_), r⟩
  intro e
  obtain ⟨C, fr, hc, _⟩ := hs
  exact hr b e.symm C fr hc

theorem tasks2_step {W W2 : World} {m k b : Nat} {ts : Ts} {D : DataW Unit} {L : List UInt8} {s : ByteArray}
    (hpw : ts.Pairwise (fun p q => p.1 ≠ q.1)) (hhas : ∀ k, Maps.has D (.string k) = true → ∃ s, (k, s) ∈ ts)
    (hts : ∀ p ∈ ts, ∃ b : Nat, (∀ z, D.atKey (.string p.1) z = .lit (.int .i64 (b : Int))) ∧ ∃ s : ByteArray, TaskAt W b s ∧ s.data.toList = p.2 ∧ s.size ≤ maxLen)
    (hm : IsMap D) (hne : ∀ p ∈ ts, p.1 ≠ 116 :: L) (hs : s.size ≤ maxLen)
    (hold : ∀ b' s', TaskAt W b' s' → TaskAt W2 b' s')
    (hnew : TaskAt W2 b s) (hown : W2.ownsMap Try.prog 9 ptrElem m k (D.put (.string (116 :: L)) (.lit (.int .i64 (b : Int))))) :
    Tasks2 W2 m k (ts ++ [(116 :: L, s.data.toList)]) := by
  refine ⟨?_, _, hown, fun k hk => ?_, fun p hp => ?_⟩
  · rw [List.pairwise_append]
    refine ⟨hpw, List.pairwise_singleton _ _, fun p hp q hq => ?_⟩
    simp at hq
    subst hq
    exact hne p hp
  · by_cases e : k = 116 :: L
    · subst e
      exact ⟨s.data.toList, List.mem_append_right _ (by simp)⟩
    · rw [has_put_other (by simpa using e)] at hk
      obtain ⟨s, h⟩ := hhas k hk
      exact ⟨s, List.mem_append_left _ h⟩
  · rcases List.mem_append.1 hp with h | h
    · obtain ⟨b', h1, s', h2, h3⟩ := hts p h
      refine ⟨b', fun z => ?_, s', hold _ _ h2, h3⟩
      rw [atKey_put_other (by simpa using hne p h)]
      exact h1 z
    · simp at h
      subst h
      exact ⟨b, fun z => atKey_put_same hm (k := .string (116 :: L)) trivial _ z, s, hnew, rfl, hs⟩

/-- What the loop has laid behind k rounds: the tasks. -/
def Filled2 (w1 wr : World) (k : Nat) (ts : Ts) (sl : List (List UInt8)) : Prop :=
  Tasks2 wr w1.heap.size k ts ∧ ts.map (·.2) = sl.take k ∧ Keyd ts ∧ wr.cell? ⟨w1.heap.size + 1, 12, none⟩ = some (.map (some w1.heap.size)) ∧ Below w1.heap.size w1 wr

theorem filled2_step {w1 wr W : World} {k b : Nat} {ts : Ts} {sl : List (List UInt8)} {D : DataW Unit} {upd : World → ByteArray → Nat → World} {c : ByteArray} {L : List UInt8} {s : ByteArray}
    (HU : Hid (∀ W (c : ByteArray) (L : List UInt8) b, SameMap wr w1.heap.size W → c.size ≤ 1 → L.length ≤ 20 → (upd W (c ++ ⟨L.toArray⟩) b).ownsMap Try.prog 9 ptrElem w1.heap.size (k + 1) (D.put (.string (c ++ (⟨L.toArray⟩ : ByteArray)).data.toList) (.lit (.int .i64 (b : Int)))) ∧ W.grownBy (upd W (c ++ ⟨L.toArray⟩) b) (some w1.heap.size)))
    (hpw : ts.Pairwise (fun p q => p.1 ≠ q.1)) (hown : wr.ownsMap Try.prog 9 ptrElem w1.heap.size k D) (hhas : ∀ k, Maps.has D (.string k) = true → ∃ s, (k, s) ∈ ts)
    (hts : ∀ p ∈ ts, ∃ b : Nat, (∀ z, D.atKey (.string p.1) z = .lit (.int .i64 (b : Int))) ∧ ∃ s : ByteArray, TaskAt wr b s ∧ s.data.toList = p.2 ∧ s.size ≤ maxLen)
    (hsnd : ts.map (·.2) = sl.take k) (hkd : Keyd ts) (hrc : wr.cell? ⟨w1.heap.size + 1, 12, none⟩ = some (.map (some w1.heap.size))) (hbw : Below w1.heap.size w1 wr)
    (hk : sl[k]? = some s.data.toList) (hsz : s.size ≤ maxLen) (hc : c.data.toList = [116]) (hL : L.length ≤ 20) (hval : decVal L = k)
    (hB : Below wr.heap.size wr W) (hbox : TaskAt W b s) :
    Filled2 w1 (upd W (c ++ ⟨L.toArray⟩) b) (k + 1) (ts ++ [(116 :: L, s.data.toList)]) sl := by
  have hml := hown.lt
  have hG := SameMap.below hB hml
  have hc1 : c.size ≤ 1 := by
    have : c.data.toList.length = 1 := by rw [hc]; rfl
    simp at this
    omega
  obtain ⟨h1, h2⟩ := HU.out W c L b hG hc1 hL
  have ek : (c ++ (⟨L.toArray⟩ : ByteArray)).data.toList = 116 :: L := by simp [hc]
  have hkl : ts.length = k := by
    have h3 := congrArg List.length hsnd
    have h4 := (List.getElem?_eq_some_iff.1 hk).1
    simp at h3
    omega
  have hmw : ∀ {b' s'}, TaskAt W b' s' → some b' ≠ some w1.heap.size := by
    intro b' s' h' e
    have e : b' = w1.heap.size := Option.some.inj e
    obtain ⟨es, cl, hb, _⟩ := hG.owns hown
    obtain ⟨C, fr, hc', _⟩ := h'
    rw [e, hb] at hc'
    cases hc'
  refine ⟨?_, ?_, ?_, ?_, ?_⟩
  · rw [ek] at h1
    refine tasks2_step hpw hhas hts hown.isMap (keyd_ne hkd (by rw [hval, hkl])) hsz (fun b' s' h' => ?_) (hbox.kept (h2.block b hbox.lt (hmw hbox))) h1
    have hW := h'.kept (hB.block b' h'.lt)
    exact hW.kept (h2.block b' hW.lt (hmw hW))
  · rw [List.map_append, hsnd, List.take_add_one, hk]
    rfl
  · exact keyd_step hkd (by rw [hval, hkl])
  · refine h2.cell ((hB.cell (World.block_lt_of_cell? wr _ hrc)).trans hrc) ?_
    intro e
    have e : w1.heap.size + 1 = w1.heap.size := Option.some.inj e
    omega
  · exact (hbw.trans (hB.mono (Nat.le_of_lt hml))).grown h2 (by have := hbw.size; have := hB.size; omega) (fun j hj => by have := Option.some.inj hj; omega)

/-- Behind an append onto a row of strings of the call's own. -/
theorem Filled2.kept {w1 wr w' : World} {k N base : Nat} {v : Value} {xs : List Value} {ts : Ts} {sl : List (List UInt8)} (h : Filled2 w1 wr k ts sl) (hown : wr.ownsRow base 9 1 v N xs) (hbase : w1.heap.size + 2 ≤ base) (hg : wr.grownBy w' v.ownBlock) : Filled2 w1 w' k ts sl := by
  obtain ⟨h1, h2, h3, h4, h5⟩ := h
  have hlt := hown.lt
  have hne : ∀ j, j < w1.heap.size + 2 → some j ≠ v.ownBlock := fun j hj e => by have := (hlt j e.symm).1; omega
  refine ⟨h1.kept hg (hne _ (by omega)) (fun g hgv C fr hc => ?_), h2, h3, h4 ▸ ?_, h5.grown hg (by have := h5.size; omega) (fun j hj => by have := (hlt j hj).1; omega)⟩
  · rcases hown.2 with ⟨rfl, _⟩ | ⟨g', cap, cur, rfl, _, hh, _⟩
    · cases hgv
    · have e : g' = g := Option.some.inj hgv
      subst e
      rw [hh] at hc
      injection hc with hc
      injection hc with _ hc _
      exact absurd hc (by decide)
  · exact (World.cell?_of_block (a := ⟨w1.heap.size + 1, 12, none⟩) (hg.block _ (World.block_lt_of_cell? wr _ h4) (hne _ (by show w1.heap.size + 1 < _; omega))))

theorem Filled2.alloc {w1 wr : World} {k : Nat} {ts : Ts} {sl : List (List UInt8)} (h : Filled2 w1 wr k ts sl) (o : Obj) : Filled2 w1 (wr.alloc o) k ts sl := by
  obtain ⟨h1, h2, h3, h4, h5⟩ := h
  refine ⟨h1.kept (World.grownBy_alloc wr o none) (by simp) (fun g hg => by cases hg), h2, h3, ?_, h5.alloc h5.size o⟩
  exact (World.cell?_of_block (a := ⟨w1.heap.size + 1, 12, none⟩) ((World.grownBy_alloc wr o none).block _ (World.block_lt_of_cell? wr _ h4) (by simp))).trans h4

/-- The keys that are waited on: each is a task's, and each task's is among them. -/
def Ids (ids : List ByteArray) (ts : Ts) : Prop := (∀ a ∈ ids, a.size ≤ maxLen ∧ ∃ s, (a.data.toList, s) ∈ ts) ∧ ∀ p ∈ ts, ∃ a ∈ ids, a.data.toList = p.1

theorem ids_nil : Ids [] [] := ⟨fun a h => (by cases h), fun p h => (by cases h)⟩
theorem ids_more {ids news : List ByteArray} {ts : Ts} {key : ByteArray} {st : List UInt8} (h : Ids ids ts) (hk : key.size ≤ maxLen) (hn : ∀ a ∈ news, a = key) (h0 : key ∈ news) : Ids (ids ++ news) (ts ++ [(key.data.toList, st)]) := by
  refine ⟨fun a ha => ?_, fun p hp => ?_⟩
  · rcases List.mem_append.1 ha with ha | ha
    · obtain ⟨h1, s, h2⟩ := h.1 a ha
      exact ⟨h1, s, List.mem_append_left _ h2⟩
    · rw [hn a ha]
      exact ⟨hk, st, List.mem_append_right _ (by simp)⟩
  · rcases List.mem_append.1 hp with hp | hp
    · obtain ⟨a, h1, h2⟩ := h.2 p hp
      exact ⟨a, List.mem_append_left _ h1, h2⟩
    · simp at hp
      subst hp
      exact ⟨key, List.mem_append_right _ h0, rfl⟩

end Go.Proofs.Qxb6003345a.WaitsFill
