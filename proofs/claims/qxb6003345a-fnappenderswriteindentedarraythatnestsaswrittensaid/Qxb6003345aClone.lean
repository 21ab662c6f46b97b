import Derived.Test.Qxb6003345aRows
import Derived.WalkKit
import Derived.WalkSpells
import Derived.WalkLawsBesides
import Derived.Laws.CopyOwn
namespace Go.Proofs.Qxb6003345a.Clone
open Go.RowKit

theorem info5 : (Try.prog.info? 5).map (fun i => (i.zero, i.size, i.bytes)) = some (some (.int .u8 0), 1, 1) := by kernel_rfl
theorem info9 : (Try.prog.info? 9).map (fun i => (i.zero, i.size, i.bytes)) = some (some (.string ByteArray.empty), 1, 16) := by kernel_rfl
theorem size5 : (Try.prog.info? 5).map (·.size) = some 1 := by kernel_rfl
theorem size9 : (Try.prog.info? 9).map (·.size) = some 1 := by kernel_rfl

/-- The slice at q reads, in w, as the cells cs, in a block from B on. -/
def Reads (B : Nat) (w : World) (q : Option Addr) (cs : List Value) : Prop :=
  ∃ g, (0 < cs.length → q = some ⟨g, 0, none⟩ ∧ B ≤ g ∧ g < w.heap.size) ∧ ∀ j v, cs[j]? = some v → w.cell? ⟨g, j, none⟩ = some v

theorem Reads.later {B B' : Nat} {w w' : World} {q : Option Addr} {cs : List Value} (h : Reads B w q cs) (hb : Below B' w w') (hB : w.heap.size ≤ B') : Reads B w' q cs := by
  obtain ⟨g, h1, h2⟩ := h
  refine ⟨g, fun hp => ?_, fun j v hj => ?_⟩
  · obtain ⟨a, b, c⟩ := h1 hp
    exact ⟨a, b, Nat.lt_of_lt_of_le c hb.size⟩
  · have hp : 0 < cs.length := by have := (List.getElem?_eq_some_iff.1 hj).1; omega
    obtain ⟨_, _, c⟩ := h1 hp
    exact (hb.cell (p := ⟨g, j, none⟩) (Nat.lt_of_lt_of_le c hB)).trans (h2 j v hj)

theorem own_block {w : World} {base e g n : Nat} {xs : List Value} (h : w.ownsRow base e 1 (.slice (some ⟨g, 0, none⟩) n n) n xs) : ∃ cur : List Value, w.heap[g]? = some (.cells cur.toArray e (0, 0)) ∧ cur.length = n := by
  obtain ⟨_, ⟨h1, _⟩ | ⟨g', cap, cur, hv, _, hh, _, _, hs, _⟩⟩ := h
  · cases h1
  · injection hv with e1 e2 e3
    injection e1 with e1
    injection e1 with e1 _ _
    subst e1; subst e3
    exact ⟨cur.toList, by simpa using hh, by simpa using hs⟩

theorem block_lt {w : World} {g : Nat} {o : Obj} (h : w.heap[g]? = some o) : g < w.heap.size := (Array.getElem?_eq_some_iff.1 h).1

/-- 'copy(c, b)' into a row that the call has just made, b at an address, as long as c. -/
theorem copy_run {w0 w1 : World} {B T E g n cap : Nat} {x : Addr} {cur cs : List Value} (hu : Try.prog.underlying T = some (.slice E)) (hsz : (Try.prog.info? E).map (·.size) = some 1)
    (hg : w1.heap[g]? = some (.cells cur.toArray E (0, 0))) (hcl : cur.length = n) (hn : cs.length = n) (hsrc : ∀ j v, cs[j]? = some v → w1.cell? (x.add j) = some v) (h1 : ∀ v ∈ cs, v.oneCell' = true) (hb : Below B w0 w1) (hB : B ≤ g) :
    ∃ w2, (Builtin.copy_ #[T, T] 3 #[.slice (some ⟨g, 0, none⟩) n n, .slice (some x) n cap]).run Try.prog w1 = .ok (goInt n) w2 ∧ w2.heap[g]? = some (.cells cs.toArray E (0, 0)) ∧ Below B w0 w2 := by
  by_cases h0 : n = 0
  · subst h0
    have e1 : cs = [] := List.eq_nil_of_length_eq_zero hn
    have e2 : cur = [] := List.eq_nil_of_length_eq_zero hcl
    subst e1 e2
    exact ⟨w1, run_copy_none (P := Try.prog) w1 T T 3 E _ _ 0 0 0 cap hu hsz rfl, hg, hb⟩
  · have hrun := run_copy_row (P := Try.prog) w1 T T 3 E g 0 n n x n cap cur.toArray E cs hu hsz hg (by rw [hn]; exact (Nat.min_self n).symm) hsrc (by simp [hn, hcl]) h1
    rw [hn] at hrun
    refine ⟨_, hrun, ?_, below_setRow hb hB _⟩
    have e1 : (cur.toArray.toList.take 0 ++ cs ++ cur.toArray.toList.drop (0 + n)) = cs := by simp [← hcl]
    rw [e1]
    simpa using setRow_heap w1 g _ _ E _ hg

theorem row_cell {w : World} {g e : Nat} {cs : List Value} (h : w.heap[g]? = some (.cells cs.toArray e (0, 0))) : ∀ j v, cs[j]? = some v → w.cell? ⟨g, j, none⟩ = some v := by
  intro j v hj
  simp [World.cell?, h, hj]

set_option maxHeartbeats 400000 in
theorem clone_nil (w : World) : Calls Try.prog 10 #[.slice none 0 0] w fun e w' => e = .returned (.slice none 0 0) ∧ w' = w := by
  have hq : ∀ (w : World) (a : Option Addr) (n c : Nat), (binOp .eql 22 (.slice a n c) (.slice none 0 0)).run Try.prog w = .ok (.bool a.isNone) w := fun w a n c => Lib.run_eql_slice_nil w _ _ a n c 0 0 Try.underlying22
  go_enter Try.func10, Try.ntmps10
  go_wp2
  go_ret
  exact ⟨rfl, rfl⟩

set_option maxHeartbeats 400000 in
theorem clone_some (w : World) (x : Addr) (n cap : Nat) (cs : List Value) (hn : cs.length = n) (hlen : n ≤ 1048576) (hc : ∀ j v, cs[j]? = some v → w.cell? (x.add j) = some v) (h1 : ∀ v ∈ cs, v.oneCell' = true) :
    Calls Try.prog 10 #[.slice (some x) n cap] w fun e w' => e = .returned (.slice (some ⟨w.heap.size, 0, none⟩) n n) ∧ w'.heap[w.heap.size]? = some (.cells cs.toArray 5 (0, 0)) ∧ Below w.heap.size w w' := by
  obtain ⟨i0, hi, hz0, hz1, hz2⟩ := info_parts info5
  have hq : ∀ (w : World) (a : Option Addr) (n c : Nat), (binOp .eql 22 (.slice a n c) (.slice none 0 0)).run Try.prog w = .ok (.bool a.isNone) w := fun w a n c => Lib.run_eql_slice_nil w _ _ a n c 0 0 Try.underlying22
  have HN : Hid (cs.length = n) := hn
  clear hn
  go_enter Try.func10, Try.ntmps10
  go_wp2_with (at_make; refine wpList_make_full _ rfl (.tmp 7) (.tmp 7) 22 rfl w.heap.size 5 i0 (.int .u8 0) 1 Try.underlying22 hi hz0 hz1 .i64 .i64 _ _ n rfl rfl rfl rfl (by rw [hz2]; omega) (by unfold maxLen; omega) (Nat.le_refl _) ?_; intro w1 hown hg)
  obtain ⟨cur, hcur, hcl⟩ := own_block hown
  have hb1 := (Below.refl w.heap.size w).grown hg (Nat.le_refl _) (by simp)
  obtain ⟨w2, hrun, hrow, hb2⟩ := copy_run (cap := cap) Try.underlying22 size5 hcur hcl HN.out (fun j v hj => hg.cell (hc j v hj) (by simp)) h1 hb1 (Nat.le_refl _)
  rw [hrun]
  clear hrun hcur hown hg hc
  go_wp2
  go_ret
  exact ⟨rfl, hrow, hb2⟩

set_option maxHeartbeats 400000 in
theorem clone_nilS (w : World) : Calls Try.prog 27 #[.slice none 0 0] w fun e w' => e = .returned (.slice none 0 0) ∧ w' = w := by
  have hq : ∀ (w : World) (a : Option Addr) (n c : Nat), (binOp .eql 41 (.slice a n c) (.slice none 0 0)).run Try.prog w = .ok (.bool a.isNone) w := fun w a n c => Lib.run_eql_slice_nil w _ _ a n c 0 0 Try.underlying41
  go_enter Try.func27, Try.ntmps27
  go_wp2
  go_ret
  exact ⟨rfl, rfl⟩

set_option maxHeartbeats 400000 in
theorem clone_someS (w : World) (x : Addr) (n cap : Nat) (cs : List Value) (hn : cs.length = n) (hlen : n ≤ 1048576) (hc : ∀ j v, cs[j]? = some v → w.cell? (x.add j) = some v) (h1 : ∀ v ∈ cs, v.oneCell' = true) :
    Calls Try.prog 27 #[.slice (some x) n cap] w fun e w' => e = .returned (.slice (some ⟨w.heap.size, 0, none⟩) n n) ∧ w'.heap[w.heap.size]? = some (.cells cs.toArray 9 (0, 0)) ∧ Below w.heap.size w w' := by
  obtain ⟨i0, hi, hz0, hz1, hz2⟩ := info_parts info9
  have hq : ∀ (w : World) (a : Option Addr) (n c : Nat), (binOp .eql 41 (.slice a n c) (.slice none 0 0)).run Try.prog w = .ok (.bool a.isNone) w := fun w a n c => Lib.run_eql_slice_nil w _ _ a n c 0 0 Try.underlying41
  have HN : Hid (cs.length = n) := hn
  clear hn
  go_enter Try.func27, Try.ntmps27
  go_wp2_with (at_make; refine wpList_make_full _ rfl (.tmp 7) (.tmp 7) 41 rfl w.heap.size 9 i0 (.string ByteArray.empty) 1 Try.underlying41 hi hz0 hz1 .i64 .i64 _ _ n rfl rfl rfl rfl (by rw [hz2]; omega) (by unfold maxLen; omega) (Nat.le_refl _) ?_; intro w1 hown hg)
  obtain ⟨cur, hcur, hcl⟩ := own_block hown
  have hb1 := (Below.refl w.heap.size w).grown hg (Nat.le_refl _) (by simp)
  obtain ⟨w2, hrun, hrow, hb2⟩ := copy_run (cap := cap) Try.underlying41 size9 hcur hcl HN.out (fun j v hj => hg.cell (hc j v hj) (by simp)) h1 hb1 (Nat.le_refl _)
  rw [hrun]
  clear hrun hcur hown hg hc
  go_wp2
  go_ret
  exact ⟨rfl, hrow, hb2⟩

/-- What is told of a slice that came in: it is nil; or its cells lie from x on. -/
def Came (w : World) (p : Option Addr) (n cap : Nat) (cs : List Value) : Prop :=
  cs.length = n ∧ (∀ v ∈ cs, v.oneCell' = true) ∧ ((p = none ∧ n = 0 ∧ cap = 0) ∨ ∃ x, p = some x ∧ ∀ j v, cs[j]? = some v → w.cell? (x.add j) = some v)

theorem reads_row {w : World} {B E : Nat} {cs : List Value} (h : w.heap[B]? = some (.cells cs.toArray E (0, 0))) : Reads B w (some ⟨B, 0, none⟩) cs :=
  ⟨B, fun _ => ⟨rfl, Nat.le_refl _, block_lt h⟩, row_cell h⟩

/-- zzCloneBytes at whatever slice. -/
theorem clone_any (w : World) (p : Option Addr) (n cap : Nat) (cs : List Value) (h : Came w p n cap cs) (hlen : n ≤ 1048576) :
    Calls Try.prog 10 #[.slice p n cap] w fun e w' => ∃ q c, e = .returned (.slice q n c) ∧ Reads w.heap.size w' q cs ∧ (q = none → n = 0 ∧ c = 0) ∧ Below w.heap.size w w' := by
  obtain ⟨hn, h1, ⟨rfl, rfl, rfl⟩ | ⟨x, rfl, hc⟩⟩ := h
  · refine (clone_nil w).mono ?_
    rintro e w' ⟨rfl, rfl⟩
    exact ⟨none, 0, rfl, ⟨0, fun h => by omega, fun j v hj => by rw [List.eq_nil_of_length_eq_zero hn] at hj; simp at hj⟩, fun _ => ⟨rfl, rfl⟩, Below.refl _ _⟩
  · refine (clone_some w x n cap cs hn hlen hc h1).mono ?_
    rintro e w' ⟨rfl, hrow, hb⟩
    exact ⟨_, _, rfl, reads_row hrow, fun h => (by cases h), hb⟩

/-- zzCloneStrings at whatever slice. -/
theorem clone_anyS (w : World) (p : Option Addr) (n cap : Nat) (cs : List Value) (h : Came w p n cap cs) (hlen : n ≤ 1048576) :
    Calls Try.prog 27 #[.slice p n cap] w fun e w' => ∃ q c, e = .returned (.slice q n c) ∧ Reads w.heap.size w' q cs ∧ (q = none → n = 0 ∧ c = 0) ∧ Below w.heap.size w w' := by
  obtain ⟨hn, h1, ⟨rfl, rfl, rfl⟩ | ⟨x, rfl, hc⟩⟩ := h
  · refine (clone_nilS w).mono ?_
    rintro e w' ⟨rfl, rfl⟩
    exact ⟨none, 0, rfl, ⟨0, fun h => by omega, fun j v hj => by rw [List.eq_nil_of_length_eq_zero hn] at hj; simp at hj⟩, fun _ => ⟨rfl, rfl⟩, Below.refl _ _⟩
  · refine (clone_someS w x n cap cs hn hlen hc h1).mono ?_
    rintro e w' ⟨rfl, hrow, hb⟩
    exact ⟨_, _, rfl, reads_row hrow, fun h => (by cases h), hb⟩

end Go.Proofs.Qxb6003345a.Clone
