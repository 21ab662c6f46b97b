import Derived.Test.Qxb6003345aRows
import Derived.WalkKit
import Derived.WalkSpells
import Derived.WalkLawsBesides
import Derived.Deep.QuietTactic
import Derived.BigQuiet
import Derived.Lib.Strings
import Derived.Lib.Slices
import Derived.Lib.Walk
import Derived.Lib.SlBytesRow
namespace Go.Proofs.Qxb6003345a.Word
open Go.RowKit

set_option maxHeartbeats 400000 in
theorem hp40 (s p : ByteArray) (w : World) :
    Calls Try.prog 40 #[.string s, .string p] w fun e w' => e = .returned (.bool (Lib.hasPrefix s.data.toList p.data.toList)) ∧ w' = w := by
  rw [← Lib.hasPrefix_of_take, ← Lib.size_eq, ← Lib.size_eq]
  go_enter Try.func40, Try.ntmps40
  go_wp2
  · rename_i h
    go_ret
    refine ⟨?_, rfl⟩
    show Ending.returned (Value.bool ((s.extract 0 p.size).toList == p.toList)) = _
    rw [Lib.extract_toList, Lib.toList_data]
    simp [h]
  · rename_i h
    go_ret
    refine ⟨?_, rfl⟩
    show Ending.returned (Value.bool false) = _
    simp [h]

set_option maxHeartbeats 400000 in
theorem hp38 (s p : ByteArray) (w : World) :
    Calls Try.prog 38 #[.string s, .string p] w fun e w' => e = .returned (.bool (Lib.hasPrefix s.data.toList p.data.toList)) ∧ w' = w := by
  go_enter Try.func38, Try.ntmps38
  go_wp2_with (go_at_call 40; refine (hp40 _ _ _).mono ?_; rintro e w' ⟨rfl, rfl⟩)
  go_ret
  exact ⟨rfl, rfl⟩

theorem below_drewN (B : Nat) (w : World) (n : Nat) : Below B w (w.drewN n) := ⟨rfl, rfl, rfl, Nat.le_refl _, fun _ _ => rfl⟩

set_option maxHeartbeats 400000 in
theorem word_yes (B i : Nat) (s p : ByteArray) (w : World) (hi : i ≤ s.size) (hs : s.size ≤ 1152921504606846976) (hps : p.size ≤ 1152921504606846976)
    (h1 : w.cell? ⟨B, 1, none⟩ = some (.string s)) (h2 : w.cell? ⟨B, 2, none⟩ = some (.int .i64 i)) (hf : w.frozen? ⟨B, 2, none⟩ = false)
    (hp : Lib.hasPrefix (List.take (s.size - i) (List.drop i s.data.toList)) p.data.toList = true) :
    Calls Try.prog 35 #[.pointer (some ⟨B, 0, none⟩), .string p] w fun e w' => e = .returned (.bool true) ∧ w'.cell? ⟨B, 2, none⟩ = some (.int .i64 ((i : Int) + p.size)) ∧ Below B w w' := by
  go_enter Try.func35, Try.ntmps35
  go_wp2_with fail
  go_quiet ((go_at_call 38; exact Calls.quiet_of_same (hp38 _ _ _)))
  go_wp2
  go_ret
  refine ⟨rfl, ?_, (below_drewN B w nq).setCell (p := ⟨B, 2, none⟩) (Nat.le_refl _) _⟩
  exact World.cell?_setCell_same (u := .int .i64 i) _ _ _ (by simpa using h2)

set_option maxHeartbeats 400000 in
theorem word_no (B i : Nat) (s p : ByteArray) (w : World) (hi : i ≤ s.size)
    (h1 : w.cell? ⟨B, 1, none⟩ = some (.string s)) (h2 : w.cell? ⟨B, 2, none⟩ = some (.int .i64 i))
    (hp : Lib.hasPrefix (List.take (s.size - i) (List.drop i s.data.toList)) p.data.toList = false) :
    Calls Try.prog 35 #[.pointer (some ⟨B, 0, none⟩), .string p] w fun e w' => e = .returned (.bool false) ∧ w'.cell? ⟨B, 2, none⟩ = some (.int .i64 i) ∧ Below B w w' := by
  go_enter Try.func35, Try.ntmps35
  go_wp2_with fail
  go_quiet ((go_at_call 38; exact Calls.quiet_of_same (hp38 _ _ _)))
  go_wp2
  go_ret
  exact ⟨rfl, by simpa using h2, below_drewN _ _ _⟩

set_option maxHeartbeats 400000 in
/-- ZZParserWord: the word is next. -/
theorem zzword_yes (b o i n cap : Nat) (s p : ByteArray) (w : World) (hn : n = s.size) (hi : i ≤ s.size) (hs : s.size ≤ 1152921504606846976) (hps : p.size ≤ 1152921504606846976)
    (hc : Lib.Bytes w b o s)
    (hp : Lib.hasPrefix (List.take (s.size - i) (List.drop i s.data.toList)) p.data.toList = true) :
    Calls Try.prog 21 #[.slice (some ⟨b, o, none⟩) n cap, .int .i64 i, .string p] w fun e w' => e = .returned (.tuple #[.bool true, .int .i64 ((i : Int) + p.size)]) ∧ Below w.heap.size w w' := by
  subst hn
  have hcv := Lib.run_convert_whole (P := Try.prog) w 22 5 9 Try.underlying22 Try.underlying5 Try.underlying9 b o s hc cap
  clear hc
  go_enter Try.func21, Try.ntmps21
  go_wp2_with fail
  refine (word_yes _ i s p _ hi hs hps ?h1 ?h2 ?hf hp).mono ?_
  case h1 => simp
  case h2 => simp
  case hf => simp
  rintro e w' ⟨rfl, hcl, hb⟩
  go_wp2
  go_quiet (fail)
  go_wp2
  go_ret2
  exact ⟨rfl, ((Below.refl _ _).alloc (Nat.le_refl _) _).trans (hb.trans (below_drewN _ _ _))⟩

set_option maxHeartbeats 400000 in
/-- ZZParserWord: the word is not next. -/
theorem zzword_no (b o i n cap : Nat) (s p : ByteArray) (w : World) (hn : n = s.size) (hi : i ≤ s.size)
    (hc : Lib.Bytes w b o s)
    (hp : Lib.hasPrefix (List.take (s.size - i) (List.drop i s.data.toList)) p.data.toList = false) :
    Calls Try.prog 21 #[.slice (some ⟨b, o, none⟩) n cap, .int .i64 i, .string p] w fun e w' => e = .returned (.tuple #[.bool false, .int .i64 (i : Int)]) ∧ Below w.heap.size w w' := by
  subst hn
  have hcv := Lib.run_convert_whole (P := Try.prog) w 22 5 9 Try.underlying22 Try.underlying5 Try.underlying9 b o s hc cap
  clear hc
  go_enter Try.func21, Try.ntmps21
  go_wp2_with fail
  refine (word_no _ i s p _ hi ?h1 ?h2 hp).mono ?_
  case h1 => simp
  case h2 => simp
  rintro e w' ⟨rfl, hcl, hb⟩
  go_wp2
  go_quiet (fail)
  go_wp2
  go_ret2
  exact ⟨rfl, ((Below.refl _ _).alloc (Nat.le_refl _) _).trans (hb.trans (below_drewN _ _ _))⟩

set_option maxHeartbeats 400000 in
theorem zz_yes (a b c d : ByteArray) (w : World) (h : a.size + b.size + c.size + d.size ≤ 1048576) :
    Calls Try.prog 20 #[.string a, .string b, .string c, .string d] w fun e w' => e = .returned (.bool true) ∧ w' = w := by
  go_enter Try.func20, Try.ntmps20
  go_wp2
  go_ret
  exact ⟨rfl, rfl⟩

set_option maxHeartbeats 1000000 in
theorem zz_no (a b c d : ByteArray) (w : World) (h : ¬ a.size + b.size + c.size + d.size ≤ 1048576) :
    Calls Try.prog 20 #[.string a, .string b, .string c, .string d] w fun e w' => e = .returned (.bool false) ∧ w' = w := by
  go_enter Try.func20, Try.ntmps20
  go_wp2
  all_goals (go_ret; exact ⟨rfl, rfl⟩)


/-- '[]byte(s)': a new row that holds the bytes; below it nothing turns. -/
theorem conv_bytes (w : World) (s : ByteArray) : ∃ cap w1, (convert 9 22 (.string s)).run Try.prog w = .ok (.slice (some ⟨w.heap.size, 0, none⟩) s.size cap) w1 ∧ Lib.Bytes w1 w.heap.size 0 s ∧ Below w.heap.size w w1 ∧ w.heap.size < w1.heap.size := by
  refine ⟨_, _, run_bytes_of_string w 9 22 5 s Try.underlying9 Try.underlying22 Try.underlying5, ?_, ?_, ?_⟩
  · intro i hi
    have := World.cell?_alloc_mark w.drew (bytesRow s (grownCap w s.size 0 5)) 5 ((bytesRow s (grownCap w s.size 0 5)).size, (bytesRow s (grownCap w s.size 0 5)).size + 1) (0 + i)
    refine this.trans ?_
    simp [bytesRow, Array.getElem?_append, hi]
    rfl
  · exact (Below.refl _ _).drew.alloc (Nat.le_refl _) _
  · show w.heap.size < (w.heap.push _).size
    simp

theorem bytes_later {w w1 : World} {b o : Nat} {s : ByteArray} {B : Nat} (h : Lib.Bytes w b o s) (hb : Below B w w1) (hB : b < B) : Lib.Bytes w1 b o s := fun i hi => (hb.cell hB).trans (h i hi)

/-! ### The plain law -/
theorem data_app (a b c : ByteArray) : (a ++ b ++ c).data.toList = a.data.toList ++ (b.data.toList ++ c.data.toList) := by simp

theorem rest_eq (a b c : ByteArray) : List.take ((a ++ b ++ c).size - a.size) (List.drop a.size (a ++ b ++ c).data.toList) = b.data.toList ++ c.data.toList := by
  rw [data_app]
  have e : a.size = a.data.toList.length := by simp
  rw [e, List.drop_left]
  apply List.take_of_length_le
  simp [ByteArray.size_append]
  omega

theorem plain_yes (a b c : ByteArray) : Lib.hasPrefix (List.take ((a ++ b ++ c).size - a.size) (List.drop a.size (a ++ b ++ c).data.toList)) b.data.toList = true := by
  rw [rest_eq]
  simp [Lib.hasPrefix]

theorem plain_x (a b c x : ByteArray) (hx : x.size = 1) : Lib.hasPrefix (List.take ((a ++ b ++ c).size - a.size) (List.drop a.size (a ++ b ++ c).data.toList)) (b ++ c ++ x).data.toList = false := by
  rw [rest_eq, ← Lib.hasPrefix_of_take]
  have e : ¬ (b ++ c ++ x).data.toList.length ≤ (b.data.toList ++ c.data.toList).length := by simp; omega
  simp only [e, decide_false, Bool.false_and]

theorem plain_no (a b c d : ByteArray) (h : b.size + c.size < d.size) : Lib.hasPrefix (List.take ((a ++ b ++ c).size - a.size) (List.drop a.size (a ++ b ++ c).data.toList)) d.data.toList = false := by
  rw [rest_eq, ← Lib.hasPrefix_of_take]
  have e : ¬ d.data.toList.length ≤ (b.data.toList ++ c.data.toList).length := by simp; omega
  simp only [e, decide_false, Bool.false_and]

end Go.Proofs.Qxb6003345a.Word
