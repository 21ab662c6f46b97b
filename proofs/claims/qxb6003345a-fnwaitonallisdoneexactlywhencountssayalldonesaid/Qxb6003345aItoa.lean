import Derived.Test.Qxb6003345aRows
import Derived.WalkKit
import Derived.WalkSpells
import Derived.WalkLawsBesides
namespace Go.Proofs.Qxb6003345a.Itoa
open Go.RowKit

/-- The number that a row of decimal digits says. -/
def decVal (l : List UInt8) : Nat := l.foldl (fun a c => a * 10 + (c.toNat - 48)) 0

theorem foldl_from (l : List UInt8) : ∀ a : Nat, l.foldl (fun a c => a * 10 + (c.toNat - 48)) a = a * 10 ^ l.length + decVal l := by
  unfold decVal
  induction l with
  | nil => intro a; simp
  | cons c r ih =>
    intro a
    simp only [List.foldl_cons, List.length_cons]
    rw [ih, ih (0 * 10 + (c.toNat - 48)), Nat.pow_succ, Nat.add_mul, Nat.mul_assoc, Nat.mul_comm 10 (10 ^ r.length), Nat.zero_mul, Nat.zero_add]
    omega

theorem decVal_cons (c : UInt8) (r : List UInt8) : decVal (c :: r) = (c.toNat - 48) * 10 ^ r.length + decVal r := by
  have := foldl_from r (0 * 10 + (c.toNat - 48))
  simp only [decVal, List.foldl_cons] at this ⊢
  rw [this]
  simp

def allDig (l : List UInt8) : Prop := ∀ c ∈ l, 48 ≤ c.toNat ∧ c.toNat ≤ 57

/-- The next digit ahead of the row. -/
def dg (v : Nat) : UInt8 := UInt8.ofNat (48 + v % 10)
theorem dg_nat (v : Nat) : (dg v).toNat = 48 + v % 10 := by unfold dg; simp; omega

theorem step_val {v cur : Nat} {L : List UInt8} (h : cur * 10 ^ L.length + decVal L = v) : cur / 10 * 10 ^ (dg cur :: L).length + decVal (dg cur :: L) = v := by
  rw [decVal_cons, dg_nat, List.length_cons, Nat.pow_succ, ← h]
  have e : cur = cur / 10 * 10 + cur % 10 := by omega
  have e2 : 48 + cur % 10 - 48 = cur % 10 := by omega
  rw [e2]
  conv => rhs; rw [e, Nat.add_mul]
  rw [Nat.mul_assoc, Nat.mul_comm 10 (10 ^ L.length)]
  omega

theorem step_dig {cur : Nat} {L : List UInt8} (h : allDig L) : allDig (dg cur :: L) := by
  intro c hc
  rcases List.mem_cons.1 hc with rfl | hc
  · rw [dg_nat]; omega
  · exact h c hc

theorem room {v cur : Nat} {L : List UInt8} (h : cur * 10 ^ L.length + decVal L = v) (hv : v < 18446744073709551616) (hc : 0 < cur) (hL : L.length ≤ 20) : L.length < 20 := by
  rcases Nat.lt_or_ge L.length 20 with h1 | h1
  · exact h1
  · have : L.length = 20 := by omega
    rw [this] at h
    omega

/-- The row of twenty cells, its last ones the digits L. -/
def Buf (w : World) (B : Nat) (L : List UInt8) : Prop :=
  (∀ j, j < 20 → (∃ u, w.cell? ⟨B, j, none⟩ = some u) ∧ w.frozen? ⟨B, j, none⟩ = false) ∧ ∀ j (h : j < L.length), w.cell? ⟨B, 20 - L.length + j, none⟩ = some (.int .u8 (L[j].toNat : Int))

theorem Buf.step {w : World} {B : Nat} {L : List UInt8} {m : Nat} (h : Buf w B L) (hm : m + L.length = 20) (h0 : 0 < m) (c : UInt8) : Buf (w.setCell ⟨B, m - 1, none⟩ (.int .u8 (c.toNat : Int))) B (c :: L) := by
  obtain ⟨u, hu⟩ := (h.1 (m - 1) (by omega)).1
  refine ⟨fun j hj => ⟨?_, ?_⟩, fun j hj => ?_⟩
  · by_cases e : j = m - 1
    · subst e
      exact ⟨_, World.cell?_setCell_same _ _ _ hu⟩
    · obtain ⟨u', hu'⟩ := (h.1 j hj).1
      refine ⟨u', ?_⟩
      rw [World.cell?_setCell_other _ _ _ _ (by intro e1; injection e1 with _ e1 _; omega)]
      exact hu'
  · rw [World.frozen?_setCell]
    exact (h.1 j hj).2
  · cases j with
    | zero =>
      have e : 20 - (c :: L).length + 0 = m - 1 := by simp; omega
      rw [e]
      exact World.cell?_setCell_same _ _ _ hu
    | succ j =>
      have e : 20 - (c :: L).length + (j + 1) = 20 - L.length + j := by simp at hj ⊢; omega
      rw [e, World.cell?_setCell_other _ _ _ _ (by intro e1; injection e1 with _ e1 _; omega)]
      exact h.2 j (by simpa using hj)

theorem alen : Try.prog.arrayLen 64 = 20 := by kernel_rfl
theorem size5 (w : World) : (Go.sizeOf (Try.prog.elem 64)).run Try.prog w = .ok 1 w := by kernel_rfl

set_option maxHeartbeats 400000 in
theorem itoa_pos (v : Nat) (w : World) (hv0 : 0 < v) (hv : v < 18446744073709551616) :
    Calls Try.prog 18 #[.int .u64 v] w fun e w' => ∃ L : List UInt8, e = .returned (.string ⟨L.toArray⟩) ∧ L.length ≤ 20 ∧ allDig L ∧ decVal L = v ∧ Below w.heap.size w w' ∧ w.heap.size ≤ w'.heap.size := by
  have hne : ((v : Int) == 0) = false := by simp; omega
  go_enter Try.func18, Try.ntmps18
  go_wp2
  go_loopw [0, 4] (fun x i wr => ∃ (cur m : Nat) (L : List UInt8), x = .int .u64 cur ∧ i = .int .i64 m ∧ cur < 18446744073709551616 ∧ m + L.length = 20 ∧ allDig L ∧ cur * 10 ^ L.length + decVal L = v ∧ Buf wr w.heap.size L ∧ Below w.heap.size w wr)
    (fun x _ _ => (intOf x).toNat)
  case atStart =>
    refine ⟨v, 20, [], rfl, rfl, hv, rfl, ?_, by simp [decVal], ⟨fun j hj => ?_, fun j hj => by simp at hj⟩, (Below.refl _ _).alloc (Nat.le_refl _) _⟩
    · intro c hc; simp at hc
    · have e1 := fun (C : Array Value) => World.cell?_alloc_at (w := w) C 64 w.heap.size j rfl
      have e2 := fun (C : Array Value) => World.frozen?_alloc_at (w := w) C 64 w.heap.size j rfl
      refine ⟨⟨.int .u8 0, ?_⟩, e2 _⟩
      rw [e1]
      rcases j with _ | _ | _ | _ | _ | _ | _ | _ | _ | _ | _ | _ | _ | _ | _ | _ | _ | _ | _ | _ | j <;> first | rfl | omega
  case round =>
    obtain ⟨cur, m, L, rfl, rfl, hcur, hm, hd, hval, hbuf, hbel⟩ := hrel
    by_cases hlt : 0 < cur
    · have hr := room hval hv hlt (by omega)
      have hm0 : 0 < m := by omega
      have hm20 : m ≤ 20 := by omega
      obtain ⟨⟨u, hu⟩, hf⟩ := hbuf.1 (m - 1) (by omega)
      have HV : Hid (cur * 10 ^ L.length + decVal L = v) := hval
      have HM : Hid (m + L.length = 20) := hm
      clear hval hm
      go_wp2
      have hs : (wr.setCell ⟨w.heap.size, m - 1, none⟩ (.int .u8 (48 + (cur : Int) % 10))) = wr.setCell ⟨w.heap.size, m - 1, none⟩ (.int .u8 ((dg cur).toNat : Int)) := by rw [dg_nat]; congr 2
      rw [hs]
      go_roundw
      case rel => exact ⟨cur / 10, m - 1, dg cur :: L, by go_num, by go_num, by omega, by have := HM.out; simp; omega, step_dig hd, step_val HV.out, hbuf.step HM.out hm0 _, hbel.setCell (Nat.le_refl _) _⟩
      case measure => simp [intOf]; omega
    · have hc0 : cur = 0 := by omega
      subst hc0
      have hconv := run_convert_bytes_back (P := Try.prog) wr 22 9 5 ⟨w.heap.size, m, none⟩ L.length L Try.underlying22 Try.underlying5 Try.underlying9 (fun j hj => by
        have := hbuf.2 j hj
        rw [show 20 - L.length + j = m + j by omega] at this
        rw [Addr.add_lit]
        exact this)
      have hval' : decVal L = v := by simpa using hval
      have hm20 : (m : Int) < 20 := by
        rcases Nat.lt_or_ge m 20 with h | h
        · omega
        · have : L = [] := List.eq_nil_of_length_eq_zero (by omega)
          subst this
          simp [decVal] at hval'
          omega
      have HV : Hid (decVal L = v) := hval'
      have HM : Hid (m + L.length = 20) := hm
      have eL : 20 - m = L.length := by omega
      have hsl : (Instr.sliceAt 64 (.pointer (some ⟨w.heap.size, 0, none⟩)) (some (.int .i64 (m : Int))) none none).run Try.prog wr = .ok (.slice (some ⟨w.heap.size, m, none⟩) L.length L.length) wr := by
        rw [run_sliceAt_array_l wr 64 ⟨w.heap.size, 0, none⟩ (by kernel_rfl) .i64 m (by omega) (by rw [alen]; omega), size5]
        have hne2 : ¬ (20 = m) := by omega
        simp [Result.andThen, slicedAt, alen, eL, hne2, Addr.add_lit]
      clear hval hm hval' eL
      go_wp2
      go_ret
      exact ⟨L, rfl, by have := HM.out; omega, hd, HV.out, hbel, hbel.size⟩

set_option maxHeartbeats 400000 in
theorem itoa_zero (w : World) :
    Calls Try.prog 18 #[.int .u64 0] w fun e w' => e = .returned (.string ⟨#[48]⟩) ∧ w' = w := by
  go_enter Try.func18, Try.ntmps18
  go_wp2
  go_ret
  exact ⟨rfl, rfl⟩

/-- zzItoa: the decimal digits of v. -/
theorem itoa_any (v : Nat) (x : Int) (hx : x = (v : Int)) (w : World) (hv : v < 18446744073709551616) :
    Calls Try.prog 18 #[.int .u64 x] w fun e w' => ∃ L : List UInt8, e = .returned (.string ⟨L.toArray⟩) ∧ L.length ≤ 20 ∧ allDig L ∧ decVal L = v ∧ Below w.heap.size w w' ∧ w.heap.size ≤ w'.heap.size := by
  subst hx
  rcases Nat.eq_zero_or_pos v with h | h
  · subst h
    refine (itoa_zero w).mono ?_
    rintro e w' ⟨rfl, rfl⟩
    refine ⟨[48], rfl, by simp, ?_, rfl, Below.refl _ _, Nat.le_refl _⟩
    intro c hc
    simp at hc
    subst hc
    decide
  · exact itoa_pos v w h hv

end Go.Proofs.Qxb6003345a.Itoa
