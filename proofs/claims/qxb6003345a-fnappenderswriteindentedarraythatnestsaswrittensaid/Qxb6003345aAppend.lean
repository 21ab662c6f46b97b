import Derived.Test.Qxb6003345aClone
import Derived.Lib.AppendStr
import Derived.Lib.SlBytesRow
namespace Go.Proofs.Qxb6003345a.Append
open Go.RowKit

/-- A byte as a cell. -/
def bc (c : UInt8) : Value := .int .u8 (c.toNat : Int)
theorem strCells_bc (L : List UInt8) : Lib.strCells ⟨L.toArray⟩ = L.map bc := rfl
theorem bc_one (l : List UInt8) : ∀ u ∈ l.map bc, u.oneCell' = true := by
  intro u hu
  obtain ⟨c, _, rfl⟩ := List.mem_map.1 hu
  rfl

/-- append(data, s...), s a string, within the capacity. -/
theorem run_append_fits_str (w : World) (base g n cap : Nat) (xs : List Value) (hown : w.ownsRow base 5 1 (.slice (some ⟨g, 0, none⟩) n cap) n xs) (s : ByteArray) (hroom : n + s.size ≤ cap) (ty : TypeId) :
    ∃ w', (Builtin.append_ #[22, 9] ty #[.slice (some ⟨g, 0, none⟩) n cap, .string s]).run Try.prog w = .ok (.slice (some ⟨g, 0, none⟩) (n + s.size) cap) w' ∧
      w'.ownsRow base 5 1 (.slice (some ⟨g, 0, none⟩) (n + s.size) cap) (n + s.size) (xs ++ Lib.strCells s) ∧ w.grownBy w' (some g) := by
  obtain ⟨i0, hi, hz0, hz1, hz2⟩ := info_parts Clone.info5
  have hlen : (xs ++ Lib.strCells s).length = (n + s.size) * 1 := by rw [List.length_append, hown.1, Lib.strCells_length, Nat.mul_one, Nat.mul_one]
  rcases hown.2 with ⟨h, _⟩ | ⟨g', cap', cur, h, hbg, hg, hnc, hcm, hcs, htake⟩
  · simp at h
  · simp only [Value.slice.injEq, Option.some.injEq, Addr.mk.injEq, and_true, true_and] at h
    obtain ⟨rfl, rfl⟩ := h
    have hr := Lib.run_append_room_string (P := Try.prog) w 22 9 ty 5 i0 Try.underlying22 Try.underlying9 hi hz1 g n cap cur hg s hroom (by omega)
    refine ⟨_, hr, ⟨hlen, .inr ⟨g, cap, _, rfl, hbg, setRow_heap w g cur _ 5 _ hg, hroom, hcm, ?_, ?_⟩⟩, ⟨rfl, rfl, rfl, by simp, fun k _ hk => setRow_other w g k _ (fun e => hk (by simp [e]))⟩⟩
    · simp only [List.size_toArray, List.length_append, List.length_take, List.length_drop, Array.length_toList, Lib.strCells_length]
      omega
    · rw [Nat.mul_one] at htake
      rw [htake, ← hlen]
      exact List.take_left

theorem append_fits_str {w : World} {ops : Array Oper} {rest : List Oper} {o : Oper} {a : Act} {Q : Exit → Act → World → Prop}
    (hg : o.guard = none) (s x : Operand) (hop : o.op = Op.call { callee := Callee.builtin Builtin.append, args := #[s, x], argTypes := #[22, 9] })
    (base g k cap : Nat) (xs : List Value) (hs : a.eval s = .slice (some ⟨g, 0, none⟩) k cap) (hown : w.ownsRow base 5 1 (.slice (some ⟨g, 0, none⟩) k cap) k xs) (str : ByteArray) (hx : a.eval x = .string str) (b1 : k + str.size ≤ cap)
    (hK : ∀ w', w'.ownsRow base 5 1 (.slice (some ⟨g, 0, none⟩) (k + str.size) cap) (k + str.size) (xs ++ Lib.strCells str) → w.grownBy w' (some g) → wpList Try.prog ops Q rest (a.put o.dst (.slice (some ⟨g, 0, none⟩) (k + str.size) cap)) w') :
    wpList Try.prog ops Q (o :: rest) a w := by
  refine wpList_plain hg fun K hK' => ?_
  obtain ⟨w', hrun, r1, r2⟩ := run_append_fits_str w base g k cap xs hown str b1 o.type
  unfold Oper.wp
  simp [execOp, hop, resolve, invoke, builtin, hs, hx, hrun, Result.andThen]
  exact hK' _ _ (hK w' r1 r2)

/-- The bytes of a row that the call owns. -/
theorem bytes_of_owned {w : World} {base g n cap : Nat} {l : List UInt8} (h : w.ownsRow base 5 1 (.slice (some ⟨g, 0, none⟩) n cap) n (l.map bc)) : Lib.Bytes w g 0 ⟨l.toArray⟩ := by
  intro i hi
  have hl : l.length = n := by have := h.1; simpa using this
  have hi' : i < l.length := hi
  have := h.cellAt i (by omega)
  rw [Nat.zero_add, this, List.getElem?_map, List.getElem?_eq_getElem hi']
  rfl

/-- What 'append(data, b...)' asks of a slice that reads as bytes. -/
theorem reads_news {B : Nat} {w : World} {q : Option Addr} {l : List UInt8} (h : Clone.Reads B w q (l.map bc)) : ∀ ad, q = some ad → ∀ j u, (l.map bc)[j]? = some u → w.cell? (ad.add j) = some u := by
  intro ad he j u hj
  obtain ⟨g, h1, h2⟩ := h
  have hp : 0 < (l.map bc).length := by have := (List.getElem?_eq_some_iff.1 hj).1; omega
  obtain ⟨e, _, _⟩ := h1 hp
  rw [he] at e
  cases e
  rw [Addr.add_lit, Nat.zero_add]
  exact h2 j u hj

/-- WHAT THE WALK IS TOLD OF A SLICE OF BYTES THAT CAME IN: it is nil; or it leads to a row of 'cap' cells, the numbers 'zs' (the first 'len' are its elements), each a byte. -/
def IsRow (k : IntKind) (w : World) (a : Option Addr) (len cap : Nat) (zs : List Int) : Prop :=
  (a = none ∧ len = 0 ∧ cap = 0 ∧ zs = []) ∨
  ∃ x, a = some x ∧ len ≤ cap ∧ cap ≤ maxLen ∧ zs.length = cap ∧ (∀ i, i < zs.length → w.cell? (x.add i) = some (.int k (zs.getD i 0))) ∧ ∀ n ∈ zs, (Lit.int k n).wf = true

/-- The same, of its elements alone, as bytes; and where its head lies. -/
def Bytes (w : World) (a : Option Addr) (len cap : Nat) (l : List UInt8) : Prop :=
  len ≤ maxLen ∧ Clone.Came w a len cap (l.map bc) ∧ ∀ c r, l = c :: r → ∃ b off, a = some ⟨b, off, none⟩ ∧ w.cell? ⟨b, off, none⟩ = some (bc c)

theorem bytes_of_row {w : World} {a : Option Addr} {len cap : Nat} {zs : List Int} (h : IsRow .u8 w a len cap zs) : ∃ l, Bytes w a len cap l := by
  rcases h with ⟨rfl, rfl, rfl, rfl⟩ | ⟨x, rfl, hlc, hm, hz, hc, hw⟩
  · exact ⟨[], Nat.zero_le _, ⟨rfl, bc_one [], Or.inl ⟨rfl, rfl, rfl⟩⟩, fun c r h => by cases h⟩
  · have hl : ((zs.take len).map fun n => UInt8.ofNat n.toNat).length = len := by rw [List.length_map, List.length_take]; omega
    have hcell : ∀ j v, (((zs.take len).map fun n => UInt8.ofNat n.toNat).map bc)[j]? = some v → w.cell? (x.add j) = some v := by
      intro j v hj
      have hj1 := (List.getElem?_eq_some_iff.1 hj).1
      rw [List.length_map, hl] at hj1
      have hzj : zs[j]? = some (zs[j]'(by omega)) := List.getElem?_eq_getElem _
      rw [List.getElem?_map, List.getElem?_map, List.getElem?_take_of_lt hj1, hzj] at hj
      have hj : bc (UInt8.ofNat (zs[j]'(by omega)).toNat) = v := by simpa using hj
      rw [hc j (by omega), ← hj]
      have hwf := hw _ (List.getElem_mem (l := zs) (n := j) (by omega))
      have hb : 0 ≤ zs[j]'(by omega) ∧ zs[j]'(by omega) ≤ 255 := by simpa [Lit.wf, IntKind.min, IntKind.max, IntKind.bits, IntKind.signed] using hwf
      have e2 : zs.getD j 0 = zs[j]'(by omega) := by simp [List.getD, hzj]
      rw [e2]
      unfold bc
      congr 2
      simp
      omega
    refine ⟨(zs.take len).map fun n => UInt8.ofNat n.toNat, by omega, ⟨by rw [List.length_map, hl], bc_one _, Or.inr ⟨x, rfl, hcell⟩⟩, fun c r he => ?_⟩
    have h0 := hcell 0 (bc c) (by rw [he]; rfl)
    obtain ⟨b, off, spot⟩ := x
    have hspot : spot = none := by simpa [Addr.add] using World.cell?_spot h0
    subst hspot
    exact ⟨b, off, rfl, by simpa [Addr.add] using h0⟩

end Go.Proofs.Qxb6003345a.Append
