import Derived.Test.Qxb6003345aAppend
import Derived.Test.Qxb6003345aNext
namespace Go.Proofs.Qxb6003345a.NextLaw
open Go.RowKit
open Go.Proofs.Qxb6003345a.Append Go.Proofs.Qxb6003345a.Next Go.Proofs.Qxb6003345a.Clone

/-! ### The plain law -/
/-- The white space that is written for a byte. -/
def wsb (x : UInt8) : UInt8 := if x.toNat % 4 = 0 then 32 else if x.toNat % 4 = 1 then 9 else if x.toNat % 4 = 2 then 10 else 13
theorem wsb_spc (x : UInt8) : spc (wsb x) = true := by
  unfold wsb
  split
  · rfl
  · split
    · rfl
    · split <;> rfl

/-- The text: what stands ahead, the white space, the token, what stands behind. -/
def txt (pre ws : List UInt8) (rest : List UInt8) : List UInt8 := pre ++ ws.map wsb ++ rest

theorem run_txt (pre ws : List UInt8) {rest : List UInt8} (h : ∀ c r, rest = c :: r → spc c = false) : run ((txt pre ws rest).drop pre.length) = ws.length := by
  have e : (txt pre ws rest).drop pre.length = ws.map wsb ++ rest := by
    unfold txt
    rw [List.append_assoc, List.drop_left]
  rw [e]
  unfold run
  have hall : ∀ c ∈ ws.map wsb, spc c = true := by
    intro c hc
    obtain ⟨x, _, rfl⟩ := List.mem_map.1 hc
    exact wsb_spc x
  rw [List.takeWhile_append_of_pos hall]
  have e2 : rest.takeWhile spc = [] := by
    cases rest with
    | nil => rfl
    | cons c r => simp [h c r rfl]
  rw [e2]
  simp

theorem hit_txt (pre ws : List UInt8) (rest : List UInt8) (d : UInt8) : hit ⟨(txt pre ws rest).toArray⟩ (pre.length + ws.length) d = (rest.head? == some d) := by
  unfold hit
  have e : (txt pre ws rest)[pre.length + ws.length]? = rest.head? := by
    unfold txt
    rw [List.getElem?_append_right (by simp)]
    simp [List.head?_eq_getElem?]
  show ((txt pre ws rest)[pre.length + ws.length]? == some d) = _
  rw [e]

theorem len_txt (pre ws rest : List UInt8) : (txt pre ws rest).length = pre.length + ws.length + rest.length := by simp [txt]; omega

theorem lit_wsb (x : UInt8) (h : x.toNat % 4 < (⟨#[32, 9, 10, 13]⟩ : ByteArray).size) : (⟨#[32, 9, 10, 13]⟩ : ByteArray)[x.toNat % 4] = wsb x := by
  unfold wsb
  have h4 : x.toNat % 4 < 4 := by omega
  generalize x.toNat % 4 = j at h h4 ⊢
  match j, h4 with
  | 0, _ => rfl
  | 1, _ => rfl
  | 2, _ => rfl
  | 3, _ => rfl

theorem head_ne {c d : UInt8} {r : List UInt8} (h : ((c.toNat : Int) == (d.toNat : Int)) = false) : ((c :: r).head? == some d) = false := by
  simp at h ⊢
  intro e
  exact h (by rw [e])

theorem txt_app (pre ws rest : List UInt8) : txt pre ws rest = txt pre ws [] ++ rest := by simp [txt]

theorem src_cells {w : World} {g : Nat} {A R : List UInt8} (h : Lib.Bytes w g 0 ⟨(A ++ R).toArray⟩) : ∀ j v, (A.map bc)[j]? = some v → w.cell? ((⟨g, 0, none⟩ : Addr).add j) = some v := by
  intro j v hj
  have hl := (List.getElem?_eq_some_iff.1 hj).1
  rw [List.length_map] at hl
  have hl2 : j < (A ++ R).length := by rw [List.length_append]; omega
  have hv : bc A[j] = v := by
    rw [List.getElem?_map, List.getElem?_eq_getElem hl] at hj
    simpa using hj
  have h1 := h j hl2
  rw [Addr.add_lit, h1, ← hv]
  have e : (⟨(A ++ R).toArray⟩ : ByteArray)[j] = A[j] := by
    show (A ++ R)[j] = A[j]
    exact List.getElem_append_left hl
  rw [e]
  rfl

theorem row_bytes {w : World} {g : Nat} {A : List UInt8} (h : w.heap[g]? = some (.cells (A.map bc).toArray 5 (0, 0))) : Lib.Bytes w g 0 ⟨A.toArray⟩ := by
  intro i hi
  have hi' : i < A.length := hi
  rw [Nat.zero_add]
  exact row_cell h i _ (by rw [List.getElem?_map, List.getElem?_eq_getElem hi']; rfl)

theorem came_later {w w' : World} {p : Option Addr} {n c : Nat} {cs : List Value} (h : Came w p n c cs) (hb : Below w.heap.size w w') : Came w' p n c cs := by
  obtain ⟨h1, h2, h3 | ⟨x, h3, h4⟩⟩ := h
  · exact ⟨h1, h2, Or.inl h3⟩
  · exact ⟨h1, h2, Or.inr ⟨x, h3, fun j v hj => cell_later hb (h4 j v hj)⟩⟩

theorem size5 (w : World) : (Go.sizeOf (Try.prog.elem 22)).run Try.prog w = .ok 1 w := by kernel_rfl

/-- Where an element of a clone lies. -/
theorem idx_of_reads {B : Nat} {w : World} {q : Option Addr} {l : List UInt8} (h : Reads B w q (l.map bc)) {k : Nat} {x : UInt8} (hx : l[k]? = some x) :
    ∃ g, (∀ wx n c, k < n → (Instr.indexAt 22 (.slice q n c) (.int .i64 (k : Int))).run Try.prog wx = .ok (.pointer (some ⟨g, k, none⟩)) wx) ∧ w.cell? ⟨g, k, none⟩ = some (.int .u8 (x.toNat : Int)) ∧ g < w.heap.size := by
  obtain ⟨g, h1, h2⟩ := h
  have hk := (List.getElem?_eq_some_iff.1 hx).1
  obtain ⟨rfl, _, hg⟩ := h1 (by simp; omega)
  refine ⟨g, fun wx n c hkn => ?_, h2 k _ (by simp [hx, bc]), hg⟩
  rw [run_indexAt_slice wx 22 ⟨g, 0, none⟩ n c .i64 k (by kernel_rfl), if_pos (by omega), size5]
  simp [Result.andThen, Addr.add_lit]

set_option maxHeartbeats 800000 in
theorem isSpace_any (c : UInt8) (w : World) : Calls Try.prog 23 #[.int .u8 (c.toNat : Int)] w fun e w' => e = .returned (.bool (spc c)) ∧ w' = w := by
  have hcs : (32 ≤ (c.toNat : Int) ∧ (c.toNat : Int) ≤ 32) ∨ (9 ≤ (c.toNat : Int) ∧ (c.toNat : Int) ≤ 9) ∨ (10 ≤ (c.toNat : Int) ∧ (c.toNat : Int) ≤ 10) ∨ (13 ≤ (c.toNat : Int) ∧ (c.toNat : Int) ≤ 13) ∨ (((c.toNat : Int) == 32) = false ∧ ((c.toNat : Int) == 9) = false ∧ ((c.toNat : Int) == 10) = false ∧ ((c.toNat : Int) == 13) = false) := by
    simp; omega
  rcases hcs with ⟨h1, h2⟩ | ⟨h1, h2⟩ | ⟨h1, h2⟩ | ⟨h1, h2⟩ | ⟨h1, h2, h3, h4⟩
  · have e : spc c = true := by simp [spc]; omega
    have q1 : ((c.toNat : Int) == 32) = true := by simp; omega
    rw [e]
    go_enter Try.func23, Try.ntmps23
    go_wp2
    go_ret
    exact ⟨rfl, rfl⟩
  · have e : spc c = true := by simp [spc]; omega
    have q1 : ((c.toNat : Int) == 32) = false := by simp; omega
    have q2 : ((c.toNat : Int) == 9) = true := by simp; omega
    rw [e]
    go_enter Try.func23, Try.ntmps23
    go_wp2
    go_ret
    exact ⟨rfl, rfl⟩
  · have e : spc c = true := by simp [spc]; omega
    have q1 : ((c.toNat : Int) == 32) = false := by simp; omega
    have q2 : ((c.toNat : Int) == 9) = false := by simp; omega
    have q3 : ((c.toNat : Int) == 10) = true := by simp; omega
    rw [e]
    go_enter Try.func23, Try.ntmps23
    go_wp2
    go_ret
    exact ⟨rfl, rfl⟩
  · have e : spc c = true := by simp [spc]; omega
    have q1 : ((c.toNat : Int) == 32) = false := by simp; omega
    have q2 : ((c.toNat : Int) == 9) = false := by simp; omega
    have q3 : ((c.toNat : Int) == 10) = false := by simp; omega
    have q4 : ((c.toNat : Int) == 13) = true := by simp; omega
    rw [e]
    go_enter Try.func23, Try.ntmps23
    go_wp2
    go_ret
    exact ⟨rfl, rfl⟩
  · have e : spc c = false := by simp at h1 h2 h3 h4; simp [spc]; omega
    rw [e]
    go_enter Try.func23, Try.ntmps23
    go_wp2
    go_ret
    exact ⟨rfl, rfl⟩

set_option maxHeartbeats 400000 in
theorem zz22_yes (p q r : Option Addr) (n m l a b c : Nat) (x y : Int) (w : World) (h : n + m + l ≤ 1048576) :
    Calls Try.prog 22 #[.slice p n a, .slice q m b, .int .u8 x, .int .u8 y, .slice r l c] w fun e w' => e = .returned (.bool true) ∧ w' = w := by
  go_enter Try.func22, Try.ntmps22
  go_wp2
  go_ret
  exact ⟨rfl, rfl⟩

set_option maxHeartbeats 400000 in
theorem zz22_no (p q r : Option Addr) (n m l a b c : Nat) (x y : Int) (w : World) (hn : n ≤ maxLen) (hm : m ≤ maxLen) (hl : l ≤ maxLen) (h : ¬ n + m + l ≤ 1048576) :
    Calls Try.prog 22 #[.slice p n a, .slice q m b, .int .u8 x, .int .u8 y, .slice r l c] w fun e w' => e = .returned (.bool false) ∧ w' = w := by
  unfold maxLen at hn hm hl
  go_enter Try.func22, Try.ntmps22
  go_wp2
  all_goals (go_ret; exact ⟨rfl, rfl⟩)

set_option maxHeartbeats 800000 in
set_option maxRecDepth 100000 in
theorem walk_main (w : World) (p q r : Option Addr) (n a m b l f : Nat) (c d : UInt8) (pre ws suf : List UInt8) (hp : Came w p n a (pre.map bc)) (hq : Came w q m b (ws.map bc)) (hr : Came w r l f (suf.map bc)) (hnm : n + m + l ≤ 1048576)
    (hc : spc c = false) (hd : spc d = false) (hcd : ((c.toNat : Int) == (d.toNat : Int)) = false) :
    Calls Try.prog 6 #[.slice p n a, .slice q m b, .int .u8 (c.toNat : Int), .int .u8 (d.toNat : Int), .slice r l f] w fun e w' => e = .returned (.bool true) ∧ Below w.heap.size w w' := by
  obtain ⟨i0, hi, hz0, hz1, hz2⟩ := info_parts Clone.info5
  have HN : Hid (pre.length = n) := (by have := hp.1; simpa using this : pre.length = n)
  have HM : Hid (ws.length = m) := (by have := hq.1; simpa using this : ws.length = m)
  have HL : Hid (suf.length = l) := (by have := hr.1; simpa using this : suf.length = l)
  have HC : Hid (spc c = false) := hc
  have HD : Hid (spc d = false) := hd
  clear hc hd
  go_enter Try.func6, Try.ntmps6
  go_wp2_with fail
  refine (zz22_yes _ _ _ _ _ _ _ _ _ _ _ _ hnm).mono ?_
  rintro e w ⟨rfl, rfl⟩
  go_wp2_with fail
  refine (isSpace_any c _).mono ?_
  rintro e w ⟨rfl, rfl⟩
  rw [HC.out]
  go_wp2_with fail
  refine (isSpace_any d _).mono ?_
  rintro e w ⟨rfl, rfl⟩
  rw [HD.out]
  go_wp2_with fail
  refine (clone_any w p n a (pre.map bc) hp (by omega)).mono ?_
  rintro e w1 ⟨q1, c1, rfl, hr1, hn1, hb1⟩
  go_wp2_with fail
  refine (clone_any w1 q m b (ws.map bc) (came_later hq hb1) (by omega)).mono ?_
  rintro e w2 ⟨q2, c2, rfl, hr2, hn2, hb2⟩
  go_wp2_with fail
  refine (clone_any w2 r l f (suf.map bc) (came_later (came_later hr hb1) hb2) (by omega)).mono ?_
  rintro e w3 ⟨q3, c3, rfl, hr3, hn3, hb3⟩
  have hr1' := (hr1.later hb2 (Nat.le_refl _)).later hb3 (Nat.le_refl _)
  have hr2' := hr2.later hb3 (Nat.le_refl _)
  have hsz1 := hb1.size
  have hsz2 := hb2.size
  have hsz3 := hb3.size
  go_wp2_with (first
    | (at_make; refine wpList_make_own _ rfl _ _ 22 rfl w3.heap.size 5 i0 (.int .u8 0) 1 Try.underlying22 hi hz0 hz1 .i64 .i64 _ (n + m + 1 + l) rfl rfl (by simp) (by rw [hz2]; omega) (by unfold maxLen; omega) (Nat.le_refl _) ?_; intro w4 hown4 hg4; have hB4 := (Below.refl w3.heap.size w3).grown hg4 (Nat.le_refl _) (fun j hj => by cases hj))
    | (at_builtin; refine wpList_append_fits_any _ rfl (.tmp 80) (.tmp 81) 22 rfl w3.heap.size 5 i0 1 Try.underlying22 hi hz1 w3.heap.size 0 (n + m + 1 + l) [] rfl hown4 q1 n c1 (pre.map bc) rfl (by rw [List.length_map, HN.out, Nat.mul_one]) hn1 (reads_news (hr1'.later hB4 (Nat.le_refl _))) (bc_one pre) (by omega) ?_; intro w5 hown5 hg5; rw [Nat.zero_add, List.nil_append] at hown5; have hB5 := hB4.grown hg5 hB4.size (fun j hj => by cases hj; exact Nat.le_refl _)))
  go_loopw [11, 12] (fun x i wr => ∃ k : Nat, k ≤ m ∧ i = .int .i64 k ∧ x = .slice (some ⟨w3.heap.size, 0, none⟩) (n + k) (n + m + 1 + l) ∧ wr.ownsRow w3.heap.size 5 1 (.slice (some ⟨w3.heap.size, 0, none⟩) (n + k) (n + m + 1 + l)) (n + k) ((pre ++ (ws.take k).map wsb).map bc) ∧ Below w3.heap.size w3 wr) (fun _ i _ => m - (intOf i).toNat)
  case atStart => exact ⟨0, Nat.zero_le _, rfl, by simp, by simpa using hown5, hB5⟩
  case round =>
    obtain ⟨k, hk, rfl, rfl, hown, hB⟩ := hrel
    by_cases hlt : k < m
    · obtain ⟨x, hx⟩ : ∃ x, ws[k]? = some x := ⟨ws[k]'(by have := HM.out; omega), List.getElem?_eq_getElem _⟩
      obtain ⟨g2, hidx, hcx, hg2⟩ := idx_of_reads (hr2'.later hB (Nat.le_refl _)) hx
      have hidx := hidx wr m c2 hlt
      have HX : Hid (ws[k]? = some x) := hx
      clear hx hown4 hown5 hg4 hg5 hB4 hB5 hr1 hr2 hp hq hr
      go_wp2_with (first
        | (at_builtin; refine wpList_append_fits _ rfl (.tmp 89) (.tmp 96) 22 rfl w3.heap.size 5 i0 1 Try.underlying22 hi hz1 w3.heap.size (n + k) (n + m + 1 + l) _ rfl (hown.alloc _) ⟨wr.heap.size, 0, none⟩ 1 1 [bc _] rfl rfl (cell_one_new _ _ _) (bc_one [_]) (by omega) ?_; intro w6 hown6 hg6))
      have hB6 := (hB.alloc hB.size _).grown hg6 (Nat.le_trans hB.size (by simp)) (fun j hj => by cases hj; exact Nat.le_refl _)
      have hown6' : w6.ownsRow w3.heap.size 5 1 (.slice (some ⟨w3.heap.size, 0, none⟩) (n + (k + 1)) (n + m + 1 + l)) (n + (k + 1)) ((pre ++ (ws.take (k + 1)).map wsb).map bc) := by
        have e : (pre ++ (ws.take (k + 1)).map wsb).map bc = (pre ++ (ws.take k).map wsb).map bc ++ [bc (wsb x)] := by
          rw [List.take_add_one, HX.out]; simp
        rw [e, ← lit_wsb x (by show _ < 4; omega)]
        exact hown6
      clear hown6 hg6
      go_roundw
      case rel => exact ⟨k + 1, by omega, by go_num, rfl, hown6', hB6⟩
      case measure => simp [intOf]; omega
    · have hkm : k = m := by omega
      subst hkm
      have htk : ws.take k = ws := List.take_of_length_le (by have := HM.out; omega)
      rw [htk] at hown
      clear hown4 hown5 hg4 hg5 hB4 hB5 hr1 hr2 hp hq hr htk
      go_wp2_with (first
        | (at_builtin; refine wpList_append_fits _ rfl (.tmp 98) (.tmp 100) 22 rfl w3.heap.size 5 i0 1 Try.underlying22 hi hz1 w3.heap.size (n + k) (n + k + 1 + l) _ rfl (hown.alloc _) ⟨wr.heap.size, 0, none⟩ 1 1 [bc c] rfl rfl (cell_one_new _ _ _) (bc_one [c]) (by omega) ?_; intro w7 hown7 hg7; have hB7 := (hB.alloc hB.size _).grown hg7 (Nat.le_trans hB.size (by simp)) (fun j hj => by cases hj; exact Nat.le_refl _))
        | (at_builtin; refine wpList_append_fits_any _ rfl (.tmp 102) (.tmp 103) 22 rfl w3.heap.size 5 i0 1 Try.underlying22 hi hz1 w3.heap.size (n + k + 1) (n + k + 1 + l) _ rfl hown7 q3 l c3 (suf.map bc) rfl (by rw [List.length_map, HL.out, Nat.mul_one]) hn3 (reads_news (hr3.later hB7 (Nat.le_refl _))) (bc_one suf) (by omega) ?_; intro w8 hown8 hg8; have hB8 := hB7.grown hg8 hB7.size (fun j hj => by cases hj; exact Nat.le_refl _)))
      have hown9 : w8.ownsRow w3.heap.size 5 1 (.slice (some ⟨w3.heap.size, 0, none⟩) (n + k + 1 + l) (n + k + 1 + l)) (n + k + 1 + l) ((txt pre ws (c :: suf)).map bc) := by
        have e : (txt pre ws (c :: suf)).map bc = (pre ++ ws.map wsb).map bc ++ [bc c] ++ suf.map bc := by simp [txt]
        rw [e]; exact hown8
      have hby := bytes_of_owned hown9
      have hlt8 : w3.heap.size < w8.heap.size := (hown9.lt _ rfl).2
      have hlen : (⟨(txt pre ws (c :: suf)).toArray⟩ : ByteArray).size = n + k + 1 + l := by have := len_txt pre ws (c :: suf); rw [HN.out, HM.out, List.length_cons, HL.out] at this; show (txt pre ws (c :: suf)).length = _; omega
      have hrn : run ((txt pre ws (c :: suf)).drop n) = k := by have := run_txt pre ws (rest := c :: suf) (fun c' r' e => by injection e with e _; rw [← e]; exact HC.out); rwa [HN.out, HM.out] at this
      have hh1 : hit ⟨(txt pre ws (c :: suf)).toArray⟩ (n + k) c = true := by have := hit_txt pre ws (c :: suf) c; rw [HN.out, HM.out] at this; rw [this]; simp
      have hh2 : hit ⟨(txt pre ws (c :: suf)).toArray⟩ (n + k) d = false := by have := hit_txt pre ws (c :: suf) d; rw [HN.out, HM.out] at this; rw [this]; exact head_ne hcd
      refine (zznext_any w3.heap.size 0 n _ (n + k + 1 + l) c ⟨(txt pre ws (c :: suf)).toArray⟩ w8 hlen.symm (by rw [hlen]; omega) (by rw [hlen]; omega) hlt8 hby (n + k) (by show _ = n + run ((txt pre ws (c :: suf)).drop n); rw [hrn]) true (n + k + 1) hh1 rfl).mono ?_
      rintro e w9 ⟨rfl, hb9⟩
      have hs9 := hb9.size
      have hby9 : Lib.Bytes w9 w3.heap.size 0 ⟨(txt pre ws (c :: suf)).toArray⟩ := fun i hi => (hb9.cell (p := ⟨w3.heap.size, 0 + i, none⟩) hlt8).trans (hby i hi)
      go_wp2_with fail
      refine (zznext_any w3.heap.size 0 n _ (n + k + 1 + l) d ⟨(txt pre ws (c :: suf)).toArray⟩ w9 hlen.symm (by rw [hlen]; omega) (by rw [hlen]; omega) (Nat.lt_of_lt_of_le hlt8 hs9) hby9 (n + k) (by show _ = n + run ((txt pre ws (c :: suf)).drop n); rw [hrn]) false (n + k) hh2 rfl).mono ?_
      rintro e w10 ⟨rfl, hb10⟩
      have hs10 := hb10.size
      have hby10 : Lib.Bytes w10 w3.heap.size 0 ⟨(txt pre ws (c :: suf)).toArray⟩ := fun i hi => (hb10.cell (p := ⟨w3.heap.size, 0 + i, none⟩) (Nat.lt_of_lt_of_le hlt8 hs9)).trans (hby9 i hi)
      have hfin10 : Below w.heap.size w w10 := ((((hb1.trans (hb2.mono hsz1)).trans (hb3.mono (by omega))).trans (hB8.mono (by omega))).trans (hb9.mono (by omega))).trans (hb10.mono (by omega))
      have hla : (txt pre ws []).length = n + k := by have := len_txt pre ws []; rw [HN.out, HM.out] at this; simpa using this
      have HRN2 : Hid (run ((txt pre ws []).drop n) = k) := (by have := run_txt pre ws (rest := []) (fun c' r' e => by cases e); rwa [HN.out, HM.out] at this : run ((txt pre ws []).drop n) = k)
      have HH3 : Hid (hit ⟨(txt pre ws []).toArray⟩ (n + k) c = false) := (by have := hit_txt pre ws [] c; rw [HN.out, HM.out] at this; rw [this]; rfl : hit ⟨(txt pre ws []).toArray⟩ (n + k) c = false)
      have HLA : Hid ((txt pre ws []).length = n + k) := hla
      clear hown hown7 hown8 hown9 hby hby9 hB hB7 hB8 hg7 hg8 hr1' hr2' hr3 hrn hh1 hh2 hlen hb1 hb2 hb3 hb9 hb10 hla
      go_wp2_with (first
        | (at_make; refine wpList_make_full _ rfl (.tmp 139) (.tmp 139) 22 rfl w10.heap.size 5 i0 (.int .u8 0) 1 Try.underlying22 hi hz0 hz1 .i64 .i64 _ _ (n + k) rfl rfl (by simp) (by simp) (by rw [hz2]; omega) (by unfold maxLen; omega) (Nat.le_refl _) ?_; intro w11 hown11 hg11))
      obtain ⟨cur, hcur, hcl⟩ := own_block hown11
      have hb11 := (Below.refl w10.heap.size w10).grown hg11 (Nat.le_refl _) (by simp)
      have hl10 : w3.heap.size < w10.heap.size := by omega
      obtain ⟨w12, hrun, hrow, hb12⟩ := copy_run (cap := n + k + 1 + l) (x := ⟨w3.heap.size, 0, none⟩) (cs := (txt pre ws []).map bc) Try.underlying22 Clone.size5 hcur hcl (by rw [List.length_map]; exact HLA.out) (fun j v hj => (hb11.cell (p := (⟨w3.heap.size, 0, none⟩ : Addr).add j) (by rw [Addr.add_lit]; exact hl10)).trans (src_cells (txt_app pre ws (c :: suf) ▸ hby10) j v hj)) (bc_one _) hb11 (Nat.le_refl _)
      rw [hrun]
      have hby12 : Lib.Bytes w12 w10.heap.size 0 ⟨(txt pre ws []).toArray⟩ := row_bytes hrow
      have hlt12 : w10.heap.size < w12.heap.size := block_lt hrow
      clear hrun hcur hown11 hg11 hcl hb11 hby10
      go_wp2_with fail
      refine (zznext_any w10.heap.size 0 n _ (n + k) c ⟨(txt pre ws []).toArray⟩ w12 (by show _ = (txt pre ws []).length; rw [HLA.out]) (by show n ≤ (txt pre ws []).length; rw [HLA.out]; omega) (by show (txt pre ws []).length ≤ _; rw [HLA.out]; omega) hlt12 hby12 (n + k) (by show _ = n + run ((txt pre ws []).drop n); rw [HRN2.out]) false (n + k) HH3.out rfl).mono ?_
      rintro e w13 ⟨rfl, hb13⟩
      have hfin : Below w.heap.size w w13 := (hfin10.trans (hb12.mono hfin10.size)).trans (hb13.mono (by have := hfin10.size; omega))
      clear hb12 hb13 hfin10 hby12
      go_wp2
      go_ret
      exact ⟨rfl, hfin⟩

end Go.Proofs.Qxb6003345a.NextLaw
