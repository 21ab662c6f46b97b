import Derived.Test.Qxb6003345aAppend
import Derived.Deep.QuietTactic
import Derived.BigQuiet
namespace Go.Proofs.Qxb6003345a.Nesting
open Go.RowKit
open Go.Proofs.Qxb6003345a.Append

/-- The slice at p reads as the bytes l in w. -/
def Rd (w : World) (p : Option Addr) (l : List UInt8) : Prop := l ≠ [] → ∃ g o, p = some ⟨g, o, none⟩ ∧ ∀ j c, l[j]? = some c → w.cell? ⟨g, o + j, none⟩ = some (bc c)

theorem Rd.drewN {w : World} {p : Option Addr} {l : List UInt8} (h : Rd w p l) (q : Nat) : Rd (w.drewN q) p l := fun hl => by
  obtain ⟨g, o, e, hc⟩ := h hl
  exact ⟨g, o, e, fun j c hj => by have := hc j c hj; simpa using this⟩

set_option maxHeartbeats 400000 in
theorem equal_none (p q : Option Addr) (c d : Nat) (w : World) :
    Calls Try.prog 13 #[.slice p 0 c, .slice q 0 d] w fun e w' => e = .returned (.bool true) ∧ w' = w := by
  go_enter Try.func13, Try.ntmps13
  go_wp2
  refine wp_loop_rounds 1 ?_
  rw [rounds_succ]
  go_wp2
  go_ret
  exact ⟨rfl, rfl⟩

set_option maxHeartbeats 400000 in
theorem equal_some (g1 o1 g2 o2 n c d : Nat) (l : List UInt8) (w : World) (hl : l.length = n) (hn : n ≤ 16777216) (h1 : ∀ j c, l[j]? = some c → w.cell? ⟨g1, o1 + j, none⟩ = some (bc c)) (h2 : ∀ j c, l[j]? = some c → w.cell? ⟨g2, o2 + j, none⟩ = some (bc c)) :
    Calls Try.prog 13 #[.slice (some ⟨g1, o1, none⟩) n c, .slice (some ⟨g2, o2, none⟩) n d] w fun e w' => e = .returned (.bool true) ∧ ∃ q, w' = w.drewN q := by
  have HL : Hid (l.length = n) := hl
  have H1 : Hid (∀ j c, l[j]? = some c → w.cell? ⟨g1, o1 + j, none⟩ = some (bc c)) := h1
  have H2 : Hid (∀ j c, l[j]? = some c → w.cell? ⟨g2, o2 + j, none⟩ = some (bc c)) := h2
  clear hl h1 h2
  go_enter Try.func13, Try.ntmps13
  go_wp2
  go_loopw [5] (fun i wr => ∃ k q : Nat, i = .int .i64 k ∧ k ≤ n ∧ wr = w.drewN q) (fun i _ => n - (intOf i).toNat)
  case atStart => exact ⟨0, 0, rfl, Nat.zero_le _, rfl⟩
  case round =>
    obtain ⟨k, q, rfl, hk, rfl⟩ := hrel
    by_cases hlt : k < n
    · have hkI : (k : Int) < (n : Int) := by omega
      obtain ⟨x, hx⟩ : ∃ x, l[k]? = some x := ⟨l[k]'(by have := HL.out; omega), List.getElem?_eq_getElem _⟩
      have hc1 : w.cell? ⟨g1, o1 + k, none⟩ = some (.int .u8 (x.toNat : Int)) := H1.out k x hx
      have hc2 : w.cell? ⟨g2, o2 + k, none⟩ = some (.int .u8 (x.toNat : Int)) := H2.out k x hx
      clear hx
      go_wp2_with fail
      go_quiet (fail)
      go_wp2
      go_roundw
      case rel => exact ⟨k + 1, _, by go_num, by omega, rfl⟩
      case measure => simp [intOf]; omega
    · have hkn : k = n := by omega
      subst hkn
      go_wp2
      go_ret
      exact ⟨rfl, q, rfl⟩

/-- zzBytesEqual at two slices that read as the same bytes. -/
theorem equal_any (p q : Option Addr) (n c d : Nat) (l : List UInt8) (w : World) (hl : l.length = n) (hn : n ≤ 16777216) (h1 : Rd w p l) (h2 : Rd w q l) :
    Calls Try.prog 13 #[.slice p n c, .slice q n d] w fun e w' => e = .returned (.bool true) ∧ ∃ q, w' = w.drewN q := by
  by_cases h0 : l = []
  · subst h0
    have : n = 0 := by simpa using hl.symm
    subst this
    refine (equal_none p q c d w).mono ?_
    rintro e w' ⟨rfl, rfl⟩
    exact ⟨rfl, 0, rfl⟩
  · obtain ⟨g1, o1, rfl, hc1⟩ := h1 h0
    obtain ⟨g2, o2, rfl, hc2⟩ := h2 h0
    exact equal_some g1 o1 g2 o2 n c d l w hl hn hc1 hc2

/-! ### nesting -/
/-- The bytes that the texts here are made of. -/
def okB (c : UInt8) : Prop := c = 91 ∨ c = 93 ∨ c = 10 ∨ c = 32 ∨ c = 44
/-- (how deep at most, how deep now). -/
def stp (s : Int × Int) (c : UInt8) : Int × Int := if c = 91 then (max s.1 (s.2 + 1), s.2 + 1) else if c = 93 then (s.1, s.2 - 1) else s
def nest (l : List UInt8) : Int × Int := l.foldl stp (0, 0)

theorem nest_snoc (l : List UInt8) (c : UInt8) : nest (l ++ [c]) = stp (nest l) c := by simp [nest, List.foldl_append]

theorem nest_bd : ∀ (l : List UInt8) (s : Int × Int) (B : Int), -B ≤ s.2 → s.2 ≤ B → 0 ≤ s.1 → s.1 ≤ B → (-(B + l.length) ≤ (l.foldl stp s).2 ∧ (l.foldl stp s).2 ≤ B + l.length) ∧ 0 ≤ (l.foldl stp s).1 ∧ (l.foldl stp s).1 ≤ B + l.length
  | [], s, B, h1, h2, h3, h4 => by simp; omega
  | c :: r, s, B, h1, h2, h3, h4 => by
    rw [List.foldl_cons]
    have hs : -(B + 1) ≤ (stp s c).2 ∧ (stp s c).2 ≤ B + 1 ∧ 0 ≤ (stp s c).1 ∧ (stp s c).1 ≤ B + 1 := by
      unfold stp
      split
      · simp only; omega
      · split
        · simp only; omega
        · omega
    have := nest_bd r (stp s c) (B + 1) hs.1 hs.2.1 hs.2.2.1 hs.2.2.2
    simp only [List.length_cons]
    omega

theorem nest_bounds (l : List UInt8) : (-(l.length : Int) ≤ (nest l).2 ∧ (nest l).2 ≤ l.length) ∧ 0 ≤ (nest l).1 ∧ (nest l).1 ≤ l.length := by
  have := nest_bd l (0, 0) 0 (by simp) (by simp) (by simp) (by simp)
  unfold nest
  omega

set_option maxHeartbeats 1600000 in
theorem nesting_some (g o n c : Nat) (l : List UInt8) (w : World) (hl : l.length = n) (hn : n ≤ 16777216) (h1 : ∀ j c, l[j]? = some c → w.cell? ⟨g, o + j, none⟩ = some (bc c)) (hok : ∀ c ∈ l, okB c) :
    Calls Try.prog 33 #[.slice (some ⟨g, o, none⟩) n c] w fun e w' => e = .returned (.int .i64 (nest l).1) ∧ w' = w := by
  have HL : Hid (l.length = n) := hl
  have H1 : Hid (∀ j c, l[j]? = some c → w.cell? ⟨g, o + j, none⟩ = some (bc c)) := h1
  clear hl h1
  go_enter Try.func33, Try.ntmps33
  go_wp2
  go_loop [3, 4, 5, 6] (fun dp d s i => ∃ k : Nat, i = .int .i64 k ∧ k ≤ n ∧ dp = .int .i64 (nest (l.take k)).1 ∧ d = .int .i64 (nest (l.take k)).2 ∧ s = .bool false) (fun _ _ _ i => n - (intOf i).toNat)
  case atStart => exact ⟨0, rfl, Nat.zero_le _, rfl, rfl, rfl⟩
  case round =>
    obtain ⟨k, rfl, hk, rfl, rfl, rfl⟩ := hrel
    by_cases hlt : k < n
    · have hkI : (k : Int) < (n : Int) := by omega
      obtain ⟨x, hx⟩ : ∃ x, l[k]? = some x := ⟨l[k]'(by have := HL.out; omega), List.getElem?_eq_getElem _⟩
      have hc1 : w.cell? ⟨g, o + k, none⟩ = some (.int .u8 (x.toNat : Int)) := H1.out k x hx
      have hbd := nest_bounds (l.take k)
      have hlk : (l.take k).length ≤ k := List.length_take_le _ _
      have HSN : Hid (nest (l.take (k + 1)) = stp (nest (l.take k)) x) := (by rw [List.take_add_one, hx]; exact nest_snoc _ _ : nest (l.take (k + 1)) = stp (nest (l.take k)) x)
      have hxo := hok x (List.mem_of_getElem? hx)
      clear hx hok
      obtain ⟨A, B, hAB⟩ : ∃ A B, nest (l.take k) = (A, B) := ⟨_, _, rfl⟩
      rw [hAB] at hbd HSN ⊢
      clear hAB
      simp only at hbd
      rcases hxo with rfl | rfl | rfl | rfl | rfl
      all_goals
        go_wp2
        go_round
        case rel => exact ⟨k + 1, by go_num, by omega, by rw [HSN.out]; rfl, by rw [HSN.out]; rfl, rfl⟩
        case measure => simp [intOf]; omega
    · have hkn : k = n := by omega
      subst hkn
      have ht : l.take k = l := List.take_of_length_le (by have := HL.out; omega)
      rw [ht]
      go_wp2
      go_ret
      exact ⟨rfl, rfl⟩

theorem zznesting_some (g o n c : Nat) (l : List UInt8) (w : World) (hl : l.length = n) (hn : n ≤ 16777216) (h1 : ∀ j c, l[j]? = some c → w.cell? ⟨g, o + j, none⟩ = some (bc c)) (hok : ∀ c ∈ l, okB c) (r : Int) (hr : (nest l).1 = r) :
    Calls Try.prog 15 #[.slice (some ⟨g, o, none⟩) n c] w fun e w' => e = .returned (.int .i64 r) ∧ w' = w := by
  have H : Hid (Calls Try.prog 33 #[.slice (some ⟨g, o, none⟩) n c] w fun e w' => e = .returned (.int .i64 r) ∧ w' = w) := (by have := nesting_some g o n c l w hl hn h1 hok; rw [hr] at this; exact this : Calls Try.prog 33 #[.slice (some ⟨g, o, none⟩) n c] w fun e w' => e = .returned (.int .i64 r) ∧ w' = w)
  clear hl h1 hok hr
  go_enter Try.func15, Try.ntmps15
  go_wp2_with fail
  refine H.out.mono ?_
  rintro e w' ⟨rfl, rfl⟩
  clear H
  go_wp2
  go_ret
  exact ⟨rfl, rfl⟩

theorem zz9_yes (w : World) (p : Option Addr) (n c : Nat) (k d : Int) (h : n ≤ 1048576) :
    Calls Try.prog 9 #[.slice p n c, .int .i64 k, .int .i64 d] w fun e w' => e = .returned (.bool true) ∧ w' = w := by
  go_enter Try.func9, Try.ntmps9
  go_wp2
  go_ret
  exact ⟨rfl, rfl⟩

theorem zz9_no (w : World) (p : Option Addr) (n c : Nat) (k d : Int) (hn : n ≤ maxLen) (h : ¬ n ≤ 1048576) :
    Calls Try.prog 9 #[.slice p n c, .int .i64 k, .int .i64 d] w fun e w' => e = .returned (.bool false) ∧ w' = w := by
  unfold maxLen at hn
  go_enter Try.func9, Try.ntmps9
  go_wp2
  go_ret
  exact ⟨rfl, rfl⟩

end Go.Proofs.Qxb6003345a.Nesting
