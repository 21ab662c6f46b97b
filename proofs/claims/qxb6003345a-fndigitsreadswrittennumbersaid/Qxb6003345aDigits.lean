import Derived.Test.Qxb6003345aRows
import Derived.WalkKit
import Derived.WalkSpells
import Derived.WalkLawsBesides
import Derived.Deep.QuietTactic
import Derived.BigQuiet
import Derived.Lib.SlBytesRow
namespace Go.Proofs.Qxb6003345a.Digits
open Go.RowKit

/-- Is the byte a decimal digit? -/
def dig (c : UInt8) : Bool := 48 ≤ c.toNat && c.toNat ≤ 57
/-- How many digits stand at the head. -/
def run (l : List UInt8) : Nat := (l.takeWhile dig).length

theorem run_hit {s : ByteArray} {j : Nat} (h : j < s.size) (hd : dig s[j] = true) : run (s.data.toList.drop j) = run (s.data.toList.drop (j + 1)) + 1 := by
  have e : s.data.toList.drop j = s[j] :: s.data.toList.drop (j + 1) := by
    rw [List.drop_eq_getElem_cons (by simpa using h)]
    rfl
  rw [e]
  simp [run, hd]
theorem run_miss {s : ByteArray} {j : Nat} (h : j < s.size) (hd : dig s[j] = false) : run (s.data.toList.drop j) = 0 := by
  have e : s.data.toList.drop j = s[j] :: s.data.toList.drop (j + 1) := by
    rw [List.drop_eq_getElem_cons (by simpa using h)]
    rfl
  rw [e]
  simp [run, hd]
theorem run_end {s : ByteArray} {j : Nat} (h : s.size ≤ j) : run (s.data.toList.drop j) = 0 := by
  rw [List.drop_of_length_le (by simpa using h)]
  rfl
theorem run_le (s : ByteArray) (j : Nat) (h : j ≤ s.size) : j + run (s.data.toList.drop j) ≤ s.size := by
  have h1 : (List.takeWhile dig (s.data.toList.drop j)).length ≤ (s.data.toList.drop j).length := (List.takeWhile_sublist _).length_le
  rw [List.length_drop] at h1
  have : s.data.toList.length = s.size := by simp
  unfold run
  omega

/-- The number in a cell. -/
def cellNat (w : World) (a : Addr) : Nat := match w.cell? a with | some v => (intOf v).toNat | none => 0
theorem cellNat_of {w : World} {a : Addr} {n : Nat} (h : w.cell? a = some (.int .i64 n)) : cellNat w a = n := by simp [cellNat, h, intOf]

theorem ret_int {k : IntKind} {a b : Int} (h : a = b) : Ending.returned (.int k a) = .returned (.int k b) := by rw [h]

set_option maxHeartbeats 800000 in
theorem digits_any (B b o i n cap : Nat) (s : ByteArray) (w : World) (hn : n = s.size) (hi : i ≤ s.size) (hs : s.size ≤ 1152921504606846976) (hb : b < B)
    (h0 : w.cell? ⟨B, 0, none⟩ = some (.slice (some ⟨b, o, none⟩) n cap)) (h2 : w.cell? ⟨B, 2, none⟩ = some (.int .i64 i)) (hf : w.frozen? ⟨B, 2, none⟩ = false) (hby : Lib.Bytes w b o s) :
    Calls Try.prog 34 #[.pointer (some ⟨B, 0, none⟩)] w fun e w' => e = .returned (.int .i64 (run (s.data.toList.drop i) : Nat)) ∧ w'.cell? ⟨B, 2, none⟩ = some (.int .i64 (i + run (s.data.toList.drop i) : Nat)) ∧ Below B w w' := by
  subst hn
  have HB : Hid (Lib.Bytes w b o s) := hby
  clear hby
  go_enter Try.func34, Try.ntmps34
  go_wp2
  go_loopw [8] (fun _ wr => ∃ j : Nat, i ≤ j ∧ j ≤ s.size ∧ j + run (s.data.toList.drop j) = i + run (s.data.toList.drop i) ∧ wr.cell? ⟨B, 0, none⟩ = some (.slice (some ⟨b, o, none⟩) s.size cap) ∧ wr.cell? ⟨B, 2, none⟩ = some (.int .i64 j) ∧ wr.frozen? ⟨B, 2, none⟩ = false ∧ Below B w wr)
    (fun _ wr => s.size - cellNat wr ⟨B, 2, none⟩)
  case atStart => exact ⟨i, Nat.le_refl _, hi, rfl, h0, h2, hf, Below.refl _ _⟩
  case round =>
    obtain ⟨j, hij, hj, hrun, hc0, hc2, hfr, hbel⟩ := hrel
    have HR : Hid (j + run (s.data.toList.drop j) = i + run (s.data.toList.drop i)) := hrun
    clear hrun h0 h2 hf
    by_cases hlt : j < s.size
    · have hltI : (j : Int) < (s.size : Int) := by omega
      have hcj : wr.cell? ⟨b, o + j, none⟩ = some (.int .u8 (s[j].toNat : Int)) := (hbel.cell (p := ⟨b, o + j, none⟩) hb).trans (HB.out j hlt)
      obtain ⟨c, hc⟩ : ∃ c, s[j] = c := ⟨_, rfl⟩
      rw [hc] at hcj
      have HCE : Hid (s[j] = c) := hc
      clear hc
      by_cases h48 : (48 : Int) ≤ (c.toNat : Int)
      · by_cases h57 : (c.toNat : Int) ≤ 57
        · go_wp2_with fail
          go_quiet (fail)
          go_wp2
          have hd : dig s[j] = true := by rw [HCE.out]; simp [dig]; omega
          have hstep := run_hit hlt hd
          have hc2' : ((wr.drewN nq).setCell ⟨B, 2, none⟩ (.int .i64 ((j : Int) + 1))).cell? ⟨B, 2, none⟩ = some (.int .i64 ((j + 1 : Nat) : Int)) := World.cell?_setCell_same (u := .int .i64 j) _ _ _ (by simpa using hc2)
          go_roundw
          case rel =>
            refine ⟨j + 1, by omega, by omega, by have := HR.out; omega, ?_, hc2', ?_, (below_drewN hbel nq).setCell (p := ⟨B, 2, none⟩) (Nat.le_refl _) _⟩
            · rw [World.cell?_setCell_other _ _ _ _ (by simp)]
              simpa using hc0
            · rw [World.frozen?_setCell]
              simpa using hfr
          case measure => rw [cellNat_of hc2', cellNat_of hc2]; omega
        · have hd57 : decide ((c.toNat : Int) ≤ 57) = false := by simpa using h57
          have hd : dig s[j] = false := by rw [HCE.out]; simp [dig]; omega
          have hr0 := run_miss hlt hd
          have HZ : Hid (j = i + run (s.data.toList.drop i)) := by have := HR.out; show j = _; omega
          clear hd hr0 h57
          go_wp2_with fail
          go_quiet (fail)
          go_wp2
          go_ret
          exact ⟨ret_int (by have := HZ.out; omega), by rw [← HZ.out]; simpa using hc2, below_drewN hbel _⟩
      · have hd48 : decide ((48 : Int) ≤ (c.toNat : Int)) = false := by simpa using h48
        have hd : dig s[j] = false := by rw [HCE.out]; simp [dig]; omega
        have hr0 := run_miss hlt hd
        have HZ : Hid (j = i + run (s.data.toList.drop i)) := by have := HR.out; show j = _; omega
        clear hd hr0 h48
        go_wp2_with fail
        go_quiet (fail)
        go_wp2
        go_ret
        exact ⟨ret_int (by have := HZ.out; omega), by rw [← HZ.out]; simpa using hc2, below_drewN hbel _⟩
    · have hje : j = s.size := by omega
      subst hje
      have hr0 := run_end (s := s) (Nat.le_refl _)
      have HZ : Hid (s.size = i + run (s.data.toList.drop i)) := by have := HR.out; show s.size = _; omega
      have hdl : decide ((s.size : Int) < (s.size : Int)) = false := by simp
      clear hr0
      go_wp2_with fail
      go_quiet (fail)
      go_wp2
      go_ret
      exact ⟨ret_int (by have := HZ.out; omega), by rw [← HZ.out]; simpa using hc2, below_drewN hbel _⟩

set_option maxHeartbeats 400000 in
/-- ZZParserDigits. -/
theorem zzdigits_any (b o i n cap : Nat) (s : ByteArray) (w : World) (hn : n = s.size) (hi : i ≤ s.size) (hs : s.size ≤ 1152921504606846976) (hb : b < w.heap.size) (hc : Lib.Bytes w b o s) :
    Calls Try.prog 19 #[.slice (some ⟨b, o, none⟩) n cap, .int .i64 i] w fun e w' => e = .returned (.tuple #[.int .i64 (run (s.data.toList.drop i) : Nat), .int .i64 (i + run (s.data.toList.drop i) : Nat)]) ∧ Below w.heap.size w w' := by
  subst hn
  have hcv := Lib.run_convert_whole (P := Try.prog) w 22 5 9 Try.underlying22 Try.underlying5 Try.underlying9 b o s hc cap
  go_enter Try.func19, Try.ntmps19
  go_wp2_with fail
  refine (digits_any w.heap.size b o i s.size cap s _ rfl hi hs hb ?h0 ?h2 ?hf ?hby).mono ?_
  case h0 => simp
  case h2 => simp
  case hf => simp
  case hby => exact fun j hj => by rw [World.cell?_alloc_past _ _ _ hb]; exact hc j hj
  rintro e w' ⟨rfl, hcl, hb'⟩
  clear hc hcv
  go_wp2
  go_quiet (fail)
  go_wp2
  go_ret2
  exact ⟨rfl, ((Below.refl _ _).alloc (Nat.le_refl _) _).trans (below_drewN hb' _)⟩

set_option maxHeartbeats 400000 in
theorem isDigit_any (c : UInt8) (w : World) : Calls Try.prog 17 #[.int .u8 (c.toNat : Int)] w fun e w' => e = .returned (.bool (dig c)) ∧ w' = w := by
  have hc := c.toNat_lt
  by_cases h48 : (48 : Int) ≤ (c.toNat : Int)
  · by_cases h57 : (c.toNat : Int) ≤ 57
    · have e : dig c = true := by simp [dig]; omega
      rw [e]
      go_enter Try.func17, Try.ntmps17
      go_wp2
      go_ret
      exact ⟨rfl, rfl⟩
    · have e : dig c = false := by simp [dig]; omega
      rw [e]
      go_enter Try.func17, Try.ntmps17
      go_wp2
      go_ret
      exact ⟨rfl, rfl⟩
  · have e : dig c = false := by simp [dig]; omega
    rw [e]
    go_enter Try.func17, Try.ntmps17
    go_wp2
    go_ret
    exact ⟨rfl, rfl⟩

set_option maxHeartbeats 400000 in
theorem zz16_yes (p q : Option Addr) (n m c d : Nat) (v z : Int) (w : World) (h : n + m ≤ 1048576) :
    Calls Try.prog 16 #[.slice p n c, .int .u64 v, .int .i64 z, .slice q m d] w fun e w' => e = .returned (.bool true) ∧ w' = w := by
  go_enter Try.func16, Try.ntmps16
  go_wp2
  go_ret
  exact ⟨rfl, rfl⟩

set_option maxHeartbeats 400000 in
theorem zz16_no (p q : Option Addr) (n m c d : Nat) (v z : Int) (w : World) (hn : n ≤ maxLen) (hm : m ≤ maxLen) (h : ¬ n + m ≤ 1048576) :
    Calls Try.prog 16 #[.slice p n c, .int .u64 v, .int .i64 z, .slice q m d] w fun e w' => e = .returned (.bool false) ∧ w' = w := by
  unfold maxLen at hn hm
  go_enter Try.func16, Try.ntmps16
  go_wp2
  all_goals (go_ret; exact ⟨rfl, rfl⟩)

end Go.Proofs.Qxb6003345a.Digits
