import Derived.Test.Qxb6003345aRows
import Derived.WalkKit
import Derived.WalkSpells
import Derived.WalkLawsBesides
import Derived.Deep.QuietTactic
import Derived.BigQuiet
import Derived.Lib.SlBytesRow
namespace Go.Proofs.Qxb6003345a.Next
open Go.RowKit

/-- Is the byte white space of JSON? -/
def spc (c : UInt8) : Bool := c.toNat == 32 || c.toNat == 9 || c.toNat == 10 || c.toNat == 13
/-- How much white space stands at the head. -/
def run (l : List UInt8) : Nat := (l.takeWhile spc).length

theorem drop_cons {s : ByteArray} {j : Nat} (h : j < s.size) : s.data.toList.drop j = s[j] :: s.data.toList.drop (j + 1) := by
  rw [List.drop_eq_getElem_cons (by simpa using h)]
  rfl
theorem run_hit {s : ByteArray} {j : Nat} (h : j < s.size) (hd : spc s[j] = true) : run (s.data.toList.drop j) = run (s.data.toList.drop (j + 1)) + 1 := by
  rw [drop_cons h]
  simp [run, hd]
theorem run_miss {s : ByteArray} {j : Nat} (h : j < s.size) (hd : spc s[j] = false) : run (s.data.toList.drop j) = 0 := by
  rw [drop_cons h]
  simp [run, hd]
theorem run_end {s : ByteArray} {j : Nat} (h : s.size ≤ j) : run (s.data.toList.drop j) = 0 := by
  rw [List.drop_of_length_le (by simpa using h)]
  rfl
theorem run_le (s : ByteArray) (j : Nat) (h : j ≤ s.size) : j + run (s.data.toList.drop j) ≤ s.size := by
  have h1 : (List.takeWhile spc (s.data.toList.drop j)).length ≤ (s.data.toList.drop j).length := (List.takeWhile_sublist _).length_le
  rw [List.length_drop] at h1
  have : s.data.toList.length = s.size := by simp
  unfold run
  omega

/-- The number in a cell. -/
def cellNat (w : World) (a : Addr) : Nat := match w.cell? a with | some v => (intOf v).toNat | none => 0
theorem cellNat_of {w : World} {a : Addr} {n : Nat} (h : w.cell? a = some (.int .i64 n)) : cellNat w a = n := by simp [cellNat, h, intOf]

set_option maxHeartbeats 1600000 in
theorem skip_any (B b o i n cap : Nat) (s : ByteArray) (w : World) (hn : n = s.size) (hi : i ≤ s.size) (hs : s.size ≤ 1152921504606846976) (hb : b < B)
    (h0 : w.cell? ⟨B, 0, none⟩ = some (.slice (some ⟨b, o, none⟩) n cap)) (h2 : w.cell? ⟨B, 2, none⟩ = some (.int .i64 i)) (hf : w.frozen? ⟨B, 2, none⟩ = false) (hby : Lib.Bytes w b o s) :
    Calls Try.prog 39 #[.pointer (some ⟨B, 0, none⟩)] w fun e w' => e = .returned (.tuple #[]) ∧ w'.cell? ⟨B, 0, none⟩ = some (.slice (some ⟨b, o, none⟩) n cap) ∧ w'.cell? ⟨B, 2, none⟩ = some (.int .i64 (i + run (s.data.toList.drop i) : Nat)) ∧ w'.frozen? ⟨B, 2, none⟩ = false ∧ Below B w w' := by
  subst hn
  have HB : Hid (Lib.Bytes w b o s) := hby
  clear hby
  go_enter Try.func39, Try.ntmps39
  go_wp2
  go_loopw [3] (fun _ wr => ∃ j : Nat, i ≤ j ∧ j ≤ s.size ∧ j + run (s.data.toList.drop j) = i + run (s.data.toList.drop i) ∧ wr.cell? ⟨B, 0, none⟩ = some (.slice (some ⟨b, o, none⟩) s.size cap) ∧ wr.cell? ⟨B, 2, none⟩ = some (.int .i64 j) ∧ wr.frozen? ⟨B, 2, none⟩ = false ∧ Below B w wr)
    (fun _ wr => s.size - cellNat wr ⟨B, 2, none⟩)
  case atStart => exact ⟨i, Nat.le_refl _, hi, rfl, h0, h2, hf, Below.refl _ _⟩
  case round =>
    obtain ⟨j, hij, hj, hrun, hc0, hc2, hfr, hbel⟩ := hrel
    have HR : Hid (j + run (s.data.toList.drop j) = i + run (s.data.toList.drop i)) := hrun
    clear hrun h0 h2 hf
    by_cases hlt : j < s.size
    · have hltI : (j : Int) < (s.size : Int) := by omega
      have hcj : wr.cell? ⟨b, o + j, none⟩ = some (.int .u8 (s[j].toNat : Int)) := (hbel.cell (p := ⟨b, o + j, none⟩) hb).trans (HB.out j hlt)
      obtain ⟨c, hc⟩ : ∃ c, s[j] = c := ⟨_, rfl⟩
      rw [hc] at hcj
      have HCE : Hid (s[j] = c) := hc
      clear hc
      cases hsp : spc c with
      | true =>
        have HC2 : Hid (∀ q, ((wr.drewN q).setCell ⟨B, 2, none⟩ (.int .i64 ((j : Int) + 1))).cell? ⟨B, 2, none⟩ = some (.int .i64 ((j + 1 : Nat) : Int))) := fun q => World.cell?_setCell_same (u := .int .i64 j) _ _ _ (by simpa using hc2)
        have hd : spc s[j] = true := by rw [HCE.out]; exact hsp
        have HST : Hid (run (s.data.toList.drop j) = run (s.data.toList.drop (j + 1)) + 1) := run_hit hlt hd
        have hcs : (32 ≤ (c.toNat : Int) ∧ (c.toNat : Int) ≤ 32) ∨ (9 ≤ (c.toNat : Int) ∧ (c.toNat : Int) ≤ 9) ∨ (10 ≤ (c.toNat : Int) ∧ (c.toNat : Int) ≤ 10) ∨ (13 ≤ (c.toNat : Int) ∧ (c.toNat : Int) ≤ 13) := by
          simp [spc] at hsp; omega
        clear hd hsp
        rcases hcs with ⟨h1, h2⟩ | ⟨h1, h2⟩ | ⟨h1, h2⟩ | ⟨h1, h2⟩
        · have q32 : ((c.toNat : Int) != 32) = false := by simp; omega
          go_wp2_with fail
          go_quiet (fail)
          go_wp2
          go_quiet (fail)
          go_wp2
          go_roundw
          case rel =>
            refine ⟨j + 1, by omega, by omega, by have := HR.out; have := HST.out; omega, ?_, HC2.out _, ?_, (below_drewN hbel _).setCell (p := ⟨B, 2, none⟩) (Nat.le_refl _) _⟩
            · rw [World.cell?_setCell_other _ _ _ _ (by simp)]
              simpa using hc0
            · rw [World.frozen?_setCell]
              simpa using hfr
          case measure => rw [cellNat_of (HC2.out _), cellNat_of hc2]; omega
        · have q32 : ((c.toNat : Int) != 32) = true := by simp; omega
          have q10 : ((c.toNat : Int) != 10) = true := by simp; omega
          have q9 : ((c.toNat : Int) != 9) = false := by simp; omega
          go_wp2_with fail
          go_quiet (fail)
          go_wp2
          go_quiet (fail)
          go_wp2
          go_roundw
          case rel =>
            refine ⟨j + 1, by omega, by omega, by have := HR.out; have := HST.out; omega, ?_, HC2.out _, ?_, (below_drewN hbel _).setCell (p := ⟨B, 2, none⟩) (Nat.le_refl _) _⟩
            · rw [World.cell?_setCell_other _ _ _ _ (by simp)]
              simpa using hc0
            · rw [World.frozen?_setCell]
              simpa using hfr
          case measure => rw [cellNat_of (HC2.out _), cellNat_of hc2]; omega
        · have q32 : ((c.toNat : Int) != 32) = true := by simp; omega
          have q10 : ((c.toNat : Int) != 10) = false := by simp; omega
          go_wp2_with fail
          go_quiet (fail)
          go_wp2
          go_quiet (fail)
          go_wp2
          go_roundw
          case rel =>
            refine ⟨j + 1, by omega, by omega, by have := HR.out; have := HST.out; omega, ?_, HC2.out _, ?_, (below_drewN hbel _).setCell (p := ⟨B, 2, none⟩) (Nat.le_refl _) _⟩
            · rw [World.cell?_setCell_other _ _ _ _ (by simp)]
              simpa using hc0
            · rw [World.frozen?_setCell]
              simpa using hfr
          case measure => rw [cellNat_of (HC2.out _), cellNat_of hc2]; omega
        · have q32 : ((c.toNat : Int) != 32) = true := by simp; omega
          have q10 : ((c.toNat : Int) != 10) = true := by simp; omega
          have q9 : ((c.toNat : Int) != 9) = true := by simp; omega
          have q13 : ((c.toNat : Int) != 13) = false := by simp; omega
          go_wp2_with fail
          go_quiet (fail)
          go_wp2
          go_quiet (fail)
          go_wp2
          go_roundw
          case rel =>
            refine ⟨j + 1, by omega, by omega, by have := HR.out; have := HST.out; omega, ?_, HC2.out _, ?_, (below_drewN hbel _).setCell (p := ⟨B, 2, none⟩) (Nat.le_refl _) _⟩
            · rw [World.cell?_setCell_other _ _ _ _ (by simp)]
              simpa using hc0
            · rw [World.frozen?_setCell]
              simpa using hfr
          case measure => rw [cellNat_of (HC2.out _), cellNat_of hc2]; omega
      | false =>
        have hd : spc s[j] = false := by rw [HCE.out]; exact hsp
        have hr0 := run_miss hlt hd
        have HZ : Hid (j = i + run (s.data.toList.drop i)) := by have := HR.out; show j = _; omega
        have hcs : (32 < (c.toNat : Int)) ∨ ((c.toNat : Int) ≤ 8) ∨ (11 ≤ (c.toNat : Int) ∧ (c.toNat : Int) ≤ 12) ∨ (14 ≤ (c.toNat : Int) ∧ (c.toNat : Int) ≤ 31) := by
          simp [spc] at hsp; omega
        clear hd hsp hr0
        rcases hcs with h1 | h1 | ⟨h1, h2⟩ | ⟨h1, h2⟩
        · go_wp2_with fail
          go_quiet (fail)
          go_wp2
          go_quiet (fail)
          go_wp2
          refine bodyPost_ret (results_none rfl _ _ _) rfl ?_
          exact ⟨rfl, by simpa using hc0, by rw [← HZ.out]; simpa using hc2, by simpa using hfr, below_drewN hbel _⟩
        · have q32 : ((c.toNat : Int) != 32) = true := by simp; omega
          have q10 : ((c.toNat : Int) != 10) = true := by simp; omega
          have q9 : ((c.toNat : Int) != 9) = true := by simp; omega
          have q13 : ((c.toNat : Int) != 13) = true := by simp; omega
          go_wp2_with fail
          go_quiet (fail)
          go_wp2
          go_quiet (fail)
          go_wp2
          refine bodyPost_ret (results_none rfl _ _ _) rfl ?_
          exact ⟨rfl, by simpa using hc0, by rw [← HZ.out]; simpa using hc2, by simpa using hfr, below_drewN hbel _⟩
        · have q32 : ((c.toNat : Int) != 32) = true := by simp; omega
          have q10 : ((c.toNat : Int) != 10) = true := by simp; omega
          have q9 : ((c.toNat : Int) != 9) = true := by simp; omega
          have q13 : ((c.toNat : Int) != 13) = true := by simp; omega
          go_wp2_with fail
          go_quiet (fail)
          go_wp2
          go_quiet (fail)
          go_wp2
          refine bodyPost_ret (results_none rfl _ _ _) rfl ?_
          exact ⟨rfl, by simpa using hc0, by rw [← HZ.out]; simpa using hc2, by simpa using hfr, below_drewN hbel _⟩
        · have q32 : ((c.toNat : Int) != 32) = true := by simp; omega
          have q10 : ((c.toNat : Int) != 10) = true := by simp; omega
          have q9 : ((c.toNat : Int) != 9) = true := by simp; omega
          have q13 : ((c.toNat : Int) != 13) = true := by simp; omega
          go_wp2_with fail
          go_quiet (fail)
          go_wp2
          go_quiet (fail)
          go_wp2
          refine bodyPost_ret (results_none rfl _ _ _) rfl ?_
          exact ⟨rfl, by simpa using hc0, by rw [← HZ.out]; simpa using hc2, by simpa using hfr, below_drewN hbel _⟩
    · have hje : j = s.size := by omega
      subst hje
      have hr0 := run_end (s := s) (Nat.le_refl _)
      have HZ : Hid (s.size = i + run (s.data.toList.drop i)) := by have := HR.out; show s.size = _; omega
      have hdl : decide ((s.size : Int) < (s.size : Int)) = false := by simp
      clear hr0
      go_wp2_with fail
      go_quiet (fail)
      go_wp2
      go_end0
      exact ⟨rfl, by simpa using hc0, by rw [← HZ.out]; simpa using hc2, by simpa using hfr, below_drewN hbel _⟩

/-- What 'next(c)' finds behind the white space. -/
def hit (s : ByteArray) (j : Nat) (c : UInt8) : Bool := s.data.toList[j]? == some c

set_option maxHeartbeats 800000 in
theorem next_any (B b o i n cap : Nat) (c : UInt8) (s : ByteArray) (w : World) (hn : n = s.size) (hi : i ≤ s.size) (hs : s.size ≤ 1152921504606846976) (hb : b < B)
    (h0 : w.cell? ⟨B, 0, none⟩ = some (.slice (some ⟨b, o, none⟩) n cap)) (h2 : w.cell? ⟨B, 2, none⟩ = some (.int .i64 i)) (hf : w.frozen? ⟨B, 2, none⟩ = false) (hby : Lib.Bytes w b o s) (j : Nat) (hj : j = i + run (s.data.toList.drop i)) :
    Calls Try.prog 36 #[.pointer (some ⟨B, 0, none⟩), .int .u8 (c.toNat : Int)] w fun e w' => e = .returned (.bool (hit s j c)) ∧ w'.cell? ⟨B, 2, none⟩ = some (.int .i64 (if hit s j c then j + 1 else j : Nat)) ∧ Below B w w' := by
  subst hn
  have hjl : j ≤ s.size := by rw [hj]; exact run_le s i hi
  have HJ : Hid (j = i + run (s.data.toList.drop i)) := hj
  have HB : Hid (Lib.Bytes w b o s) := hby
  by_cases hlt : j < s.size
  · have hlI : (j : Int) < (s.size : Int) := by omega
    by_cases he : s[j] = c
    · have hh : hit s j c = true := by unfold hit; rw [List.getElem?_eq_getElem (by simpa using hlt)]; have : s.data.toList[j]'(by simpa using hlt) = s[j] := rfl; rw [this, he]; simp
      rw [hh]
      clear hj
      go_enter Try.func36, Try.ntmps36
      go_wp2_with fail
      refine (skip_any B b o i s.size cap s w rfl hi hs hb h0 h2 hf hby).mono ?_
      rintro e w' ⟨rfl, hc0, hc2, hfr, hbel⟩
      rw [← HJ.out] at hc2
      have hcj : w'.cell? ⟨b, o + j, none⟩ = some (.int .u8 (c.toNat : Int)) := by rw [← he]; exact (hbel.cell (p := ⟨b, o + j, none⟩) hb).trans (HB.out j hlt)
      clear h0 h2 hf hby he hh
      go_wp2
      go_quiet (fail)
      go_wp2
      go_ret
      exact ⟨rfl, World.cell?_setCell_same (u := .int .i64 j) _ _ _ (by simpa using hc2), (below_drewN hbel _).setCell (p := ⟨B, 2, none⟩) (Nat.le_refl _) _⟩
    · have hh : hit s j c = false := by unfold hit; rw [List.getElem?_eq_getElem (by simpa using hlt)]; have : s.data.toList[j]'(by simpa using hlt) = s[j] := rfl; rw [this]; simpa using he
      rw [hh]
      obtain ⟨x, hx⟩ : ∃ x, s[j] = x := ⟨_, rfl⟩
      have hne : ((x.toNat : Int) == (c.toNat : Int)) = false := by
        rw [← hx]
        simp
        intro e
        exact he (UInt8.toNat_inj.1 (by omega))
      clear hj
      go_enter Try.func36, Try.ntmps36
      go_wp2_with fail
      refine (skip_any B b o i s.size cap s w rfl hi hs hb h0 h2 hf hby).mono ?_
      rintro e w' ⟨rfl, hc0, hc2, hfr, hbel⟩
      rw [← HJ.out] at hc2
      have hcj : w'.cell? ⟨b, o + j, none⟩ = some (.int .u8 (x.toNat : Int)) := by rw [← hx]; exact (hbel.cell (p := ⟨b, o + j, none⟩) hb).trans (HB.out j hlt)
      clear h0 h2 hf hby he hh hx
      go_wp2
      go_quiet (fail)
      go_wp2
      go_ret
      exact ⟨rfl, by simpa using hc2, below_drewN hbel _⟩
  · have hh : hit s j c = false := by unfold hit; rw [List.getElem?_eq_none (by simp; omega)]; rfl
    rw [hh]
    have hje : j = s.size := by omega
    have hdl : decide ((j : Int) < (s.size : Int)) = false := by simp; omega
    clear hj
    go_enter Try.func36, Try.ntmps36
    go_wp2_with fail
    refine (skip_any B b o i s.size cap s w rfl hi hs hb h0 h2 hf hby).mono ?_
    rintro e w' ⟨rfl, hc0, hc2, hfr, hbel⟩
    rw [← HJ.out] at hc2
    clear h0 h2 hf hby hh hje
    go_wp2
    go_quiet (fail)
    go_wp2
    go_ret
    exact ⟨rfl, by simpa using hc2, below_drewN hbel _⟩

set_option maxHeartbeats 400000 in
/-- ZZParserNext. -/
theorem zznext_any (b o i n cap : Nat) (c : UInt8) (s : ByteArray) (w : World) (hn : n = s.size) (hi : i ≤ s.size) (hs : s.size ≤ 1152921504606846976) (hb : b < w.heap.size) (hc : Lib.Bytes w b o s) (j : Nat) (hj : j = i + run (s.data.toList.drop i)) (t : Bool) (r : Nat) (ht : hit s j c = t) (hr : (if t then j + 1 else j : Nat) = r) :
    Calls Try.prog 24 #[.slice (some ⟨b, o, none⟩) n cap, .int .i64 i, .int .u8 (c.toNat : Int)] w fun e w' => e = .returned (.tuple #[.bool t, .int .i64 (r : Nat)]) ∧ Below w.heap.size w w' := by
  subst hn
  have hcv := Lib.run_convert_whole (P := Try.prog) w 22 5 9 Try.underlying22 Try.underlying5 Try.underlying9 b o s hc cap
  have HJ : Hid (j = i + run (s.data.toList.drop i)) := hj
  have HT : Hid (hit s j c = t) := ht
  have HR : Hid ((if t then j + 1 else j : Nat) = r) := hr
  clear hj ht hr
  go_enter Try.func24, Try.ntmps24
  go_wp2_with fail
  refine (next_any w.heap.size b o i s.size cap c s _ rfl hi hs hb ?h0 ?h2 ?hf ?hby j HJ.out).mono ?_
  case h0 => simp
  case h2 => simp
  case hf => simp
  case hby => exact fun j hj => by rw [World.cell?_alloc_past _ _ _ hb]; exact hc j hj
  rintro e w' ⟨rfl, hcl, hb'⟩
  clear hc hcv
  rw [HT.out] at hcl ⊢
  rw [HR.out] at hcl
  go_wp2
  go_quiet (fail)
  go_wp2
  go_ret2
  exact ⟨rfl, ((Below.refl _ _).alloc (Nat.le_refl _) _).trans (below_drewN hb' _)⟩

end Go.Proofs.Qxb6003345a.Next
