import Derived.Test.Qxb6003345aWaitsFill
import Derived.Test.Qxb6003345aStrsIn
import Derived.Deep.QuietTactic
import Derived.BigQuiet
import Derived.Deep.RegionHeld3
import Derived.Deep.DrawnRows
namespace Go.Proofs.Qxb6003345a.WaitLaw
open Go.RowKit Go.Maps
open Go.Proofs.Qxb6003345a.Tally Go.Proofs.Qxb6003345a.Itoa Go.Proofs.Qxb6003345a.Fill Go.Proofs.Qxb6003345a.StrsIn Go.Proofs.Qxb6003345a.Waits Go.Proofs.Qxb6003345a.WaitsFill

theorem str_one (s : ByteArray) : ∀ u ∈ [Value.string s], u.oneCell' = true := by intro u hu; simp at hu; subst hu; rfl
theorem own_kept_none {w w' : World} {base e size : Nat} {v : Value} {n : Nat} {xs : List Value} (h : w.ownsRow base e size v n xs) (hg : w.grownBy w' none) : w'.ownsRow base e size v n xs :=
  h.kept hg (by cases hv : v.ownBlock with | none => exact Or.inl rfl | some b => exact Or.inr (by simp))
theorem own_kept_at {w w' : World} {base e size m : Nat} {v : Value} {n : Nat} {xs : List Value} (h : w.ownsRow base e size v n xs) (hg : w.grownBy w' (some m)) (hm : m < base) : w'.ownsRow base e size v n xs :=
  h.kept hg (Or.inr (fun e => by have := (h.lt m e).1; omega))
theorem fin_eq (a k : Nat) : (decide (a = k) == (((a : Nat) : Int) == (k : Int))) = true := by
  by_cases h : a = k
  · simp [h]
  · have h1 : ((a : Int) == (k : Int)) = false := by simp; omega
    simp [h, h1]
theorem grown_of_below {w w' : World} (hb : Below w.heap.size w w') : w.grownBy w' none := ⟨hb.os, hb.tape, hb.output, hb.size, fun k hk _ => hb.block k hk⟩

set_option maxHeartbeats 1600000 in
set_option maxRecDepth 100000 in
theorem walk_once (w : World) (x : Addr) (n cap : Nat) (ss : List ByteArray) (hn : ss.length = n) (hn0 : 0 < n) (hlen : n ≤ 4096) (hsr : StrRow w (some x) n)
    (hc : ∀ j v, (ss.map Value.string)[j]? = some v → w.cell? (x.add j) = some v) (hwf : ∀ s ∈ ss, s.size ≤ maxLen) :
    Calls Try.prog 8 #[.slice (some x) n cap, .bool false] w fun e w' => e = .returned (.bool true) ∧ Below w.heap.size w w' := by
  obtain ⟨i0, hi, hz0, hz1, hz2⟩ := info_parts Clone.info9
  have hmm := @run_makeMap Try.prog
  go_enter Try.func8, Try.ntmps8
  go_wp2_with fail
  refine (zz29_any w (some x) n cap false (by unfold maxLen; omega) hsr).mono ?_
  rintro e w' ⟨⟨b, rfl⟩, rfl⟩
  cases b
  · go_wp2
    go_ret
    exact ⟨rfl, Below.refl _ _⟩
  go_wp2_with fail
  refine (size26_any w' (some x) n cap (by unfold maxLen; omega) hsr).mono ?_
  rintro e w ⟨⟨v, rfl⟩, rfl⟩
  by_cases hv : 1048576 < v
  · go_wp2
    go_ret
    exact ⟨rfl, Below.refl _ _⟩
  go_wp2_with fail
  refine (Clone.clone_someS w x n cap (ss.map Value.string) (by simpa using hn) (by omega) hc (by intro v hv; obtain ⟨s, _, rfl⟩ := List.mem_map.1 hv; rfl)).mono ?_
  rintro e w1 ⟨rfl, hrow, hb1⟩
  go_wp2_with fail
  go_loopw [6, 7] (fun a i wr => ∃ (k : Nat) (ts : Ts) (ids : List ByteArray), i = .int .i64 k ∧ k ≤ n ∧ Filled2 w1 wr k ts (ss.map (·.data.toList)) ∧ Ids ids ts ∧ wr.ownsRow (w1.heap.size + 2) 9 1 a (k) (ids.map Value.string) ∧ w1.heap.size + 2 ≤ wr.heap.size) (fun _ i _ => n - (intOf i).toNat)
  case atStart =>
    refine ⟨0, [], [], rfl, Nat.zero_le _, ⟨⟨List.Pairwise.nil, .map [], (World.ownsMap_made _ _ _ _).alloc _, fun k hk => ?_, fun p hp => ?_⟩, by simp, ?_, ?_, ((Below.refl _ _).alloc (Nat.le_refl _) _).alloc (by simp) _⟩, ids_nil, World.ownsRow_nil _ _ _ _, by simp⟩
    · cases hk
    · cases hp
    · intro j p hj; simp at hj
    · simp
  case round =>
    obtain ⟨k, ts, ids, rfl, hk, hF, hids, hown6, hws⟩ := hrel
    by_cases hlt : k < n
    · have hF0 := hF
      obtain ⟨⟨hpw, D, hown, hhas, hts⟩, hsnd, hkd, hrc, hbw⟩ := hF
      have hkI : (k : Int) < (n : Int) := by omega
      have hk0 : (0 : Int) ≤ (k : Int) := by omega
      have hml := hown.lt
      have hrl := World.block_lt_of_cell? wr _ hrc
      obtain ⟨s, hs⟩ : ∃ s, ss[k]? = some s := ⟨ss[k]'(by omega), List.getElem?_eq_getElem _⟩
      have hgm : w.heap.size < w1.heap.size := Clone.block_lt hrow
      have hcs : wr.cell? ⟨w.heap.size, k, none⟩ = some (.string s) := (hbw.cell (p := ⟨w.heap.size, k, none⟩) hgm).trans (Clone.row_cell hrow k _ (by simp [hs]))
      have hku : IntKind.u64.wrap (k : Int) = (k : Int) := IntWalk.u64_in _ (by omega)
      obtain ⟨upd, hupd, HU⟩ := upd_same (by unfold maxLen; omega) hown
      go_wp2_with fail
      refine (itoa_any k _ rfl _ (by omega)).mono ?_
      rintro e w' ⟨L, rfl, hL, hdg, hval, hbel, hsz⟩
      have hL1 : ¬ (9223372036854775807 < 1 + L.length) := by omega
      have hL2 : ¬ (9223372036854775807 < L.length + 1) := by omega
      have hG3 : ∀ o, SameMap wr w1.heap.size (w'.alloc o).drew := fun o => SameMap.below (hbel.alloc hbel.size o).drew hml
      have hrc' : w'.cell? ⟨w1.heap.size + 1, 12, none⟩ = some (.map (some w1.heap.size)) := cell_later hbel hrc
      have hcs' : w'.cell? ⟨w.heap.size, k, none⟩ = some (.string s) := cell_later hbel hcs
      go_wp2_with fail
      go_region_held3 (fun w' => w'.cell? ⟨w1.heap.size + 1, 12, none⟩ = some (.map (some w1.heap.size)) ∧ w'.cell? ⟨w.heap.size, k, none⟩ = some (.string s))
        (first | go_keep | (refine ⟨?_, ?_⟩ <;> refine upd_cell HU (hG3 _) (Nat.le_refl 1) hL (by omega) ?_ <;> (go_split_ands; assumption)))
        (fail)
      generalize hkey : (_ ++ (⟨L.toArray⟩ : ByteArray)) = key
      generalize hW : upd _ _ _ = W2
      have hky : key.data.toList = 116 :: L := by rw [← hkey]; simp
      have hkz : key.size ≤ maxLen := by rw [← hkey]; exact key_size (Nat.le_refl 1) hL
      have hF2 : Filled2 w1 W2 (k + 1) (ts ++ [(key.data.toList, s.data.toList)]) (ss.map (·.data.toList)) := by
        rw [hky, ← hW, ← hkey]
        exact filled2_step HU hpw hown hhas hts hsnd hkd hrc hbw (by simp [hs]) (hwf s (List.mem_of_getElem? hs)) rfl hL hval (hbel.alloc hbel.size _).drew ⟨_, (0, 0), heap_alloc_new w' _, rfl⟩
      have hO2 : W2.ownsRow (w1.heap.size + 2) 9 1 u6 (k) (ids.map Value.string) := by
        rw [← hW, ← hkey]
        exact own_kept_at ((own_kept_none hown6 (grown_of_below hbel)).alloc _).drew (HU.out _ _ _ _ (hG3 _) (by exact Nat.le_refl 1) hL).2 (by omega)
      have hW2s : w1.heap.size + 2 ≤ W2.heap.size := by
        rw [← hW, ← hkey]
        exact Nat.le_trans (Nat.le_trans hws (Nat.le_trans hbel.size (by simp))) (HU.out _ _ _ _ (hG3 _) (by exact Nat.le_refl 1) hL).2.size
      have HKY : Hid (key.data.toList = 116 :: L) := hky
      clear hW hkey hky hupd HU hG3 hpw hown hhas hts hsnd hkd hrc hbw hrc' hcs' hcs hown6 hbel hsz hF0
      go_wp2_with (first
        | (at_builtin; refine wpList_append_own _ rfl (.tmp 48) (.tmp 50) 41 rfl (w1.heap.size + 2) 9 i0 (.string ByteArray.empty) 1 16 Try.underlying41 hi hz0 hz1 hz2 rfl (by decide) _ (k) (ids.map Value.string) rfl (hO2.alloc _) ⟨W2.heap.size, 0, none⟩ 1 1 [Value.string _] rfl rfl (cell_one_new _ _ _) (str_one _) (by unfold maxLen; omega) (by omega) (by simp; omega) ?_; intro v5 w5 hv5 hg5 _))
      have hF5 := (hF2.alloc _).kept (hO2.alloc _) (Nat.le_refl _) hg5
      have hs5 : w1.heap.size + 2 ≤ w5.heap.size := Nat.le_trans (Nat.le_trans hW2s (by simp)) hg5.size
      go_wp2
      go_roundw
      case rel =>
        refine ⟨k + 1, _, ids ++ [key], by go_num, by omega, hF5, ?_, ?_, hs5⟩
        · exact ids_more hids hkz (fun a ha => by simpa using ha) (by simp)
        · rw [List.map_append]; exact hv5
      case measure => simp [intOf]; omega

    · have hkn : k = n := by omega
      subst hkn
      obtain ⟨g6, c6, hu6⟩ : ∃ g c, u6 = .slice (some ⟨g, 0, none⟩) (k) c := by
        rcases hown6.2 with ⟨_, h0⟩ | ⟨g, c, cur, h0, _⟩
        · omega
        · exact ⟨g, c, h0⟩
      subst hu6
      have hls : (ss.map (·.data.toList)).length = k := by simpa using hn
      have hgm : w.heap.size < w1.heap.size := Clone.block_lt hrow
      have hsnd := hF.2.1
      have htk : ts.map (·.2) = ss.map (·.data.toList) := by rw [hsnd]; exact List.take_of_length_le (by omega)
      have htl : ts.length = k := by have := congrArg List.length htk; simp at this; omega
      have hpw := hF.1.1
      have HF3 : Hid (∀ o, Filled2 w1 (wr.alloc o) k ts (ss.map (·.data.toList))) := fun o => hF.alloc o
      have hbw := hF.2.2.2.2
      have HO3 : Hid (∀ o, (wr.alloc o).ownsRow (w1.heap.size + 2) 9 1 (.slice (some ⟨g6, 0, none⟩) (k) c6) (k) (ids.map Value.string)) := fun o => hown6.alloc o
      have HTL : Hid (ts.length = k) := htl
      have HIN : Hid (∀ a ∈ ids, ∃ s, (a.data.toList, s) ∈ ts) := fun a ha => (hids.1 a ha).2
      have HAD : Hid ((ids.all fun a => doneB ts a.data.toList) = decide (tot ts doneL = ts.length)) := all_done hpw HIN.out hids.2
      clear hsnd htk hF hown6 hrow hsr hc hn hls hmm
      go_wp2_with fail
      refine (zzwaits_any _ (w1.heap.size + 1) wr.heap.size w1.heap.size k (w1.heap.size + 2) (k) (.slice (some ⟨g6, 0, none⟩) (k) c6) ts ids (HF3.out _).1.tasks (HF3.out _).2.2.2.1 ?ht (by omega) (HO3.out _) hids.1).mono ?_
      case ht => simp
      rintro e w3 ⟨rfl, rfl⟩
      rw [HAD.out]
      go_wp2_with fail
      refine (counts_any _ (w1.heap.size + 1) w1.heap.size k ts (HF3.out _).1.tasks (by omega) (by omega) (HF3.out _).2.2.2.1).mono ?_
      rintro e w4 ⟨mo, N', Dc, rfl, hown, hat, hhas, hb4⟩
      have hsw : w.heap.size ≤ wr.heap.size := by have := hb1.size; have := hbw.size; omega
      have hba := fun o => ((hb1.trans (hbw.mono hb1.size)).alloc hsw o)
      have hfin : Below w.heap.size w w4 := (hba _).trans (hb4.mono (hba _).size)
      have HAT : Hid (∀ t, Dc.atKey (.string t) (.lit (.int .i64 0)) = .lit (.int .i64 (tot ts t))) := hat
      clear hat hhas hb4 hbw hb1 htl hba
      go_wp2_with (at_lookup; refine wpList_lookup_own_int _ rfl _ _ 60 rfl 9 3 .i64 law9 Try.underlying60 Try.underlying3 (zero3 _) mo N' Dc rfl hown _ _ rfl (WideMaps.keyOf_string_mk Try.underlying9 (by decide)) ?_; intro c hatc hwc)
      have ec : c = (tot ts doneL : Int) := by
        have h1 := (HAT.out doneL).symm.trans hatc
        injection h1 with h1
        injection h1 with _ h1
        exact h1.symm
      go_ret
      refine ⟨?_, hfin⟩
      show Ending.returned (.bool (decide (tot ts doneL = k) == (c == (k : Int)))) = _
      rw [ec, fin_eq]

set_option maxHeartbeats 1600000 in
set_option maxRecDepth 100000 in
theorem walk_twice (w : World) (x : Addr) (n cap : Nat) (ss : List ByteArray) (hn : ss.length = n) (hn0 : 0 < n) (hlen : n ≤ 4096) (hsr : StrRow w (some x) n)
    (hc : ∀ j v, (ss.map Value.string)[j]? = some v → w.cell? (x.add j) = some v) (hwf : ∀ s ∈ ss, s.size ≤ maxLen) :
    Calls Try.prog 8 #[.slice (some x) n cap, .bool true] w fun e w' => e = .returned (.bool true) ∧ Below w.heap.size w w' := by
  obtain ⟨i0, hi, hz0, hz1, hz2⟩ := info_parts Clone.info9
  have hmm := @run_makeMap Try.prog
  go_enter Try.func8, Try.ntmps8
  go_wp2_with fail
  refine (zz29_any w (some x) n cap true (by unfold maxLen; omega) hsr).mono ?_
  rintro e w' ⟨⟨b, rfl⟩, rfl⟩
  cases b
  · go_wp2
    go_ret
    exact ⟨rfl, Below.refl _ _⟩
  go_wp2_with fail
  refine (size26_any w' (some x) n cap (by unfold maxLen; omega) hsr).mono ?_
  rintro e w ⟨⟨v, rfl⟩, rfl⟩
  by_cases hv : 1048576 < v
  · go_wp2
    go_ret
    exact ⟨rfl, Below.refl _ _⟩
  go_wp2_with fail
  refine (Clone.clone_someS w x n cap (ss.map Value.string) (by simpa using hn) (by omega) hc (by intro v hv; obtain ⟨s, _, rfl⟩ := List.mem_map.1 hv; rfl)).mono ?_
  rintro e w1 ⟨rfl, hrow, hb1⟩
  go_wp2_with fail
  go_loopw [6, 7] (fun a i wr => ∃ (k : Nat) (ts : Ts) (ids : List ByteArray), i = .int .i64 k ∧ k ≤ n ∧ Filled2 w1 wr k ts (ss.map (·.data.toList)) ∧ Ids ids ts ∧ wr.ownsRow (w1.heap.size + 2) 9 1 a (2 * k) (ids.map Value.string) ∧ w1.heap.size + 2 ≤ wr.heap.size) (fun _ i _ => n - (intOf i).toNat)
  case atStart =>
    refine ⟨0, [], [], rfl, Nat.zero_le _, ⟨⟨List.Pairwise.nil, .map [], (World.ownsMap_made _ _ _ _).alloc _, fun k hk => ?_, fun p hp => ?_⟩, by simp, ?_, ?_, ((Below.refl _ _).alloc (Nat.le_refl _) _).alloc (by simp) _⟩, ids_nil, World.ownsRow_nil _ _ _ _, by simp⟩
    · cases hk
    · cases hp
    · intro j p hj; simp at hj
    · simp
  case round =>
    obtain ⟨k, ts, ids, rfl, hk, hF, hids, hown6, hws⟩ := hrel
    by_cases hlt : k < n
    · have hF0 := hF
      obtain ⟨⟨hpw, D, hown, hhas, hts⟩, hsnd, hkd, hrc, hbw⟩ := hF
      have hkI : (k : Int) < (n : Int) := by omega
      have hk0 : (0 : Int) ≤ (k : Int) := by omega
      have hml := hown.lt
      have hrl := World.block_lt_of_cell? wr _ hrc
      obtain ⟨s, hs⟩ : ∃ s, ss[k]? = some s := ⟨ss[k]'(by omega), List.getElem?_eq_getElem _⟩
      have hgm : w.heap.size < w1.heap.size := Clone.block_lt hrow
      have hcs : wr.cell? ⟨w.heap.size, k, none⟩ = some (.string s) := (hbw.cell (p := ⟨w.heap.size, k, none⟩) hgm).trans (Clone.row_cell hrow k _ (by simp [hs]))
      have hku : IntKind.u64.wrap (k : Int) = (k : Int) := IntWalk.u64_in _ (by omega)
      obtain ⟨upd, hupd, HU⟩ := upd_same (by unfold maxLen; omega) hown
      go_wp2_with fail
      refine (itoa_any k _ rfl _ (by omega)).mono ?_
      rintro e w' ⟨L, rfl, hL, hdg, hval, hbel, hsz⟩
      have hL1 : ¬ (9223372036854775807 < 1 + L.length) := by omega
      have hL2 : ¬ (9223372036854775807 < L.length + 1) := by omega
      have hG3 : ∀ o, SameMap wr w1.heap.size (w'.alloc o).drew := fun o => SameMap.below (hbel.alloc hbel.size o).drew hml
      have hrc' : w'.cell? ⟨w1.heap.size + 1, 12, none⟩ = some (.map (some w1.heap.size)) := cell_later hbel hrc
      have hcs' : w'.cell? ⟨w.heap.size, k, none⟩ = some (.string s) := cell_later hbel hcs
      go_wp2_with fail
      go_region_held3 (fun w' => w'.cell? ⟨w1.heap.size + 1, 12, none⟩ = some (.map (some w1.heap.size)) ∧ w'.cell? ⟨w.heap.size, k, none⟩ = some (.string s))
        (first | go_keep | (refine ⟨?_, ?_⟩ <;> refine upd_cell HU (hG3 _) (Nat.le_refl 1) hL (by omega) ?_ <;> (go_split_ands; assumption)))
        (fail)
      generalize hkey : (_ ++ (⟨L.toArray⟩ : ByteArray)) = key
      generalize hW : upd _ _ _ = W2
      have hky : key.data.toList = 116 :: L := by rw [← hkey]; simp
      have hkz : key.size ≤ maxLen := by rw [← hkey]; exact key_size (Nat.le_refl 1) hL
      have hF2 : Filled2 w1 W2 (k + 1) (ts ++ [(key.data.toList, s.data.toList)]) (ss.map (·.data.toList)) := by
        rw [hky, ← hW, ← hkey]
        exact filled2_step HU hpw hown hhas hts hsnd hkd hrc hbw (by simp [hs]) (hwf s (List.mem_of_getElem? hs)) rfl hL hval (hbel.alloc hbel.size _).drew ⟨_, (0, 0), heap_alloc_new w' _, rfl⟩
      have hO2 : W2.ownsRow (w1.heap.size + 2) 9 1 u6 (2 * k) (ids.map Value.string) := by
        rw [← hW, ← hkey]
        exact own_kept_at ((own_kept_none hown6 (grown_of_below hbel)).alloc _).drew (HU.out _ _ _ _ (hG3 _) (by exact Nat.le_refl 1) hL).2 (by omega)
      have hW2s : w1.heap.size + 2 ≤ W2.heap.size := by
        rw [← hW, ← hkey]
        exact Nat.le_trans (Nat.le_trans hws (Nat.le_trans hbel.size (by simp))) (HU.out _ _ _ _ (hG3 _) (by exact Nat.le_refl 1) hL).2.size
      have HKY : Hid (key.data.toList = 116 :: L) := hky
      clear hW hkey hky hupd HU hG3 hpw hown hhas hts hsnd hkd hrc hbw hrc' hcs' hcs hown6 hbel hsz hF0
      go_wp2_with (first
        | (at_builtin; refine wpList_append_own _ rfl (.tmp 48) (.tmp 50) 41 rfl (w1.heap.size + 2) 9 i0 (.string ByteArray.empty) 1 16 Try.underlying41 hi hz0 hz1 hz2 rfl (by decide) _ (2 * k) (ids.map Value.string) rfl (hO2.alloc _) ⟨W2.heap.size, 0, none⟩ 1 1 [Value.string _] rfl rfl (cell_one_new _ _ _) (str_one _) (by unfold maxLen; omega) (by omega) (by simp; omega) ?_; intro v5 w5 hv5 hg5 _)
        | (at_builtin; refine wpList_append_own _ rfl (.tmp 53) (.tmp 55) 41 rfl (w1.heap.size + 2) 9 i0 (.string ByteArray.empty) 1 16 Try.underlying41 hi hz0 hz1 hz2 rfl (by decide) _ (2 * k + 1) (ids.map Value.string ++ [_]) rfl (hv5.alloc _) ⟨w5.heap.size, 0, none⟩ 1 1 [Value.string _] rfl rfl (cell_one_new _ _ _) (str_one _) (by unfold maxLen; omega) (by omega) (Nat.le_trans (Nat.le_trans (Nat.le_trans hW2s (by simp)) hg5.size) (by simp)) ?_; intro v6 w6 hv6 hg6 _))
      have hF5 := (hF2.alloc _).kept (hO2.alloc _) (Nat.le_refl _) hg5
      have hF6 := (hF5.alloc _).kept (hv5.alloc _) (Nat.le_refl _) hg6
      have hs5 : w1.heap.size + 2 ≤ w6.heap.size := Nat.le_trans (Nat.le_trans (Nat.le_trans (Nat.le_trans hW2s (by simp)) hg5.size) (by simp)) hg6.size
      go_wp2
      go_roundw
      case rel =>
        refine ⟨k + 1, _, ids ++ [key, key], by go_num, by omega, hF6, ?_, ?_, hs5⟩
        · exact ids_more hids hkz (fun a ha => by simpa using ha) (by simp)
        · have e : (ids ++ [key, key]).map Value.string = ids.map Value.string ++ [Value.string key] ++ [Value.string key] := by simp
          rw [e]; exact hv6
      case measure => simp [intOf]; omega

    · have hkn : k = n := by omega
      subst hkn
      obtain ⟨g6, c6, hu6⟩ : ∃ g c, u6 = .slice (some ⟨g, 0, none⟩) (2 * k) c := by
        rcases hown6.2 with ⟨_, h0⟩ | ⟨g, c, cur, h0, _⟩
        · omega
        · exact ⟨g, c, h0⟩
      subst hu6
      have hls : (ss.map (·.data.toList)).length = k := by simpa using hn
      have hgm : w.heap.size < w1.heap.size := Clone.block_lt hrow
      have hsnd := hF.2.1
      have htk : ts.map (·.2) = ss.map (·.data.toList) := by rw [hsnd]; exact List.take_of_length_le (by omega)
      have htl : ts.length = k := by have := congrArg List.length htk; simp at this; omega
      have hpw := hF.1.1
      have HF3 : Hid (∀ o, Filled2 w1 (wr.alloc o) k ts (ss.map (·.data.toList))) := fun o => hF.alloc o
      have hbw := hF.2.2.2.2
      have HO3 : Hid (∀ o, (wr.alloc o).ownsRow (w1.heap.size + 2) 9 1 (.slice (some ⟨g6, 0, none⟩) (2 * k) c6) (2 * k) (ids.map Value.string)) := fun o => hown6.alloc o
      have HTL : Hid (ts.length = k) := htl
      have HIN : Hid (∀ a ∈ ids, ∃ s, (a.data.toList, s) ∈ ts) := fun a ha => (hids.1 a ha).2
      have HAD : Hid ((ids.all fun a => doneB ts a.data.toList) = decide (tot ts doneL = ts.length)) := all_done hpw HIN.out hids.2
      clear hsnd htk hF hown6 hrow hsr hc hn hls hmm
      go_wp2_with fail
      refine (zzwaits_any _ (w1.heap.size + 1) wr.heap.size w1.heap.size k (w1.heap.size + 2) (2 * k) (.slice (some ⟨g6, 0, none⟩) (2 * k) c6) ts ids (HF3.out _).1.tasks (HF3.out _).2.2.2.1 ?ht (by omega) (HO3.out _) hids.1).mono ?_
      case ht => simp
      rintro e w3 ⟨rfl, rfl⟩
      rw [HAD.out]
      go_wp2_with fail
      refine (counts_any _ (w1.heap.size + 1) w1.heap.size k ts (HF3.out _).1.tasks (by omega) (by omega) (HF3.out _).2.2.2.1).mono ?_
      rintro e w4 ⟨mo, N', Dc, rfl, hown, hat, hhas, hb4⟩
      have hsw : w.heap.size ≤ wr.heap.size := by have := hb1.size; have := hbw.size; omega
      have hba := fun o => ((hb1.trans (hbw.mono hb1.size)).alloc hsw o)
      have hfin : Below w.heap.size w w4 := (hba _).trans (hb4.mono (hba _).size)
      have HAT : Hid (∀ t, Dc.atKey (.string t) (.lit (.int .i64 0)) = .lit (.int .i64 (tot ts t))) := hat
      clear hat hhas hb4 hbw hb1 htl hba
      go_wp2_with (at_lookup; refine wpList_lookup_own_int _ rfl _ _ 60 rfl 9 3 .i64 law9 Try.underlying60 Try.underlying3 (zero3 _) mo N' Dc rfl hown _ _ rfl (WideMaps.keyOf_string_mk Try.underlying9 (by decide)) ?_; intro c hatc hwc)
      have ec : c = (tot ts doneL : Int) := by
        have h1 := (HAT.out doneL).symm.trans hatc
        injection h1 with h1
        injection h1 with _ h1
        exact h1.symm
      go_ret
      refine ⟨?_, hfin⟩
      show Ending.returned (.bool (decide (tot ts doneL = k) == (c == (k : Int)))) = _
      rw [ec, fin_eq]

set_option maxHeartbeats 800000 in
set_option maxRecDepth 100000 in
theorem walk_zero (w : World) (p : Option Addr) (cap : Nat) (tw : Bool) (hc : Clone.Came w p 0 cap []) :
    Calls Try.prog 8 #[.slice p 0 cap, .bool tw] w fun e w' => e = .returned (.bool true) ∧ Below w.heap.size w w' := by
  have hmm := @run_makeMap Try.prog
  go_enter Try.func8, Try.ntmps8
  go_wp2_with fail
  refine (zz29_any w p 0 cap tw (Nat.zero_le _) (Or.inl rfl)).mono ?_
  rintro e w' ⟨⟨b, rfl⟩, rfl⟩
  cases b
  · go_wp2
    go_ret
    exact ⟨rfl, Below.refl _ _⟩
  go_wp2_with fail
  refine (size26_any w' p 0 cap (Nat.zero_le _) (Or.inl rfl)).mono ?_
  rintro e w ⟨⟨v, rfl⟩, rfl⟩
  by_cases hv : 1048576 < v
  · go_wp2
    go_ret
    exact ⟨rfl, Below.refl _ _⟩
  go_wp2_with fail
  refine (Clone.clone_anyS w p 0 cap [] hc (Nat.zero_le _)).mono ?_
  rintro e w1 ⟨q, c, rfl, _, _, hb1⟩
  have hT : Filled2 w1 ((w1.alloc (.map #[] 0)).alloc (.cells #[.int .i64 0, .string ⟨#[]⟩, .string ⟨#[]⟩, .int .i64 0, .string ⟨#[]⟩, .string ⟨#[]⟩, .string ⟨#[]⟩, .pointer none, .pointer none, .pointer none, .map none, .map none, .map (some w1.heap.size)] 55)) 0 [] [] := by
    refine ⟨⟨List.Pairwise.nil, .map [], (World.ownsMap_made _ _ _ _).alloc _, fun k hk => ?_, fun p hp => ?_⟩, by simp, ?_, ?_, ((Below.refl _ _).alloc (Nat.le_refl _) _).alloc (by simp) _⟩
    · cases hk
    · cases hp
    · intro j p hj; simp at hj
    · simp
  have HF3 := fun o => hT.alloc o
  have hbw := hT.2.2.2.2
  go_wp2_with fail
  refine wp_loop_rounds 1 ?_
  rw [rounds_succ]
  go_wp2_with fail
  refine (zzwaits_any _ (w1.heap.size + 1) (w1.heap.size + 2) w1.heap.size 0 0 0 (.slice none 0 0) [] [] (HF3 _).1.tasks (HF3 _).2.2.2.1 ?ht (Nat.zero_le _) (World.ownsRow_nil _ _ _ _) (fun a ha => by cases ha)).mono ?_
  case ht => rw [World.cell?_alloc_at _ _ _ _ (by simp)]; rfl
  rintro e w3 ⟨rfl, rfl⟩
  go_wp2_with fail
  refine (counts_any _ (w1.heap.size + 1) w1.heap.size 0 [] (HF3 _).1.tasks (Nat.zero_le _) (Nat.zero_le _) (HF3 _).2.2.2.1).mono ?_
  rintro e w4 ⟨mo, N', Dc, rfl, hown, hat, hhas, hb4⟩
  have hba := fun o => ((hb1.trans (hbw.mono hb1.size)).alloc (by have := hb1.size; simp; omega) o)
  have hfin : Below w.heap.size w w4 := (hba _).trans (hb4.mono (hba _).size)
  have HAT : Hid (∀ t, Dc.atKey (.string t) (.lit (.int .i64 0)) = .lit (.int .i64 (tot [] t))) := hat
  clear hat hhas hb4 hbw hb1 hba HF3 hT hmm
  go_wp2_with (at_lookup; refine wpList_lookup_own_int _ rfl _ _ 60 rfl 9 3 .i64 law9 Try.underlying60 Try.underlying3 (zero3 _) mo N' Dc rfl hown _ _ rfl (WideMaps.keyOf_string_mk Try.underlying9 (by decide)) ?_; intro c hatc hwc)
  have ec : c = 0 := by
    have h1 := (HAT.out doneL).symm.trans hatc
    injection h1 with h1
    injection h1 with _ h1
    exact h1.symm
  subst ec
  go_ret
  exact ⟨rfl, hfin⟩

set_option maxHeartbeats 400000 in
theorem walk_long (w : World) (p : Option Addr) (n cap : Nat) (tw : Bool) (hlen : 4096 < n) (hm : n ≤ maxLen) (hsr : StrRow w p n) :
    Calls Try.prog 8 #[.slice p n cap, .bool tw] w fun e w' => e = .returned (.bool true) ∧ Below w.heap.size w w' := by
  unfold maxLen at hm
  go_enter Try.func8, Try.ntmps8
  go_wp2_with fail
  refine (zz29_any w p n cap tw (by unfold maxLen; omega) hsr).mono ?_
  rintro e w' ⟨⟨b, rfl⟩, rfl⟩
  cases b
  · go_wp2
    go_ret
    exact ⟨rfl, Below.refl _ _⟩
  go_wp2_with fail
  refine (size26_any w' p n cap (by unfold maxLen; omega) hsr).mono ?_
  rintro e w ⟨⟨v, rfl⟩, rfl⟩
  by_cases hv : 1048576 < v
  · go_wp2
    go_ret
    exact ⟨rfl, Below.refl _ _⟩
  go_wp2
  go_ret
  exact ⟨rfl, Below.refl _ _⟩

end Go.Proofs.Qxb6003345a.WaitLaw
