import Derived.Test.Qxb6003345aFill
import Derived.Test.Qxb6003345aClone
import Derived.Test.Qxb6003345aStrsIn
import Derived.Deep.QuietTactic
import Derived.BigQuiet
import Derived.Deep.RegionHeld3
import Derived.Deep.DrawnRows
namespace Go.Proofs.Qxb6003345a.CountsLaw
open Go.RowKit Go.Maps
open Go.Proofs.Qxb6003345a.Tally Go.Proofs.Qxb6003345a.Itoa Go.Proofs.Qxb6003345a.Fill Go.Proofs.Qxb6003345a.StrsIn

theorem map_at {ss : List ByteArray} {p : Nat} {s : ByteArray} (h : ss[p]? = some s) : (ss.map (·.data.toList))[p]? = some s.data.toList := by simp [h]

theorem same_bytes {a b : ByteArray} (h : (a.toList == b.toList) = true) : a.data.toList = b.data.toList := by
  rw [← ByteArray.toList_eq, ← ByteArray.toList_eq]
  simpa using h
theorem other_bytes {a b : ByteArray} (h : (a.toList == b.toList) = false) : a.data.toList ≠ b.data.toList := by
  rw [← ByteArray.toList_eq, ← ByteArray.toList_eq]
  simpa using h

theorem call_below {wr W0 w' : World} (hb : Below W0.heap.size W0 w') (h : Below wr.heap.size wr W0) : Below wr.heap.size wr w' := h.trans (hb.mono h.size)

set_option maxHeartbeats 400000 in
set_option maxRecDepth 100000 in
theorem walk_main (w : World) (x : Addr) (n cap : Nat) (ss : List ByteArray) (hn : ss.length = n) (hn0 : 0 < n) (hlen : n ≤ 4096) (hsr : StrRow w (some x) n)
    (hc : ∀ j v, (ss.map Value.string)[j]? = some v → w.cell? (x.add j) = some v) (hwf : ∀ s ∈ ss, s.size ≤ maxLen) :
    Calls Try.prog 7 #[.slice (some x) n cap] w fun e w' => e = .returned (.bool true) ∧ Below w.heap.size w w' := by
  have hmm := @run_makeMap Try.prog
  go_enter Try.func7, Try.ntmps7
  go_wp2_with fail
  refine (zz25_any w (some x) n cap (by unfold maxLen; omega) hsr).mono ?_
  rintro e w' ⟨⟨b, rfl⟩, rfl⟩
  cases b
  · go_wp2
    go_ret
    exact ⟨rfl, Below.refl _ _⟩
  go_wp2_with fail
  refine (size26_any w' (some x) n cap (by unfold maxLen; omega) hsr).mono ?_
  rintro e w ⟨⟨v, rfl⟩, rfl⟩
  by_cases hv : 1048576 < v
  · go_wp2
    go_ret
    exact ⟨rfl, Below.refl _ _⟩
  go_wp2_with fail
  refine (Clone.clone_someS w x n cap (ss.map Value.string) (by simpa using hn) (by omega) hc (by intro v hv; obtain ⟨s, _, rfl⟩ := List.mem_map.1 hv; rfl)).mono ?_
  rintro e w1 ⟨rfl, hrow, hb1⟩
  go_wp2_with fail
  go_loopw [4] (fun i wr => ∃ (k : Nat) (ts : Ts), i = .int .i64 k ∧ k ≤ n ∧ Filled w1 wr k ts (ss.map (·.data.toList))) (fun i _ => n - (intOf i).toNat)
  case atStart =>
    refine ⟨0, [], rfl, Nat.zero_le _, ⟨List.Pairwise.nil, .map [], (World.ownsMap_made _ _ _ _).alloc _, fun k hk => ?_, fun p hp => ?_⟩, by simp, ?_, ?_, ((Below.refl _ _).alloc (Nat.le_refl _) _).alloc (by simp) _⟩
    · cases hk
    · cases hp
    · intro j p hj; simp at hj
    · simp
  case round =>
    obtain ⟨k, ts, rfl, hk, hF⟩ := hrel
    by_cases hlt : k < n
    · obtain ⟨⟨hpw, D, hown, hhas, hts⟩, hsnd, hkd, hrc, hbw⟩ := hF
      have hkI : (k : Int) < (n : Int) := by omega
      have hk0 : (0 : Int) ≤ (k : Int) := by omega
      have hml := hown.lt
      have hrl := World.block_lt_of_cell? wr _ hrc
      obtain ⟨s, hs⟩ : ∃ s, ss[k]? = some s := ⟨ss[k]'(by omega), List.getElem?_eq_getElem _⟩
      have hgm : w.heap.size < w1.heap.size := Clone.block_lt hrow
      have hcs : wr.cell? ⟨w.heap.size, k, none⟩ = some (.string s) := (hbw.cell (p := ⟨w.heap.size, k, none⟩) hgm).trans (Clone.row_cell hrow k _ (by simp [hs]))
      obtain ⟨upd, hupd, HU⟩ := upd_same (by unfold maxLen; omega) hown
      have hku : IntKind.u64.wrap (k : Int) = (k : Int) := IntWalk.u64_in _ (by omega)
      go_wp2_with fail
      go_region_held3 (fun w' => w'.cell? ⟨w1.heap.size + 1, 12, none⟩ = some (.map (some w1.heap.size)) ∧ w'.cell? ⟨w.heap.size, k, none⟩ = some (.string s))
        (first | go_keep | (refine ⟨?_, ?_⟩ <;> exact cell_later hbel (by go_keep)) | (refine ⟨?_, ?_⟩ <;> refine upd_cell HU (by first | exact hG2 _ | exact hG1) (Nat.le_refl 1) hL (by omega) ?_ <;> (go_split_ands; assumption)))
        ((go_at_call 18; refine (itoa_any k _ ?_ _ ?_).mono ?_; (first | rfl | omega); omega; rintro e w' ⟨L, rfl, hL, hdg, hval, hbel, hsz⟩; have hL1 : ¬ (9223372036854775807 < 1 + L.length) := (by omega); have hL2 : ¬ (9223372036854775807 < L.length + 1) := (by omega); have hB0 : Below wr.heap.size wr w' := call_below hbel (by first | exact (Below.refl _ _).drew | exact ((Below.refl _ _).alloc (Nat.le_refl _) _).drew); have hG1 : SameMap wr w1.heap.size w' := SameMap.below hB0 hml; have hG2 : ∀ o, SameMap wr w1.heap.size (w'.alloc o) := fun o => SameMap.below (hB0.alloc hB0.size o) hml))
      · have hsb := hB0.size
        go_wp2
        go_roundw
        case rel =>
          refine ⟨k + 1, _, by go_num, by omega, filled_step HU hpw hown hhas hts hsnd hkd hrc hbw ?_ (hwf s (List.mem_of_getElem? hs)) rfl hL hval (hB0.alloc hB0.size _) ?_ ?_⟩
          · simp [hs]
          · simp
          · omega
        case measure => simp [intOf]; omega
      · have hsb := hB0.size
        go_wp2
        go_roundw
        case rel =>
          refine ⟨k + 1, _, by go_num, by omega, filled_step HU hpw hown hhas hts hsnd hkd hrc hbw ?_ (hwf s (List.mem_of_getElem? hs)) rfl hL hval hB0 ?_ ?_⟩
          · simp [hs]
          · exact cell_later hbel (by simp)
          · omega
        case measure => simp [intOf]; omega
    · have hkn : k = n := by omega
      subst hkn
      obtain ⟨hT, hsnd, hkd, hrc, hbw⟩ := hF
      have hgm : w.heap.size < w1.heap.size := Clone.block_lt hrow
      have hls : (ss.map (·.data.toList)).length = k := by simpa using hn
      have htk : ts.map (·.2) = ss.map (·.data.toList) := by rw [hsnd]; exact List.take_of_length_le (by omega)
      have htl : ts.length = k := by have := congrArg List.length htk; simp at this; omega
      go_wp2_with fail
      refine (counts_any wr (w1.heap.size + 1) w1.heap.size k ts hT (by omega) (by omega) hrc).mono ?_
      rintro e w2 ⟨mo, N, Dc, rfl, hown, hat, hhas, hb2⟩
      have hcs : ∀ j s, ss[j]? = some s → w2.cell? ⟨w.heap.size, j, none⟩ = some (.string s) := fun j s hj =>
        (hb2.cell (p := ⟨w.heap.size, j, none⟩) (Nat.lt_of_lt_of_le hgm hbw.size)).trans ((hbw.cell (p := ⟨w.heap.size, j, none⟩) hgm).trans (Clone.row_cell hrow j _ (by simp [hj])))
      have hfin : Below w.heap.size w w2 := (hb1.trans (hbw.mono (Nat.le_of_lt hgm))).trans (hb2.mono (Nat.le_of_lt (Nat.lt_of_lt_of_le hgm hbw.size)))
      have hocc : ∀ t, tot ts t = occ (ss.map (·.data.toList)) t := tot_eq htk
      have hsize : Maps.size Dc = (diff (ss.map (·.data.toList))).length := size_diff (hown.canon law9) (keys_str hown) (fun t => by rw [hhas, hocc]; exact decide_eq_decide.2 (occ_pos _ _))
      obtain ⟨sl, hsl⟩ : ∃ sl, ss.map (·.data.toList) = sl := ⟨_, rfl⟩
      rw [hsl] at hsize hocc hls
      have HS : Hid (Maps.size Dc = (diff sl).length) := hsize
      have HO : Hid (∀ t, tot ts t = occ sl t) := hocc
      have HL : Hid (ss.length = k) := hn
      have HLS : Hid (sl.length = k) := hls
      have HC : Hid (∀ j s, ss[j]? = some s → w2.cell? ⟨w.heap.size, j, none⟩ = some (.string s) ∧ sl[j]? = some s.data.toList ∧ s.size ≤ maxLen) := fun j s hj => ⟨hcs j s hj, hsl ▸ map_at hj, hwf s (List.mem_of_getElem? hj)⟩
      have HA : Hid (∀ t, Dc.atKey (.string t) (.lit (.int .i64 0)) = .lit (.int .i64 (tot ts t))) := hat
      have hownq : ∀ q, (w2.drewN q).ownsMap Try.prog 9 (plainElem Try.prog 3) mo N Dc := fun q => hown
      have HQ : Hid (∀ q, (w2.drewN q).ownsMap Try.prog 9 (plainElem Try.prog 3) mo N Dc) := hownq
      clear hsize hocc hT hsnd hkd hrc hbw hb1 hb2 hrow hsr hhas htk htl hn hls hk hlt hc hcs hat hown hownq hsl hwf hmm
      go_wp2_with fail
      go_loopw [6, 7] (fun d i wq => ∃ (p q : Nat), i = .int .i64 p ∧ p ≤ k ∧ d = .int .i64 ((diff (sl.take p)).length : Nat) ∧ wq = w2.drewN q) (fun _ i _ => k - (intOf i).toNat)
      case atStart => exact ⟨0, 0, rfl, Nat.zero_le _, rfl, rfl⟩
      case round =>
        obtain ⟨p, q, rfl, hp, rfl, rfl⟩ := hrel
        have hdl := diff_le (sl.take p)
        have hdl2 : (sl.take p).length ≤ p := List.length_take_le _ _
        by_cases hlt : p < k
        · have hpI : (p : Int) < (k : Int) := by omega
          obtain ⟨sp, hsp⟩ : ∃ s, ss[p]? = some s := ⟨ss[p]'(by have := HL.out; omega), List.getElem?_eq_getElem _⟩
          obtain ⟨hcp, hslp, hspz⟩ := HC.out p sp hsp
          have HSP : Hid (sl[p]? = some sp.data.toList) := hslp
          clear hsp hslp
          go_wp2_with fail
          go_loopw [8, 9, 10] (fun c f j wq => ∃ (m q : Nat), j = .int .i64 m ∧ m ≤ k ∧ c = .int .i64 (occ (sl.take m) sp.data.toList : Nat) ∧ f = .bool (!cameBy sl sp.data.toList m p) ∧ wq = w2.drewN q) (fun _ _ j _ => k - (intOf j).toNat)
          case atStart => exact ⟨0, q, rfl, Nat.zero_le _, rfl, by rw [cameBy_zero]; rfl, rfl⟩
          case round =>
            obtain ⟨m, q', rfl, hm, rfl, rfl, rfl⟩ := hrel
            by_cases hltm : m < k
            · have hmI : (m : Int) < (k : Int) := by omega
              obtain ⟨sm, hsm⟩ : ∃ s, ss[m]? = some s := ⟨ss[m]'(by have := HL.out; omega), List.getElem?_eq_getElem _⟩
              obtain ⟨hcm, hslm, hsmz⟩ := HC.out m sm hsm
              have HSM : Hid (sl[m]? = some sm.data.toList) := hslm
              have hol := occ_le (sl.take m) sp.data.toList
              have hol2 : (sl.take m).length ≤ m := List.length_take_le _ _
              clear hsm hslm
              by_cases heq : (sm.toList == sp.toList) = true
              · have HE : Hid (sm.data.toList = sp.data.toList) := same_bytes heq
                by_cases hmp : m < p
                · go_wp2_with fail
                  go_quiet (fail)
                  go_wp2
                  go_roundw
                  case rel => exact ⟨m + 1, _, by go_num, by omega, by rw [occ_step HSM.out, if_pos HE.out]; go_num, by rw [cameBy_hit (HE.out ▸ HSM.out) hmp]; rfl, rfl⟩
                  case measure => simp [intOf]; omega
                · go_wp2_with fail
                  go_quiet (fail)
                  go_wp2
                  go_roundw
                  case rel => exact ⟨m + 1, _, by go_num, by omega, by rw [occ_step HSM.out, if_pos HE.out]; go_num, by rw [cameBy_late hmp], rfl⟩
                  case measure => simp [intOf]; omega
              · have heq' : (sm.toList == sp.toList) = false := by simpa using heq
                have HE : Hid (sm.data.toList ≠ sp.data.toList) := other_bytes heq'
                clear heq
                go_wp2_with fail
                go_quiet (fail)
                go_wp2
                go_roundw
                case rel => exact ⟨m + 1, _, by go_num, by omega, by rw [occ_step HSM.out, if_neg HE.out]; rfl, by rw [cameBy_other HSM.out HE.out], rfl⟩
                case measure => simp [intOf]; omega
            · have hmk : m = k := by omega
              subst hmk
              have hks : keyOf Try.prog 9 (.string sp) = some (.string sp.data.toList) := WideMaps.keyOf_string_mk Try.underlying9 hspz
              obtain ⟨v3, hrun, hatv, _⟩ := (HQ.out q').lookup_int law9 Try.underlying60 Try.underlying3 (zero3 _) hks
              have ev : v3 = (occ sl sp.data.toList : Int) := by
                rw [HA.out, HO.out] at hatv
                injection hatv with hatv
                injection hatv with _ hatv
                exact hatv.symm
              subst ev
              have htk : sl.take m = sl := List.take_of_length_le (by have := HLS.out; omega)
              have hce : cameBy sl sp.data.toList m p = decide (sp.data.toList ∈ sl.take p) := by have := cameBy_end (sl := sl) (t := sp.data.toList) (i := p) (by have := HLS.out; omega); rwa [HLS.out] at this
              clear hatv hks
              by_cases hin : sp.data.toList ∈ sl.take p
              · have hcb : cameBy sl sp.data.toList m p = true := by rw [hce]; exact decide_eq_true hin
                have HIN : Hid (sp.data.toList ∈ sl.take p) := hin
                clear hce hin
                rw [hcb]
                go_wp2
                go_roundw
                case rel => exact ⟨p + 1, q', by go_num, by omega, by rw [diff_next HSP.out, if_pos HIN.out]; rfl, rfl⟩
                case measure => simp [intOf]; omega
              · have hcb : cameBy sl sp.data.toList m p = false := by rw [hce]; exact decide_eq_false hin
                have HIN : Hid (sp.data.toList ∉ sl.take p) := hin
                clear hce hin
                rw [hcb]
                go_wp2
                go_roundw
                case rel => exact ⟨p + 1, q', by go_num, by omega, by rw [diff_next HSP.out, if_neg HIN.out]; go_num, rfl⟩
                case measure => simp [intOf]; omega
        · have hpk : p = k := by omega
          subst hpk
          have htk : sl.take p = sl := List.take_of_length_le (by have := HLS.out; omega)
          go_wp2_with (first | (at_len; refine wpList_len_own _ rfl (.tmp 84) 60 rfl 9 3 Try.underlying60 _ mo N Dc rfl (HQ.out q) ?_) | go_in)
          go_ret
          have hfq : Below w.heap.size w (w2.drewN q) := below_drewN hfin q
          refine ⟨?_, hfq⟩
          show Ending.returned (.bool (((Maps.size Dc : Nat) : Int) == ((diff sl).length : Int))) = _
          rw [HS.out]
          simp

set_option maxHeartbeats 400000 in
set_option maxRecDepth 100000 in
theorem walk_zero (w : World) (p : Option Addr) (cap : Nat) (hc : Clone.Came w p 0 cap []) :
    Calls Try.prog 7 #[.slice p 0 cap] w fun e w' => e = .returned (.bool true) ∧ Below w.heap.size w w' := by
  have hmm := @run_makeMap Try.prog
  go_enter Try.func7, Try.ntmps7
  go_wp2_with fail
  refine (zz25_any w p 0 cap (Nat.zero_le _) (Or.inl rfl)).mono ?_
  rintro e w' ⟨⟨b, rfl⟩, rfl⟩
  cases b
  · go_wp2
    go_ret
    exact ⟨rfl, Below.refl _ _⟩
  go_wp2_with fail
  refine (size26_any w' p 0 cap (Nat.zero_le _) (Or.inl rfl)).mono ?_
  rintro e w ⟨⟨v, rfl⟩, rfl⟩
  by_cases hv : 1048576 < v
  · go_wp2
    go_ret
    exact ⟨rfl, Below.refl _ _⟩
  go_wp2_with fail
  refine (Clone.clone_anyS w p 0 cap [] hc (Nat.zero_le _)).mono ?_
  rintro e w1 ⟨q, c, rfl, _, _, hb1⟩
  have hT : Filled w1 ((w1.alloc (.map #[] 0)).alloc (.cells #[.int .i64 0, .string ⟨#[]⟩, .string ⟨#[]⟩, .int .i64 0, .string ⟨#[]⟩, .string ⟨#[]⟩, .string ⟨#[]⟩, .pointer none, .pointer none, .pointer none, .map none, .map none, .map (some w1.heap.size)] 55)) 0 [] [] := by
    refine ⟨⟨List.Pairwise.nil, .map [], (World.ownsMap_made _ _ _ _).alloc _, fun k hk => ?_, fun p hp => ?_⟩, by simp, ?_, ?_, ((Below.refl _ _).alloc (Nat.le_refl _) _).alloc (by simp) _⟩
    · cases hk
    · cases hp
    · intro j p hj; simp at hj
    · simp
  go_wp2_with fail
  refine wp_loop_rounds 1 ?_
  rw [rounds_succ]
  go_wp2_with fail
  obtain ⟨hT, _, _, hrc, hbw⟩ := hT
  refine (counts_any _ (w1.heap.size + 1) w1.heap.size 0 [] hT (Nat.zero_le _) (Nat.zero_le _) hrc).mono ?_
  rintro e w2 ⟨mo, N, Dc, rfl, hown, hat, hhas, hb2⟩
  have hsize : Maps.size Dc = (diff []).length := size_diff (hown.canon law9) (keys_str hown) (fun t => by rw [hhas, tot_eq rfl]; exact decide_eq_decide.2 (occ_pos _ _))
  have hfin : Below w.heap.size w w2 := (hb1.trans (hbw.mono hb1.size)).trans (hb2.mono (by have := hb1.size; have := hbw.size; omega))
  have HS : Hid (Maps.size Dc = (diff []).length) := hsize
  clear hsize hat hhas hT hrc hbw hb1 hb2 hmm
  go_wp2_with fail
  refine wp_loop_rounds 1 ?_
  rw [rounds_succ]
  go_wp2_with (first | (at_len; refine wpList_len_own _ rfl (.tmp 84) 60 rfl 9 3 Try.underlying60 _ mo N Dc rfl hown ?_) | go_in)
  go_ret
  refine ⟨?_, hfin⟩
  show Ending.returned (.bool (((Maps.size Dc : Nat) : Int) == 0)) = _
  rw [HS.out]
  rfl

set_option maxHeartbeats 400000 in
theorem walk_long (w : World) (p : Option Addr) (n cap : Nat) (hlen : 4096 < n) (hm : n ≤ maxLen) (hsr : StrRow w p n) :
    Calls Try.prog 7 #[.slice p n cap] w fun e w' => e = .returned (.bool true) ∧ Below w.heap.size w w' := by
  unfold maxLen at hm
  go_enter Try.func7, Try.ntmps7
  go_wp2_with fail
  refine (zz25_any w p n cap (by unfold maxLen; omega) hsr).mono ?_
  rintro e w' ⟨⟨b, rfl⟩, rfl⟩
  cases b
  · go_wp2
    go_ret
    exact ⟨rfl, Below.refl _ _⟩
  go_wp2_with fail
  refine (size26_any w' p n cap (by unfold maxLen; omega) hsr).mono ?_
  rintro e w ⟨⟨v, rfl⟩, rfl⟩
  by_cases hv : 1048576 < v
  · go_wp2
    go_ret
    exact ⟨rfl, Below.refl _ _⟩
  go_wp2
  go_ret
  exact ⟨rfl, Below.refl _ _⟩

end Go.Proofs.Qxb6003345a.CountsLaw
