import Derived.Test.Qxb6003345aAppend
import Derived.Test.Qxb6003345aDigits
import Derived.Test.Qxb6003345aItoa
namespace Go.Proofs.Qxb6003345a.DigitsLaw
open Go.RowKit
open Go.Proofs.Qxb6003345a.Append Go.Proofs.Qxb6003345a.Digits Go.Proofs.Qxb6003345a.Clone

/-! ### The plain law -/
/-- The text: what stands ahead, z noughts, the digits L, what stands behind. -/
def txt (pre : List UInt8) (z : Nat) (L suf : List UInt8) : List UInt8 := pre ++ List.replicate z 48 ++ L ++ suf

theorem run_txt {pre L suf : List UInt8} {z : Nat} (hL : Itoa.allDig L) (hs : ∀ c r, suf = c :: r → dig c = false) : run ((txt pre z L suf).drop pre.length) = z + L.length := by
  have e : (txt pre z L suf).drop pre.length = (List.replicate z 48 ++ L) ++ suf := by
    unfold txt
    rw [List.append_assoc, List.append_assoc, List.drop_left, List.append_assoc]
  rw [e]
  unfold run
  have hall : ∀ c ∈ List.replicate z (48 : UInt8) ++ L, dig c = true := by
    intro c hc
    rcases List.mem_append.1 hc with h | h
    · rw [List.eq_of_mem_replicate h]; rfl
    · have := hL c h
      simp [dig, this.1, this.2]
  rw [List.takeWhile_append_of_pos hall]
  have e2 : suf.takeWhile dig = [] := by
    cases suf with
    | nil => rfl
    | cons c r => simp [hs c r rfl]
  rw [e2]
  simp

theorem run_txt2 {pre L suf : List UInt8} {z : Nat} (hs : ∀ c r, suf = c :: r → dig c = false) : run ((txt pre z L suf).drop (pre.length + (z + L.length))) = 0 := by
  have e : (txt pre z L suf).drop (pre.length + (z + L.length)) = suf := by
    have : pre.length + (z + L.length) = (pre ++ List.replicate z 48 ++ L).length := by simp
    unfold txt
    rw [this, List.drop_left]
  rw [e]
  unfold run
  cases suf with
  | nil => rfl
  | cons c r => simp [hs c r rfl]

theorem len_txt (pre L suf : List UInt8) (z : Nat) : (txt pre z L suf).length = pre.length + z + L.length + suf.length := by simp [txt]; omega

theorem came_later {w w' : World} {p : Option Addr} {n c : Nat} {cs : List Value} (h : Came w p n c cs) (hb : Below w.heap.size w w') : Came w' p n c cs := by
  obtain ⟨h1, h2, h3 | ⟨x, h3, h4⟩⟩ := h
  · exact ⟨h1, h2, Or.inl h3⟩
  · exact ⟨h1, h2, Or.inr ⟨x, h3, fun j v hj => cell_later hb (h4 j v hj)⟩⟩

set_option maxHeartbeats 800000 in
set_option maxRecDepth 100000 in
theorem walk_bare (w : World) (p q : Option Addr) (n c m d v z : Nat) (pre suf : List UInt8) (hp : Came w p n c (pre.map bc)) (hq : Came w q m d (suf.map bc)) (hnm : n + m ≤ 1048576) (hz : z ≤ 1024) (hv : v < 18446744073709551616)
    (hm0 : ¬ 0 < m) (hsuf : ∀ c r, suf = c :: r → dig c = false) :
    Calls Try.prog 4 #[.slice p n c, .int .u64 v, .int .i64 z, .slice q m d] w fun e w' => e = .returned (.bool true) ∧ Below w.heap.size w w' := by
  obtain ⟨i0, hi, hz0, hz1, hz2⟩ := info_parts Clone.info5
  have HN : Hid (pre.length = n) := (by have := hp.1; simpa using this : pre.length = n)
  have HM : Hid (suf.length = m) := (by have := hq.1; simpa using this : suf.length = m)
  go_enter Try.func4, Try.ntmps4
  go_wp2_with fail
  refine (zz16_yes _ _ _ _ _ _ _ _ _ hnm).mono ?_
  rintro e w ⟨rfl, rfl⟩
  go_wp2_with fail
  refine (clone_any w p n c (pre.map bc) hp (by omega)).mono ?_
  rintro e w1 ⟨q1, c1, rfl, hr1, hn1, hb1⟩
  go_wp2_with fail
  refine (clone_any w1 q m d (suf.map bc) (came_later hq hb1) (by omega)).mono ?_
  rintro e w2 ⟨q2, c2, rfl, hr2, hn2, hb2⟩
  go_wp2_with fail
  refine (Itoa.itoa_any v _ rfl w2 hv).mono ?_
  rintro e w3 ⟨L, rfl, hL, hdg, _, hb3, _⟩
  have hr1' := (hr1.later hb2 (Nat.le_refl _)).later hb3 (Nat.le_refl _)
  have hr2' := hr2.later hb3 (Nat.le_refl _)
  have hlL : (⟨L.toArray⟩ : ByteArray).size = L.length := by simp [ByteArray.size]
  have hsz1 := hb1.size
  have hsz2 := hb2.size
  have hsz3 := hb3.size
  go_wp2_with (first
    | (at_make; refine wpList_make_own _ rfl _ _ 22 rfl w3.heap.size 5 i0 (.int .u8 0) 1 Try.underlying22 hi hz0 hz1 .i64 .i64 _ (n + z + L.length + m) rfl rfl (by simp) (by rw [hz2]; omega) (by unfold maxLen; omega) (Nat.le_refl _) ?_; intro w4 hown4 hg4; have hB4 := (Below.refl w3.heap.size w3).grown hg4 (Nat.le_refl _) (fun j hj => by cases hj))
    | (at_builtin; refine wpList_append_fits_any _ rfl (.tmp 72) (.tmp 73) 22 rfl w3.heap.size 5 i0 1 Try.underlying22 hi hz1 w3.heap.size 0 (n + z + L.length + m) [] rfl hown4 q1 n c1 (pre.map bc) rfl (by rw [List.length_map, HN.out, Nat.mul_one]) hn1 (reads_news (hr1'.later hB4 (Nat.le_refl _))) (bc_one pre) (by omega) ?_; intro w5 hown5 hg5; rw [Nat.zero_add, List.nil_append] at hown5; have hB5 := hB4.grown hg5 hB4.size (fun j hj => by cases hj; exact Nat.le_refl _))
    | go_in)
  go_loopw [10, 11] (fun x i wr => ∃ k : Nat, k ≤ z ∧ i = .int .i64 k ∧ x = .slice (some ⟨w3.heap.size, 0, none⟩) (n + k) (n + z + L.length + m) ∧ wr.ownsRow w3.heap.size 5 1 (.slice (some ⟨w3.heap.size, 0, none⟩) (n + k) (n + z + L.length + m)) (n + k) ((pre ++ List.replicate k 48).map bc) ∧ Below w3.heap.size w3 wr) (fun _ i _ => z - (intOf i).toNat)
  case atStart => exact ⟨0, Nat.zero_le _, rfl, by simp, by simpa using hown5, hB5⟩
  case round =>
    obtain ⟨k, hk, rfl, rfl, hown, hB⟩ := hrel
    by_cases hlt : k < z
    · go_wp2_with (first
        | (at_builtin; refine wpList_append_fits _ rfl (.tmp 80) (.tmp 81) 22 rfl w3.heap.size 5 i0 1 Try.underlying22 hi hz1 w3.heap.size (n + k) (n + z + L.length + m) _ rfl (hown.alloc _) ⟨wr.heap.size, 0, none⟩ 1 1 [.int .u8 48] rfl rfl (cell_one_new _ _ _) (ints_oneCell .u8 [48]) (by omega) ?_; intro w6 hown6 hg6)
        | go_in)
      have hB6 := (hB.alloc hB.size (.cells #[.int .u8 48] 5)).grown hg6 (Nat.le_trans hB.size (by simp)) (fun j hj => by cases hj; exact Nat.le_refl _)
      have hown6' : w6.ownsRow w3.heap.size 5 1 (.slice (some ⟨w3.heap.size, 0, none⟩) (n + (k + 1)) (n + z + L.length + m)) (n + (k + 1)) ((pre ++ List.replicate (k + 1) 48).map bc) := by
        have e : (pre ++ List.replicate (k + 1) (48 : UInt8)).map bc = (pre ++ List.replicate k 48).map bc ++ [.int .u8 48] := by
          rw [List.replicate_succ']; simp [bc]
        rw [e]; exact hown6
      go_wp2
      go_roundw
      case rel => exact ⟨k + 1, by omega, by go_num, rfl, hown6', hB6⟩
      case measure => simp [intOf]; omega
    · have hkz : k = z := by omega
      subst hkz
      clear hown4 hown5 hg4 hg5 hB4 hB5 hr1 hr2 hp hq
      go_wp2_with (first
        | (at_builtin; refine append_fits_str rfl (.tmp 83) (.tmp 84) rfl w3.heap.size w3.heap.size (n + k) (n + k + L.length + m) _ rfl hown ⟨L.toArray⟩ rfl (by rw [hlL]; omega) ?_; intro w7 hown7 hg7; rw [hlL, strCells_bc] at hown7; have hB7 := hB.grown hg7 hB.size (fun j hj => by cases hj; exact Nat.le_refl _))
        | (at_builtin; refine wpList_append_fits_any _ rfl (.tmp 86) (.tmp 87) 22 rfl w3.heap.size 5 i0 1 Try.underlying22 hi hz1 w3.heap.size (n + k + L.length) (n + k + L.length + m) _ rfl hown7 q2 m c2 (suf.map bc) rfl (by rw [List.length_map, HM.out, Nat.mul_one]) hn2 (reads_news (hr2'.later hB7 (Nat.le_refl _))) (bc_one suf) (by omega) ?_; intro w8 hown8 hg8; have hB8 := hB7.grown hg8 hB7.size (fun j hj => by cases hj; exact Nat.le_refl _)))
      have hown9 : w8.ownsRow w3.heap.size 5 1 (.slice (some ⟨w3.heap.size, 0, none⟩) (n + k + L.length + m) (n + k + L.length + m)) (n + k + L.length + m) ((txt pre k L suf).map bc) := by
        have e : (txt pre k L suf).map bc = (pre ++ List.replicate k 48).map bc ++ L.map bc ++ suf.map bc := by simp [txt]
        rw [e]; exact hown8
      have hby := bytes_of_owned hown9
      have hlt8 : w3.heap.size < w8.heap.size := (hown9.lt _ rfl).2
      have hlen : (⟨(txt pre k L suf).toArray⟩ : ByteArray).size = n + k + L.length + m := by have := len_txt pre L suf k; rw [HN.out, HM.out] at this; simpa [ByteArray.size] using this
      have hr := run_txt (pre := pre) (z := k) hdg hsuf
      have hr0 := run_txt2 (pre := pre) (L := L) (z := k) hsuf
      rw [HN.out] at hr hr0
      refine (zzdigits_any w3.heap.size 0 n _ (n + k + L.length + m) ⟨(txt pre k L suf).toArray⟩ w8 hlen.symm (by rw [hlen]; omega) (by rw [hlen]; omega) hlt8 hby).mono ?_
      rintro e w9 ⟨rfl, hb9⟩
      have er : run (List.drop n (⟨(txt pre k L suf).toArray⟩ : ByteArray).data.toList) = k + L.length := hr
      rw [er]
      have hs9 := hb9.size
      go_wp2_with fail
      rw [show ((n : Int) + ((k : Int) + (L.length : Int))) = ((n + (k + L.length) : Nat) : Int) from by omega]
      refine (zzdigits_any w3.heap.size 0 (n + (k + L.length)) _ (n + k + L.length + m) ⟨(txt pre k L suf).toArray⟩ w9 hlen.symm (by rw [hlen]; omega) (by rw [hlen]; omega) (Nat.lt_of_lt_of_le hlt8 hs9) (fun i hi => (hb9.cell (p := ⟨w3.heap.size, 0 + i, none⟩) hlt8).trans (hby i hi))).mono ?_
      rintro e w10 ⟨rfl, hb10⟩
      have er0 : run (List.drop (n + (k + L.length)) (⟨(txt pre k L suf).toArray⟩ : ByteArray).data.toList) = 0 := hr0
      rw [er0]
      have hfin : Below w.heap.size w w10 := ((((hb1.trans (hb2.mono hsz1)).trans (hb3.mono (by omega))).trans (hB8.mono (by omega))).trans (hb9.mono (by omega))).trans (hb10.mono (by omega))
      clear hb1 hb2 hb3 hB8 hb9 hb10 hown hown7 hown8 hown9 hby hB hB7 hg7 hg8 hr1' hr2' er er0 hr hr0
      go_wp2
      go_ret
      exact ⟨rfl, hfin⟩

set_option maxHeartbeats 800000 in
set_option maxRecDepth 100000 in
theorem walk_tail (w : World) (p : Option Addr) (b off : Nat) (ch : UInt8) (n c m d v z : Nat) (pre suf : List UInt8) (hp : Came w p n c (pre.map bc)) (hq : Came w (some ⟨b, off, none⟩) m d (suf.map bc)) (hnm : n + m ≤ 1048576) (hz : z ≤ 1024) (hv : v < 18446744073709551616)
    (hm0 : 0 < m) (hcell : w.cell? ⟨b, off, none⟩ = some (.int .u8 (ch.toNat : Int))) (hch : dig ch = false) (hsuf : ∀ c r, suf = c :: r → dig c = false) :
    Calls Try.prog 4 #[.slice p n c, .int .u64 v, .int .i64 z, .slice (some ⟨b, off, none⟩) m d] w fun e w' => e = .returned (.bool true) ∧ Below w.heap.size w w' := by
  obtain ⟨i0, hi, hz0, hz1, hz2⟩ := info_parts Clone.info5
  have HN : Hid (pre.length = n) := (by have := hp.1; simpa using this : pre.length = n)
  have HM : Hid (suf.length = m) := (by have := hq.1; simpa using this : suf.length = m)
  go_enter Try.func4, Try.ntmps4
  go_wp2_with fail
  refine (zz16_yes _ _ _ _ _ _ _ _ _ hnm).mono ?_
  rintro e w ⟨rfl, rfl⟩
  go_wp2_with fail
  refine (isDigit_any ch _).mono ?_
  rintro e w ⟨rfl, rfl⟩
  rw [hch]
  go_wp2_with fail
  refine (clone_any w p n c (pre.map bc) hp (by omega)).mono ?_
  rintro e w1 ⟨q1, c1, rfl, hr1, hn1, hb1⟩
  go_wp2_with fail
  refine (clone_any w1 (some ⟨b, off, none⟩) m d (suf.map bc) (came_later hq hb1) (by omega)).mono ?_
  rintro e w2 ⟨q2, c2, rfl, hr2, hn2, hb2⟩
  go_wp2_with fail
  refine (Itoa.itoa_any v _ rfl w2 hv).mono ?_
  rintro e w3 ⟨L, rfl, hL, hdg, _, hb3, _⟩
  have hr1' := (hr1.later hb2 (Nat.le_refl _)).later hb3 (Nat.le_refl _)
  have hr2' := hr2.later hb3 (Nat.le_refl _)
  have hlL : (⟨L.toArray⟩ : ByteArray).size = L.length := by simp [ByteArray.size]
  have hsz1 := hb1.size
  have hsz2 := hb2.size
  have hsz3 := hb3.size
  go_wp2_with (first
    | (at_make; refine wpList_make_own _ rfl _ _ 22 rfl w3.heap.size 5 i0 (.int .u8 0) 1 Try.underlying22 hi hz0 hz1 .i64 .i64 _ (n + z + L.length + m) rfl rfl (by simp) (by rw [hz2]; omega) (by unfold maxLen; omega) (Nat.le_refl _) ?_; intro w4 hown4 hg4; have hB4 := (Below.refl w3.heap.size w3).grown hg4 (Nat.le_refl _) (fun j hj => by cases hj))
    | (at_builtin; refine wpList_append_fits_any _ rfl (.tmp 72) (.tmp 73) 22 rfl w3.heap.size 5 i0 1 Try.underlying22 hi hz1 w3.heap.size 0 (n + z + L.length + m) [] rfl hown4 q1 n c1 (pre.map bc) rfl (by rw [List.length_map, HN.out, Nat.mul_one]) hn1 (reads_news (hr1'.later hB4 (Nat.le_refl _))) (bc_one pre) (by omega) ?_; intro w5 hown5 hg5; rw [Nat.zero_add, List.nil_append] at hown5; have hB5 := hB4.grown hg5 hB4.size (fun j hj => by cases hj; exact Nat.le_refl _))
    | go_in)
  go_loopw [10, 11] (fun x i wr => ∃ k : Nat, k ≤ z ∧ i = .int .i64 k ∧ x = .slice (some ⟨w3.heap.size, 0, none⟩) (n + k) (n + z + L.length + m) ∧ wr.ownsRow w3.heap.size 5 1 (.slice (some ⟨w3.heap.size, 0, none⟩) (n + k) (n + z + L.length + m)) (n + k) ((pre ++ List.replicate k 48).map bc) ∧ Below w3.heap.size w3 wr) (fun _ i _ => z - (intOf i).toNat)
  case atStart => exact ⟨0, Nat.zero_le _, rfl, by simp, by simpa using hown5, hB5⟩
  case round =>
    obtain ⟨k, hk, rfl, rfl, hown, hB⟩ := hrel
    by_cases hlt : k < z
    · go_wp2_with (first
        | (at_builtin; refine wpList_append_fits _ rfl (.tmp 80) (.tmp 81) 22 rfl w3.heap.size 5 i0 1 Try.underlying22 hi hz1 w3.heap.size (n + k) (n + z + L.length + m) _ rfl (hown.alloc _) ⟨wr.heap.size, 0, none⟩ 1 1 [.int .u8 48] rfl rfl (cell_one_new _ _ _) (ints_oneCell .u8 [48]) (by omega) ?_; intro w6 hown6 hg6)
        | go_in)
      have hB6 := (hB.alloc hB.size (.cells #[.int .u8 48] 5)).grown hg6 (Nat.le_trans hB.size (by simp)) (fun j hj => by cases hj; exact Nat.le_refl _)
      have hown6' : w6.ownsRow w3.heap.size 5 1 (.slice (some ⟨w3.heap.size, 0, none⟩) (n + (k + 1)) (n + z + L.length + m)) (n + (k + 1)) ((pre ++ List.replicate (k + 1) 48).map bc) := by
        have e : (pre ++ List.replicate (k + 1) (48 : UInt8)).map bc = (pre ++ List.replicate k 48).map bc ++ [.int .u8 48] := by
          rw [List.replicate_succ']; simp [bc]
        rw [e]; exact hown6
      go_wp2
      go_roundw
      case rel => exact ⟨k + 1, by omega, by go_num, rfl, hown6', hB6⟩
      case measure => simp [intOf]; omega
    · have hkz : k = z := by omega
      subst hkz
      clear hown4 hown5 hg4 hg5 hB4 hB5 hr1 hr2 hp hq
      go_wp2_with (first
        | (at_builtin; refine append_fits_str rfl (.tmp 83) (.tmp 84) rfl w3.heap.size w3.heap.size (n + k) (n + k + L.length + m) _ rfl hown ⟨L.toArray⟩ rfl (by rw [hlL]; omega) ?_; intro w7 hown7 hg7; rw [hlL, strCells_bc] at hown7; have hB7 := hB.grown hg7 hB.size (fun j hj => by cases hj; exact Nat.le_refl _))
        | (at_builtin; refine wpList_append_fits_any _ rfl (.tmp 86) (.tmp 87) 22 rfl w3.heap.size 5 i0 1 Try.underlying22 hi hz1 w3.heap.size (n + k + L.length) (n + k + L.length + m) _ rfl hown7 q2 m c2 (suf.map bc) rfl (by rw [List.length_map, HM.out, Nat.mul_one]) hn2 (reads_news (hr2'.later hB7 (Nat.le_refl _))) (bc_one suf) (by omega) ?_; intro w8 hown8 hg8; have hB8 := hB7.grown hg8 hB7.size (fun j hj => by cases hj; exact Nat.le_refl _)))
      have hown9 : w8.ownsRow w3.heap.size 5 1 (.slice (some ⟨w3.heap.size, 0, none⟩) (n + k + L.length + m) (n + k + L.length + m)) (n + k + L.length + m) ((txt pre k L suf).map bc) := by
        have e : (txt pre k L suf).map bc = (pre ++ List.replicate k 48).map bc ++ L.map bc ++ suf.map bc := by simp [txt]
        rw [e]; exact hown8
      have hby := bytes_of_owned hown9
      have hlt8 : w3.heap.size < w8.heap.size := (hown9.lt _ rfl).2
      have hlen : (⟨(txt pre k L suf).toArray⟩ : ByteArray).size = n + k + L.length + m := by have := len_txt pre L suf k; rw [HN.out, HM.out] at this; simpa [ByteArray.size] using this
      have hr := run_txt (pre := pre) (z := k) hdg hsuf
      have hr0 := run_txt2 (pre := pre) (L := L) (z := k) hsuf
      rw [HN.out] at hr hr0
      refine (zzdigits_any w3.heap.size 0 n _ (n + k + L.length + m) ⟨(txt pre k L suf).toArray⟩ w8 hlen.symm (by rw [hlen]; omega) (by rw [hlen]; omega) hlt8 hby).mono ?_
      rintro e w9 ⟨rfl, hb9⟩
      have er : run (List.drop n (⟨(txt pre k L suf).toArray⟩ : ByteArray).data.toList) = k + L.length := hr
      rw [er]
      have hs9 := hb9.size
      go_wp2_with fail
      rw [show ((n : Int) + ((k : Int) + (L.length : Int))) = ((n + (k + L.length) : Nat) : Int) from by omega]
      refine (zzdigits_any w3.heap.size 0 (n + (k + L.length)) _ (n + k + L.length + m) ⟨(txt pre k L suf).toArray⟩ w9 hlen.symm (by rw [hlen]; omega) (by rw [hlen]; omega) (Nat.lt_of_lt_of_le hlt8 hs9) (fun i hi => (hb9.cell (p := ⟨w3.heap.size, 0 + i, none⟩) hlt8).trans (hby i hi))).mono ?_
      rintro e w10 ⟨rfl, hb10⟩
      have er0 : run (List.drop (n + (k + L.length)) (⟨(txt pre k L suf).toArray⟩ : ByteArray).data.toList) = 0 := hr0
      rw [er0]
      have hfin : Below w.heap.size w w10 := ((((hb1.trans (hb2.mono hsz1)).trans (hb3.mono (by omega))).trans (hB8.mono (by omega))).trans (hb9.mono (by omega))).trans (hb10.mono (by omega))
      clear hb1 hb2 hb3 hB8 hb9 hb10 hown hown7 hown8 hown9 hby hB hB7 hg7 hg8 hr1' hr2' er er0 hr hr0
      go_wp2
      go_ret
      exact ⟨rfl, hfin⟩

end Go.Proofs.Qxb6003345a.DigitsLaw
