import Derived.Test.Qxb6003345aTally
namespace Go.Proofs.Qxb6003345a.Waits
open Go.RowKit Go.Maps
open Go.Proofs.Qxb6003345a.Tally

/-- The bytes of the status 'done'. -/
def doneL : List UInt8 := [100, 111, 110, 101]
/-- Is the task under the key k done? -/
def doneB (ts : Ts) (k : List UInt8) : Bool := ts.all fun p => !(p.1 == k) || p.2 == doneL

theorem doneB_of {ts : Ts} (hp : ts.Pairwise (fun p q => p.1 ≠ q.1)) {k s : List UInt8} (h : (k, s) ∈ ts) : doneB ts k = (s == doneL) := by
  unfold doneB
  rw [Bool.eq_iff_iff, List.all_eq_true]
  constructor
  · intro h1
    have := h1 _ h
    simpa using this
  · intro h1 p hpm
    by_cases e : p.1 = k
    · have : p = (k, s) := by
        have huniq : ∀ {l : Ts}, l.Pairwise (fun p q => p.1 ≠ q.1) → ∀ {a b : List UInt8 × List UInt8}, a ∈ l → b ∈ l → a.1 = b.1 → a = b := by
          intro l
          induction l with
          | nil => intro _ a b ha; cases ha
          | cons x r ih =>
            intro hpw a b ha hb hab
            obtain ⟨h1, h2⟩ := List.pairwise_cons.1 hpw
            rcases List.mem_cons.1 ha with ha1 | ha1
            · rcases List.mem_cons.1 hb with hb1 | hb1
              · rw [ha1, hb1]
              · rw [ha1] at hab; exact absurd hab (h1 _ hb1)
            · rcases List.mem_cons.1 hb with hb1 | hb1
              · rw [hb1] at hab; exact absurd hab.symm (h1 _ ha1)
              · exact ih h2 ha1 hb1 hab
        exact huniq hp hpm h e
      rw [this]
      simpa using h1
    · simp [e]

theorem done_eq (s : ByteArray) : (s.data.toList == doneL) = (s.toList == [100, 111, 110, 101]) := by rw [ByteArray.toList_eq]; rfl

theorem zero56 (w : World) : (zeroValue 56).run Try.prog w = .ok (.pointer none) w := by kernel_rfl

/-- 'w, ok := r.Tasks[a]' where the key is there. -/
theorem look_task {w : World} {m n b : Nat} {D : DataW Unit} {a : ByteArray} (hown : w.ownsMap Try.prog 9 ptrElem m n D) (ha : a.size ≤ maxLen) (hat : ∀ z, D.atKey (.string a.data.toList) z = .lit (.int .i64 (b : Int))) :
    (Instr.lookup 46 (.map (some m)) (.string a) true).run Try.prog w = .ok (.tuple #[.pointer (some ⟨b, 0, none⟩), .bool true]) w := by
  obtain ⟨es, clock, hb, F, _, rfl⟩ := hown
  rcases Maps.fit_look true law9 Try.underlying46 (zero56 w) hb F (WideMaps.keyOf_string_mk Try.underlying9 ha) with ⟨_, _, h⟩ | ⟨e0, y, _, _, hrun, hR, h, _⟩
  · have h1 := (hat (.lit (.bool true))).symm.trans (h (.lit (.bool true)))
    cases h1
  · obtain ⟨b', hv, hy⟩ := ptrElem_inv hR
    have h1 := (hat (.lit (.bool true))).symm.trans (h (.lit (.bool true)))
    rw [hy] at h1
    injection h1 with h1
    injection h1 with _ h1
    have hbb : b' = b := by omega
    subst hbb
    rw [hrun, hv]
    rfl

set_option maxHeartbeats 400000 in
theorem waits_none (w : World) (rb tb : Nat) (ht : w.cell? ⟨tb, 1, none⟩ = some (.slice none 0 0)) :
    Calls Try.prog 37 #[.pointer (some ⟨rb, 0, none⟩), .pointer (some ⟨tb, 0, none⟩)] w fun e w' => e = .returned (.bool true) ∧ w' = w := by
  go_enter Try.func37, Try.ntmps37
  go_wp2
  refine wp_loop_rounds 1 ?_
  rw [rounds_succ]
  go_wp2
  go_ret
  exact ⟨rfl, rfl⟩

set_option maxHeartbeats 800000 in
theorem waits_some (w : World) (rb tb m n g N cap : Nat) (ts : Ts) (ids : List ByteArray) (hT : Tasks w m n ts) (hr : w.cell? ⟨rb, 12, none⟩ = some (.map (some m))) (ht : w.cell? ⟨tb, 1, none⟩ = some (.slice (some ⟨g, 0, none⟩) N cap))
    (hN : N ≤ 1048576) (hl : ids.length = N) (hc : ∀ j a, ids[j]? = some a → w.cell? ⟨g, j, none⟩ = some (.string a)) (hin : ∀ a ∈ ids, a.size ≤ maxLen ∧ ∃ s, (a.data.toList, s) ∈ ts) :
    Calls Try.prog 37 #[.pointer (some ⟨rb, 0, none⟩), .pointer (some ⟨tb, 0, none⟩)] w fun e w' => e = .returned (.bool (ids.all fun a => doneB ts a.data.toList)) ∧ w' = w := by
  obtain ⟨hpw, D, hown, hhas, hts⟩ := hT
  have HL : Hid (ids.length = N) := hl
  have HC : Hid (∀ j a, ids[j]? = some a → w.cell? ⟨g, j, none⟩ = some (.string a)) := hc
  clear hl hc
  go_enter Try.func37, Try.ntmps37
  go_wp2
  go_loop [14] (fun i => ∃ k : Nat, i = .int .i64 k ∧ k ≤ N ∧ (ids.take k).all (fun a => doneB ts a.data.toList) = true) (fun i => N - (intOf i).toNat)
  case atStart => exact ⟨0, rfl, Nat.zero_le _, rfl⟩
  case round =>
    obtain ⟨k, rfl, hk, hall⟩ := hrel
    have HA : Hid ((ids.take k).all (fun a => doneB ts a.data.toList) = true) := hall
    clear hall
    by_cases hlt : k < N
    · have hkI : (k : Int) < (N : Int) := by omega
      obtain ⟨a, ha⟩ : ∃ a, ids[k]? = some a := ⟨ids[k]'(by have := HL.out; omega), List.getElem?_eq_getElem _⟩
      have hca := HC.out k a ha
      obtain ⟨haz, st, hst⟩ := hin a (List.mem_of_getElem? ha)
      obtain ⟨b, hat, s, hcell, hsl, hss⟩ := hts _ hst
      have hlook := look_task hown haz hat
      have hd := doneB_of hpw hst
      have HD : Hid (doneB ts a.data.toList = (st == doneL)) := hd
      have HK : Hid (ids[k]? = some a) := ha
      have HS : Hid (s.data.toList = st) := hsl
      clear hd ha hsl hat hin
      by_cases heq : (s.toList == [100, 111, 110, 101]) = true
      · go_wp2
        go_round
        case rel =>
          refine ⟨k + 1, by go_num, by omega, ?_⟩
          rw [List.take_add_one, HK.out, List.all_append, HA.out]
          show (true && (doneB ts a.data.toList && true)) = true
          rw [HD.out, ← HS.out, done_eq, heq]
          rfl
        case measure => simp [intOf]; omega
      · have heq' : (s.toList == [100, 111, 110, 101]) = false := by simpa using heq
        go_wp2
        go_ret
        have hfalse : (ids.all fun a => doneB ts a.data.toList) = false := by
          rw [List.all_eq_false]
          refine ⟨a, List.mem_of_getElem? HK.out, ?_⟩
          rw [HD.out, ← HS.out, done_eq, heq']
          simp
        exact ⟨by rw [hfalse]; rfl, rfl⟩
    · have hkN : k = N := by omega
      subst hkN
      have htrue : (ids.all fun a => doneB ts a.data.toList) = true := by
        have e : ids.take k = ids := List.take_of_length_le (by have := HL.out; omega)
        have := HA.out
        rwa [e] at this
      go_wp2
      go_ret
      exact ⟨rfl, rfl⟩

/-- waitsOnDoneOnly, at a slice of keys that the call owns. -/
theorem waits_any (w : World) (rb tb m n base N : Nat) (v : Value) (ts : Ts) (ids : List ByteArray) (hT : Tasks w m n ts) (hr : w.cell? ⟨rb, 12, none⟩ = some (.map (some m))) (ht : w.cell? ⟨tb, 1, none⟩ = some v)
    (hN : N ≤ 1048576) (hv : w.ownsRow base 9 1 v N (ids.map Value.string)) (hin : ∀ a ∈ ids, a.size ≤ maxLen ∧ ∃ s, (a.data.toList, s) ∈ ts) :
    Calls Try.prog 37 #[.pointer (some ⟨rb, 0, none⟩), .pointer (some ⟨tb, 0, none⟩)] w fun e w' => e = .returned (.bool (ids.all fun a => doneB ts a.data.toList)) ∧ w' = w := by
  have hl : ids.length = N := by have := hv.1; simpa using this
  have hv0 := hv
  rcases hv.2 with ⟨rfl, rfl⟩ | ⟨g, cap, cur, rfl, _⟩
  · have : ids = [] := List.eq_nil_of_length_eq_zero hl
    subst this
    exact waits_none w rb tb ht
  · refine waits_some w rb tb m n g N cap ts ids hT hr ht hN hl (fun j a hj => ?_) hin
    have hj1 := (List.getElem?_eq_some_iff.1 hj).1
    rw [hv0.cellAt j (by omega), List.getElem?_map, hj]
    rfl

set_option maxHeartbeats 400000 in
theorem zzwaits_any (w : World) (rb tb m n base N : Nat) (v : Value) (ts : Ts) (ids : List ByteArray) (hT : Tasks w m n ts) (hr : w.cell? ⟨rb, 12, none⟩ = some (.map (some m))) (ht : w.cell? ⟨tb, 1, none⟩ = some v)
    (hN : N ≤ 1048576) (hv : w.ownsRow base 9 1 v N (ids.map Value.string)) (hin : ∀ a ∈ ids, a.size ≤ maxLen ∧ ∃ s, (a.data.toList, s) ∈ ts) :
    Calls Try.prog 30 #[.pointer (some ⟨rb, 0, none⟩), .pointer (some ⟨tb, 0, none⟩)] w fun e w' => e = .returned (.bool (ids.all fun a => doneB ts a.data.toList)) ∧ w' = w := by
  have hcall := waits_any w rb tb m n base N v ts ids hT hr ht hN hv hin
  generalize (ids.all fun a => doneB ts a.data.toList) = b at hcall ⊢
  have H : Hid (Calls Try.prog 37 #[.pointer (some ⟨rb, 0, none⟩), .pointer (some ⟨tb, 0, none⟩)] w fun e w' => e = .returned (.bool b) ∧ w' = w) := hcall
  clear hcall hT hr ht hv hin
  go_enter Try.func30, Try.ntmps30
  go_wp2_with fail
  refine H.out.mono ?_
  rintro e w' ⟨rfl, rfl⟩
  clear H
  go_wp2
  go_ret
  exact ⟨rfl, rfl⟩

/-- All tasks are done just if as many bear the status 'done' as there are. -/
theorem all_done {ts : Ts} {ids : List ByteArray} (hpw : ts.Pairwise (fun p q => p.1 ≠ q.1)) (hin : ∀ a ∈ ids, ∃ s, (a.data.toList, s) ∈ ts) (hall : ∀ p ∈ ts, ∃ a ∈ ids, a.data.toList = p.1) :
    (ids.all fun a => doneB ts a.data.toList) = decide (tot ts doneL = ts.length) := by
  rw [Bool.eq_iff_iff, List.all_eq_true, decide_eq_true_iff]
  unfold tot
  constructor
  · intro h
    rw [List.filter_eq_self.2]
    intro p hp
    obtain ⟨a, ha, e⟩ := hall p hp
    have h1 := h a ha
    rw [e, doneB_of (s := p.2) hpw hp] at h1
    exact h1
  · intro h a ha
    obtain ⟨s, hs⟩ := hin a ha
    rw [doneB_of hpw hs]
    exact List.length_filter_eq_length_iff.1 h _ hs

end Go.Proofs.Qxb6003345a.Waits
