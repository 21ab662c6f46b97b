import Derived.Test.Qxb6003345aTally
import Derived.Test.Qxb6003345aItoa
namespace Go.Proofs.Qxb6003345a.Fill
open Go.RowKit Go.Maps
open Go.Proofs.Qxb6003345a.Tally Go.Proofs.Qxb6003345a.Itoa

/-- Each task's key is 't' and its place in decimal. -/
def Keyd (ts : Ts) : Prop := ∀ j p, ts[j]? = some p → ∃ L, p.1 = 116 :: L ∧ decVal L = j

theorem keyd_ne {ts : Ts} (h : Keyd ts) {L : List UInt8} (hL : decVal L = ts.length) : ∀ p ∈ ts, p.1 ≠ 116 :: L := by
  intro p hp e
  obtain ⟨j, hj⟩ := List.getElem?_of_mem hp
  obtain ⟨L', h1, h2⟩ := h j p hj
  have hlt := (List.getElem?_eq_some_iff.1 hj).1
  rw [e] at h1
  injection h1 with _ h1
  subst h1
  omega

theorem keyd_step {ts : Ts} (h : Keyd ts) {L st : List UInt8} (hL : decVal L = ts.length) : Keyd (ts ++ [(116 :: L, st)]) := by
  intro j p hj
  rcases Nat.lt_or_ge j ts.length with hlt | hge
  · rw [List.getElem?_append_left hlt] at hj
    exact h j p hj
  · rw [List.getElem?_append_right hge] at hj
    rcases Nat.eq_zero_or_pos (j - ts.length) with e | e
    · rw [e] at hj
      simp at hj
      subst hj
      exact ⟨L, rfl, by omega⟩
    · have : 1 ≤ j - ts.length := e
      simp [List.getElem?_eq_none (show [(116 :: L, st)].length ≤ j - ts.length by simpa using this)] at hj

/-- One task more. -/
theorem tasks_step {W W2 : World} {m k b : Nat} {ts : Ts} {D : DataW Unit} {L : List UInt8} {s : ByteArray}
    (hpw : ts.Pairwise (fun p q => p.1 ≠ q.1)) (hhas : ∀ k, Maps.has D (.string k) = true → ∃ s, (k, s) ∈ ts)
    (hts : ∀ p ∈ ts, ∃ b : Nat, (∀ z, D.atKey (.string p.1) z = .lit (.int .i64 (b : Int))) ∧ ∃ s : ByteArray, W.cell? ⟨b, 0, none⟩ = some (.string s) ∧ s.data.toList = p.2 ∧ s.size ≤ maxLen)
    (hm : IsMap D) (hne : ∀ p ∈ ts, p.1 ≠ 116 :: L) (hs : s.size ≤ maxLen)
    (hold : ∀ b' s', W.cell? ⟨b', 0, none⟩ = some (.string s') → W2.cell? ⟨b', 0, none⟩ = some (.string s'))
    (hnew : W2.cell? ⟨b, 0, none⟩ = some (.string s)) (hown : W2.ownsMap Try.prog 9 ptrElem m k (D.put (.string (116 :: L)) (.lit (.int .i64 (b : Int))))) :
    Tasks W2 m k (ts ++ [(116 :: L, s.data.toList)]) := by
  refine ⟨?_, _, hown, fun k hk => ?_, fun p hp => ?_⟩
  · rw [List.pairwise_append]
    refine ⟨hpw, List.pairwise_singleton _ _, fun p hp q hq => ?_⟩
    simp at hq
    subst hq
    exact hne p hp
  · by_cases e : k = 116 :: L
    · subst e
      exact ⟨s.data.toList, List.mem_append_right _ (by simp)⟩
    · rw [has_put_other (by simpa using e)] at hk
      obtain ⟨s, h⟩ := hhas k hk
      exact ⟨s, List.mem_append_left _ h⟩
  · rcases List.mem_append.1 hp with h | h
    · obtain ⟨b', h1, s', h2, h3⟩ := hts p h
      refine ⟨b', fun z => ?_, s', hold _ _ h2, h3⟩
      rw [atKey_put_other (by simpa using hne p h)]
      exact h1 z
    · simp at h
      subst h
      exact ⟨b, fun z => atKey_put_same hm (k := .string (116 :: L)) trivial _ z, s, hnew, rfl, hs⟩

/-- The world behind 'm[key] = p', named once for all worlds. -/
theorem upd_fn (m k : Nat) (D : DataW Unit) (hk : k < maxLen) : ∃ upd : World → ByteArray → Nat → World, ∀ w' key b, w'.ownsMap Try.prog 9 ptrElem m k D → key.size ≤ maxLen →
    (Instr.mapUpdate 46 (.map (some m)) (.string key) (.pointer (some ⟨b, 0, none⟩))).run Try.prog w' = .ok () (upd w' key b) ∧
      (upd w' key b).ownsMap Try.prog 9 ptrElem m (k + 1) (D.put (.string key.data.toList) (.lit (.int .i64 (b : Int)))) ∧ w'.grownBy (upd w' key b) (some m) := by
  have h : ∀ (w' : World) (key : ByteArray) (b : Nat), ∃ w2 : World, w'.ownsMap Try.prog 9 ptrElem m k D → key.size ≤ maxLen →
      (Instr.mapUpdate 46 (.map (some m)) (.string key) (.pointer (some ⟨b, 0, none⟩))).run Try.prog w' = .ok () w2 ∧
      w2.ownsMap Try.prog 9 ptrElem m (k + 1) (D.put (.string key.data.toList) (.lit (.int .i64 (b : Int)))) ∧ w'.grownBy w2 (some m) := by
    intro w' key b
    by_cases hc : w'.ownsMap Try.prog 9 ptrElem m k D ∧ key.size ≤ maxLen
    · obtain ⟨w2, h1, h2, h3⟩ := hc.1.update law9 (t := 46) (e := 56) Try.underlying46 hk (key := .string key) (kl := .string key.data.toList) (val := .pointer (some ⟨b, 0, none⟩)) (d := .lit (.int .i64 (b : Int))) (ps := [])
        (WideMaps.keyOf_string_mk Try.underlying9 hc.2) rfl
      exact ⟨w2, fun _ _ => ⟨h1, h2, h3⟩⟩
    · exact ⟨w', fun a b => absurd ⟨a, b⟩ hc⟩
  refine ⟨fun w' key b => Classical.choose (h w' key b), fun w' key b h1 h2 => Classical.choose_spec (h w' key b) h1 h2⟩

theorem key_size {c : ByteArray} {L : List UInt8} (hc : c.size ≤ 1) (hL : L.length ≤ 20) : (c ++ (⟨L.toArray⟩ : ByteArray)).size ≤ maxLen := by
  have e : (⟨L.toArray⟩ : ByteArray).size = L.length := by simp [ByteArray.size]
  rw [ByteArray.size_append, e]
  unfold maxLen
  omega

/-- Block m of W is what it was in wr. -/
def SameMap (wr : World) (m : Nat) (W : World) : Prop := W.heap[m]? = wr.heap[m]?

theorem SameMap.owns {wr W : World} {m k : Nat} {D : DataW Unit} (h : SameMap wr m W) (ho : wr.ownsMap Try.prog 9 ptrElem m k D) : W.ownsMap Try.prog 9 ptrElem m k D := by
  obtain ⟨es, c, hb, r⟩ := ho
  exact ⟨es, c, h.trans hb, r⟩

theorem SameMap.below {wr W : World} {m B : Nat} (hb : Below B wr W) (hB : m < B) : SameMap wr m W := hb.block m hB

/-- The world behind 'm[key] = p', at every world in which the map is as it was. -/
theorem upd_same {wr : World} {m k : Nat} {D : DataW Unit} (hk : k < maxLen) (ho : wr.ownsMap Try.prog 9 ptrElem m k D) : ∃ upd : World → ByteArray → Nat → World,
    (∀ W (c : ByteArray) (L : List UInt8) b, SameMap wr m W → c.size ≤ 1 → L.length ≤ 20 → (Instr.mapUpdate 46 (.map (some m)) (.string (c ++ ⟨L.toArray⟩)) (.pointer (some ⟨b, 0, none⟩))).run Try.prog W = .ok () (upd W (c ++ ⟨L.toArray⟩) b)) ∧
    Hid (∀ W (c : ByteArray) (L : List UInt8) b, SameMap wr m W → c.size ≤ 1 → L.length ≤ 20 → (upd W (c ++ ⟨L.toArray⟩) b).ownsMap Try.prog 9 ptrElem m (k + 1) (D.put (.string (c ++ (⟨L.toArray⟩ : ByteArray)).data.toList) (.lit (.int .i64 (b : Int)))) ∧ W.grownBy (upd W (c ++ ⟨L.toArray⟩) b) (some m)) := by
  obtain ⟨upd, h⟩ := upd_fn m k D hk
  exact ⟨upd, fun W c L b h1 h2 h3 => (h W _ b (h1.owns ho) (key_size h2 h3)).1, fun W c L b h1 h2 h3 => (h W _ b (h1.owns ho) (key_size h2 h3)).2⟩

/-- A cell of another block behind 'm[key] = p'. -/
theorem upd_cell {wr : World} {m k : Nat} {D : DataW Unit} {upd : World → ByteArray → Nat → World}
    (HU : Hid (∀ W (c : ByteArray) (L : List UInt8) b, SameMap wr m W → c.size ≤ 1 → L.length ≤ 20 → (upd W (c ++ ⟨L.toArray⟩) b).ownsMap Try.prog 9 ptrElem m (k + 1) (D.put (.string (c ++ (⟨L.toArray⟩ : ByteArray)).data.toList) (.lit (.int .i64 (b : Int)))) ∧ W.grownBy (upd W (c ++ ⟨L.toArray⟩) b) (some m)))
    {W : World} {c : ByteArray} {L : List UInt8} {b g o : Nat} {v : Value} (hS : SameMap wr m W) (hc : c.size ≤ 1) (hL : L.length ≤ 20) (hne : g ≠ m) (h : W.cell? ⟨g, o, none⟩ = some v) : (upd W (c ++ ⟨L.toArray⟩) b).cell? ⟨g, o, none⟩ = some v :=
  (HU.out W c L b hS hc hL).2.cell h (by simpa using hne)

/-- What the loop has laid behind k rounds. -/
def Filled (w1 wr : World) (k : Nat) (ts : Ts) (sl : List (List UInt8)) : Prop :=
  Tasks wr w1.heap.size k ts ∧ ts.map (·.2) = sl.take k ∧ Keyd ts ∧ wr.cell? ⟨w1.heap.size + 1, 12, none⟩ = some (.map (some w1.heap.size)) ∧ Below w1.heap.size w1 wr

/-- One round of the loop that fills the map: W: behind the key and the task are made; b: the task's block. -/
theorem filled_step {w1 wr W : World} {k b : Nat} {ts : Ts} {sl : List (List UInt8)} {D : DataW Unit} {upd : World → ByteArray → Nat → World} {c : ByteArray} {L : List UInt8} {s : ByteArray}
    (HU : Hid (∀ W (c : ByteArray) (L : List UInt8) b, SameMap wr w1.heap.size W → c.size ≤ 1 → L.length ≤ 20 → (upd W (c ++ ⟨L.toArray⟩) b).ownsMap Try.prog 9 ptrElem w1.heap.size (k + 1) (D.put (.string (c ++ (⟨L.toArray⟩ : ByteArray)).data.toList) (.lit (.int .i64 (b : Int)))) ∧ W.grownBy (upd W (c ++ ⟨L.toArray⟩) b) (some w1.heap.size)))
    (hpw : ts.Pairwise (fun p q => p.1 ≠ q.1)) (hown : wr.ownsMap Try.prog 9 ptrElem w1.heap.size k D) (hhas : ∀ k, Maps.has D (.string k) = true → ∃ s, (k, s) ∈ ts)
    (hts : ∀ p ∈ ts, ∃ b : Nat, (∀ z, D.atKey (.string p.1) z = .lit (.int .i64 (b : Int))) ∧ ∃ s : ByteArray, wr.cell? ⟨b, 0, none⟩ = some (.string s) ∧ s.data.toList = p.2 ∧ s.size ≤ maxLen)
    (hsnd : ts.map (·.2) = sl.take k) (hkd : Keyd ts) (hrc : wr.cell? ⟨w1.heap.size + 1, 12, none⟩ = some (.map (some w1.heap.size))) (hbw : Below w1.heap.size w1 wr)
    (hk : sl[k]? = some s.data.toList) (hsz : s.size ≤ maxLen) (hc : c.data.toList = [116]) (hL : L.length ≤ 20) (hval : decVal L = k)
    (hB : Below wr.heap.size wr W) (hbox : W.cell? ⟨b, 0, none⟩ = some (.string s)) (hbm : b ≠ w1.heap.size) :
    Filled w1 (upd W (c ++ ⟨L.toArray⟩) b) (k + 1) (ts ++ [(116 :: L, s.data.toList)]) sl := by
  have hml := hown.lt
  have hG := SameMap.below hB hml
  have hc1 : c.size ≤ 1 := by
    have : c.data.toList.length = 1 := by rw [hc]; rfl
    simp at this
    omega
  obtain ⟨h1, h2⟩ := HU.out W c L b hG hc1 hL
  have ek : (c ++ (⟨L.toArray⟩ : ByteArray)).data.toList = 116 :: L := by simp [hc]
  have hkl : ts.length = k := by
    have h3 := congrArg List.length hsnd
    have h4 := (List.getElem?_eq_some_iff.1 hk).1
    simp at h3
    omega
  refine ⟨?_, ?_, ?_, ?_, ?_⟩
  · rw [ek] at h1
    refine tasks_step hpw hhas hts hown.isMap (keyd_ne hkd (by rw [hval, hkl])) hsz (fun b' s' h' => ?_) (h2.cell hbox (by simpa using hbm)) h1
    have hlt := World.block_lt_of_cell? wr _ h'
    refine h2.cell ((hB.cell hlt).trans h') ?_
    intro e
    have e := Option.some.inj e
    obtain ⟨es, cl, hb, _⟩ := hown
    have e : b' = w1.heap.size := e
    subst e
    simp [World.cell?, hb] at h'
  · rw [List.map_append, hsnd, List.take_add_one, hk]
    rfl
  · exact keyd_step hkd (by rw [hval, hkl])
  · refine h2.cell ((hB.cell (World.block_lt_of_cell? wr _ hrc)).trans hrc) ?_
    intro e
    have e : w1.heap.size + 1 = w1.heap.size := Option.some.inj e
    omega
  · exact (hbw.trans (hB.mono (Nat.le_of_lt hml))).grown h2 (by have := hbw.size; have := hB.size; omega) (fun j hj => by have := Option.some.inj hj; omega)

/-! ### Plain: how often, and how many different -/
def occ (l : List (List UInt8)) (t : List UInt8) : Nat := (l.filter fun x => x == t).length

theorem tot_eq {ts : Ts} {l : List (List UInt8)} (h : ts.map (·.2) = l) (t : List UInt8) : tot ts t = occ l t := by
  subst h
  unfold tot occ
  rw [List.filter_map, List.length_map]
  rfl

theorem occ_snoc (l : List (List UInt8)) (x t : List UInt8) : occ (l ++ [x]) t = occ l t + if x = t then 1 else 0 := by
  unfold occ
  rw [List.filter_append, List.length_append]
  by_cases h : x = t <;> simp [h]

theorem occ_le (l : List (List UInt8)) (t : List UInt8) : occ l t ≤ l.length := List.length_filter_le _ _

theorem occ_pos (l : List (List UInt8)) (t : List UInt8) : 0 < occ l t ↔ t ∈ l := by
  unfold occ
  rw [List.length_pos_iff_exists_mem]
  constructor
  · rintro ⟨x, hx⟩
    obtain ⟨h1, h2⟩ := List.mem_filter.1 hx
    have : x = t := by simpa using h2
    exact this ▸ h1
  · intro h
    exact ⟨t, List.mem_filter.2 ⟨h, by simp⟩⟩

/-- The different ones, each at its first place. -/
def addNew (acc : List (List UInt8)) (x : List UInt8) : List (List UInt8) := if x ∈ acc then acc else acc ++ [x]
def diff (l : List (List UInt8)) : List (List UInt8) := l.foldl addNew []

theorem diff_snoc (l : List (List UInt8)) (x : List UInt8) : diff (l ++ [x]) = addNew (diff l) x := by simp [diff, List.foldl_append]

theorem mem_addNew (acc : List (List UInt8)) (x y : List UInt8) : y ∈ addNew acc x ↔ y ∈ acc ∨ y = x := by
  unfold addNew
  split
  · constructor
    · exact Or.inl
    · rintro (h | rfl) <;> assumption
  · simp

theorem fold_mem (y : List UInt8) : ∀ (l acc : List (List UInt8)), y ∈ l.foldl addNew acc ↔ y ∈ acc ∨ y ∈ l
  | [], acc => by simp
  | x :: r, acc => by
    rw [List.foldl_cons, fold_mem y r, mem_addNew]
    simp [or_assoc]

theorem mem_diff (l : List (List UInt8)) (y : List UInt8) : y ∈ diff l ↔ y ∈ l := by unfold diff; rw [fold_mem]; simp

theorem fold_nodup : ∀ (l acc : List (List UInt8)), acc.Nodup → (l.foldl addNew acc).Nodup
  | [], _, h => h
  | x :: r, acc, h => by
    rw [List.foldl_cons]
    apply fold_nodup r
    unfold addNew
    split
    · exact h
    · rename_i hx
      rw [List.nodup_append]
      exact ⟨h, by simp, fun a ha b hb => by simp at hb; subst hb; intro e; subst e; exact hx ha⟩

theorem diff_nodup (l : List (List UInt8)) : (diff l).Nodup := fold_nodup l [] List.nodup_nil

theorem diff_step (l : List (List UInt8)) (x : List UInt8) : (diff (l ++ [x])).length = (diff l).length + if x ∈ l then 0 else 1 := by
  rw [diff_snoc]
  unfold addNew
  by_cases h : x ∈ l
  · rw [if_pos ((mem_diff l x).2 h), if_pos h]; rfl
  · rw [if_neg (fun e => h ((mem_diff l x).1 e)), if_neg h]; simp

theorem length_le_of_subset : ∀ {l₁ l₂ : List (List UInt8)}, l₁.Nodup → (∀ x ∈ l₁, x ∈ l₂) → l₁.length ≤ l₂.length
  | [], _, _, _ => Nat.zero_le _
  | x :: r, l₂, hn, hs => by
    obtain ⟨hx, hr⟩ := List.nodup_cons.1 hn
    have hx2 : x ∈ l₂ := hs x (by simp)
    have ih := length_le_of_subset (l₂ := l₂.erase x) hr (fun y hy => (List.mem_erase_of_ne (by rintro rfl; exact hx hy)).2 (hs y (by simp [hy])))
    rw [List.length_erase_of_mem hx2] at ih
    have := List.length_pos_of_mem hx2
    simp only [List.length_cons]
    omega

/-- A map whose keys are just the members of l has as many entries as l has different members. -/
theorem size_diff {D : DataW Unit} {l : List (List UInt8)} (hT : Canon D) (hstr : ∀ es, D = .map es → ∀ p ∈ es, ∃ t, p.1 = .string t) (h : ∀ t, Maps.has D (.string t) = decide (t ∈ l)) : Maps.size D = (diff l).length := by
  obtain ⟨es, rfl, hp, _⟩ := hT
  have hstr := hstr es rfl
  have hap := apart_of_rising hp
  let f : Lit × DataW Unit → List UInt8 := fun p => match p.1 with | .string t => t | _ => []
  have hf : ∀ p ∈ es, p.1 = .string (f p) := fun p hp => by obtain ⟨t, ht⟩ := hstr p hp; simp [f, ht]
  have hnd : (es.map f).Nodup := by
    rw [List.nodup_iff_pairwise_ne, List.pairwise_map]
    exact hap.imp_of_mem (fun {a b} ha hb hne e => hne (by rw [hf a ha, hf b hb, e]))
  have hmem : ∀ t, t ∈ es.map f ↔ t ∈ l := by
    intro t
    have e := h t
    rw [has_eq] at e
    constructor
    · intro ht
      obtain ⟨p, hp, rfl⟩ := List.mem_map.1 ht
      have : es.any (fun q => q.1.sameKey (.string (f p))) = true := List.any_eq_true.2 ⟨p, hp, by rw [hf p hp]; simp [Lit.sameKey]⟩
      rw [this] at e
      simpa using e.symm
    · intro ht
      rw [decide_eq_true ht, List.any_eq_true] at e
      obtain ⟨p, hp, hk⟩ := e
      rw [hf p hp] at hk
      have : f p = t := by simpa [Lit.sameKey] using hk
      exact List.mem_map.2 ⟨p, hp, this⟩
  have h1 := length_le_of_subset hnd (fun x hx => (mem_diff l x).2 ((hmem x).1 hx))
  have h2 := length_le_of_subset (diff_nodup l) (fun x hx => (hmem x).2 ((mem_diff l x).1 hx))
  simp only [List.length_map] at h1 h2
  rw [size_eq]
  omega

theorem keys_str {w : World} {b n : Nat} {R : Value → Option (DataW Unit × List MemPlace)} {D : DataW Unit} (h : w.ownsMap Try.prog 9 R b n D) : ∀ es, D = .map es → ∀ p ∈ es, ∃ t, p.1 = .string t := by
  intro es he p hp
  obtain ⟨es0, c, _, F, _, hD⟩ := h
  rw [hD] at he
  injection he with he
  rw [← he] at hp
  obtain ⟨v, hv⟩ := fit_keys F p (mem_sorted.1 hp)
  obtain ⟨s, _, h2, _⟩ := keyOf_string_inv hv
  exact ⟨_, h2⟩

/-! ### The two loops behind: how often the i-th status has come, and whether it came before -/
def cameBy (sl : List (List UInt8)) (t : List UInt8) (m i : Nat) : Bool := decide (t ∈ sl.take (min m i))

theorem occ_step {sl : List (List UInt8)} {m : Nat} {y : List UInt8} (h : sl[m]? = some y) (t : List UInt8) : occ (sl.take (m + 1)) t = occ (sl.take m) t + if y = t then 1 else 0 := by
  rw [List.take_add_one, h]
  exact occ_snoc _ _ _

theorem cameBy_zero (sl : List (List UInt8)) (t : List UInt8) (i : Nat) : cameBy sl t 0 i = false := by simp [cameBy]

theorem cameBy_hit {sl : List (List UInt8)} {m i : Nat} {t : List UInt8} (h : sl[m]? = some t) (hm : m < i) : cameBy sl t (m + 1) i = true := by
  have e : min (m + 1) i = m + 1 := by omega
  unfold cameBy
  rw [e, List.take_add_one, h]
  simp

theorem cameBy_late {sl : List (List UInt8)} {m i : Nat} {t : List UInt8} (hm : ¬ m < i) : cameBy sl t (m + 1) i = cameBy sl t m i := by
  have e : min (m + 1) i = min m i := by omega
  unfold cameBy
  rw [e]

theorem cameBy_other {sl : List (List UInt8)} {m i : Nat} {t y : List UInt8} (h : sl[m]? = some y) (hne : y ≠ t) : cameBy sl t (m + 1) i = cameBy sl t m i := by
  by_cases hm : m < i
  · have e : min (m + 1) i = m + 1 := by omega
    have e2 : min m i = m := by omega
    unfold cameBy
    rw [e, e2, List.take_add_one, h]
    simp [Ne.symm hne]
  · exact cameBy_late hm

theorem cameBy_end {sl : List (List UInt8)} {i : Nat} {t : List UInt8} (hi : i ≤ sl.length) : cameBy sl t sl.length i = decide (t ∈ sl.take i) := by
  have e : min sl.length i = i := by omega
  unfold cameBy
  rw [e]

theorem diff_next {sl : List (List UInt8)} {i : Nat} {t : List UInt8} (h : sl[i]? = some t) : (diff (sl.take (i + 1))).length = (diff (sl.take i)).length + if t ∈ sl.take i then 0 else 1 := by
  rw [List.take_add_one, h]
  exact diff_step _ _

theorem diff_le (l : List (List UInt8)) : (diff l).length ≤ l.length := length_le_of_subset (diff_nodup l) (fun x hx => (mem_diff l x).1 hx)

end Go.Proofs.Qxb6003345a.Fill
