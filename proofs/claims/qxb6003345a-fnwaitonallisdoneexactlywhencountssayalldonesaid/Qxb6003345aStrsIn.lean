import Derived.Test.Qxb6003345aRows
import Derived.WalkKit
import Derived.WalkSpells
import Derived.WalkLawsBesides
namespace Go.Proofs.Qxb6003345a.StrsIn
open Go.RowKit

/-- It returns a bool. -/
def IsB (e : Ending) : Prop := ∃ b : Bool, e = .returned (.bool b)
/-- It returns an int. -/
def IsI (e : Ending) : Prop := ∃ v : Int, e = .returned (.int .i64 v)

set_option maxHeartbeats 400000 in
/-- The bound on the total length: a slice of strings of no element. -/
theorem zz25_none (w : World) (p : Option Addr) (cap : Nat) : Calls Try.prog 25 #[.slice p 0 cap] w fun e w' => IsB e ∧ w' = w := by
  go_enter Try.func25, Try.ntmps25
  go_wp2
  refine wp_loop_rounds 1 ?_
  rw [rounds_succ]
  go_wp2
  go_ret
  exact ⟨⟨_, rfl⟩, rfl⟩

set_option maxHeartbeats 800000 in
theorem zz25_some (w : World) (b off n cap : Nat) (hn : n ≤ maxLen) (hc : ∀ j, j < n → ∃ s, w.cell? ⟨b, off + j, none⟩ = some (.string s)) :
    Calls Try.prog 25 #[.slice (some ⟨b, off, none⟩) n cap] w fun e w' => IsB e ∧ w' = w := by
  unfold maxLen at hn
  go_enter Try.func25, Try.ntmps25
  go_wp2
  · go_ret
    exact ⟨⟨_, rfl⟩, rfl⟩
  · have hlen : n ≤ 1048576 := by
      have h : (n : Int) ≤ 1048576 := by assumption
      omega
    go_loop [3, 4] (fun z i => ∃ k m : Nat, k ≤ n ∧ m ≤ 1048576 ∧ i = .int .i64 k ∧ z = .int .i64 m) (fun _ i => n - (intOf i).toNat)
    case atStart => exact ⟨0, n, Nat.zero_le _, hlen, rfl, by go_num⟩
    case round =>
      obtain ⟨k, m, hk, hm, rfl, rfl⟩ := hrel
      by_cases hlt : k < n
      · obtain ⟨s, hs⟩ := hc k hlt
        clear hc
        go_wp2
        · go_ret
          exact ⟨⟨_, rfl⟩, rfl⟩
        · go_ret
          exact ⟨⟨_, rfl⟩, rfl⟩
        · go_round
          case rel => exact ⟨k + 1, m + s.size, by omega, by omega, by go_num, by go_num⟩
          case measure => simp [intOf]; omega
      · go_wp2
        go_ret
        exact ⟨⟨_, rfl⟩, rfl⟩

set_option maxHeartbeats 400000 in
/-- The bound on the total length: a slice of strings of no element. -/
theorem zz29_none (w : World) (p : Option Addr) (cap : Nat) (x : Bool) : Calls Try.prog 29 #[.slice p 0 cap, .bool x] w fun e w' => IsB e ∧ w' = w := by
  go_enter Try.func29, Try.ntmps29
  go_wp2
  refine wp_loop_rounds 1 ?_
  rw [rounds_succ]
  go_wp2
  go_ret
  exact ⟨⟨_, rfl⟩, rfl⟩

set_option maxHeartbeats 800000 in
theorem zz29_some (w : World) (b off n cap : Nat) (x : Bool) (hn : n ≤ maxLen) (hc : ∀ j, j < n → ∃ s, w.cell? ⟨b, off + j, none⟩ = some (.string s)) :
    Calls Try.prog 29 #[.slice (some ⟨b, off, none⟩) n cap, .bool x] w fun e w' => IsB e ∧ w' = w := by
  unfold maxLen at hn
  go_enter Try.func29, Try.ntmps29
  go_wp2
  · go_ret
    exact ⟨⟨_, rfl⟩, rfl⟩
  · have hlen : n ≤ 1048576 := by
      have h : (n : Int) ≤ 1048576 := by assumption
      omega
    go_loop [5, 6] (fun z i => ∃ k m : Nat, k ≤ n ∧ m ≤ 1048576 ∧ i = .int .i64 k ∧ z = .int .i64 m) (fun _ i => n - (intOf i).toNat)
    case atStart => exact ⟨0, n, Nat.zero_le _, hlen, rfl, by go_num⟩
    case round =>
      obtain ⟨k, m, hk, hm, rfl, rfl⟩ := hrel
      by_cases hlt : k < n
      · obtain ⟨s, hs⟩ := hc k hlt
        clear hc
        go_wp2
        · go_ret
          exact ⟨⟨_, rfl⟩, rfl⟩
        · go_ret
          exact ⟨⟨_, rfl⟩, rfl⟩
        · go_round
          case rel => exact ⟨k + 1, m + s.size, by omega, by omega, by go_num, by go_num⟩
          case measure => simp [intOf]; omega
      · go_wp2
        go_ret
        exact ⟨⟨_, rfl⟩, rfl⟩

set_option maxHeartbeats 400000 in
/-- zzStringsSize at no element. -/
theorem size26_none (w : World) (p : Option Addr) (cap : Nat) : Calls Try.prog 26 #[.slice p 0 cap] w fun e w' => IsI e ∧ w' = w := by
  go_enter Try.func26, Try.ntmps26
  go_wp2
  refine wp_loop_rounds 1 ?_
  rw [rounds_succ]
  go_wp2
  go_ret
  exact ⟨⟨_, rfl⟩, rfl⟩

set_option maxHeartbeats 800000 in
theorem size26_some (w : World) (b off n cap : Nat) (hn : n ≤ maxLen) (hc : ∀ j, j < n → ∃ s, w.cell? ⟨b, off + j, none⟩ = some (.string s)) :
    Calls Try.prog 26 #[.slice (some ⟨b, off, none⟩) n cap] w fun e w' => IsI e ∧ w' = w := by
  unfold maxLen at hn
  go_enter Try.func26, Try.ntmps26
  go_wp2
  · go_ret
    exact ⟨⟨_, rfl⟩, rfl⟩
  · have hlen : n ≤ 131072 := by
      have h : (n : Int) ≤ 131072 := by assumption
      omega
    go_loop [3, 4] (fun z i => ∃ k m : Nat, k ≤ n ∧ m ≤ 1048576 ∧ i = .int .i64 k ∧ z = .int .i64 m) (fun _ i => n - (intOf i).toNat)
    case atStart => exact ⟨0, 8 * n, Nat.zero_le _, by omega, rfl, by go_num⟩
    case round =>
      obtain ⟨k, m, hk, hm, rfl, rfl⟩ := hrel
      by_cases hlt : k < n
      · obtain ⟨s, hs⟩ := hc k hlt
        clear hc
        go_wp2
        · go_ret
          exact ⟨⟨_, rfl⟩, rfl⟩
        · go_round
          case rel => exact ⟨k + 1, m + s.size, by omega, by omega, by go_num, by go_num⟩
          case measure => simp [intOf]; omega
      · go_wp2
        go_ret
        exact ⟨⟨_, rfl⟩, rfl⟩

/-- What is told of a slice of strings that came in. -/
def StrRow (w : World) (p : Option Addr) (n : Nat) : Prop := n = 0 ∨ ∃ b off, p = some ⟨b, off, none⟩ ∧ ∀ j, j < n → ∃ s, w.cell? ⟨b, off + j, none⟩ = some (.string s)

theorem zz25_any (w : World) (p : Option Addr) (n cap : Nat) (hn : n ≤ maxLen) (h : StrRow w p n) : Calls Try.prog 25 #[.slice p n cap] w fun e w' => IsB e ∧ w' = w := by
  rcases h with rfl | ⟨b, off, rfl, hc⟩
  · exact zz25_none w p cap
  · exact zz25_some w b off n cap hn hc

theorem zz29_any (w : World) (p : Option Addr) (n cap : Nat) (x : Bool) (hn : n ≤ maxLen) (h : StrRow w p n) : Calls Try.prog 29 #[.slice p n cap, .bool x] w fun e w' => IsB e ∧ w' = w := by
  rcases h with rfl | ⟨b, off, rfl, hc⟩
  · exact zz29_none w p cap x
  · exact zz29_some w b off n cap x hn hc

theorem size26_any (w : World) (p : Option Addr) (n cap : Nat) (hn : n ≤ maxLen) (h : StrRow w p n) : Calls Try.prog 26 #[.slice p n cap] w fun e w' => IsI e ∧ w' = w := by
  rcases h with rfl | ⟨b, off, rfl, hc⟩
  · exact size26_none w p cap
  · exact size26_some w b off n cap hn hc

end Go.Proofs.Qxb6003345a.StrsIn
