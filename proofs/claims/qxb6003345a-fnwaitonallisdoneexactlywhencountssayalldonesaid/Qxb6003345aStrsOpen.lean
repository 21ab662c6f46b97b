import Derived.Test.Qxb6003345aClone
import Derived.Test.Qxb6003345aStrsIn
import Derived.SliceStrings
import Derived.ProofKit
import Derived.OpenShut
import Derived.ShutString
import Derived.ChangeOld
namespace Go.Proofs.Qxb6003345a.StrsOpen
open Go.ChangeShapes Go.WideShapes Go.ChangeAt Go.RowKit

theorem own : ownKnob Try.prog.godebug = none := by kernel_rfl
theorem laidOut : laidOutB Try.prog = true := by kernel_rfl

/-- All that a walk is told of a slice of strings that came in. -/
def Strs (w : World) (p : Option Addr) (n cap : Nat) (ss : List ByteArray) : Prop :=
  ss.length = n ∧ n ≤ maxLen ∧ Clone.Came w p n cap (ss.map Value.string) ∧ StrsIn.StrRow w p n ∧ ∀ s ∈ ss, s.size ≤ maxLen

theorem opened {H : Type} {enc : TypeId × Value → H} {W : World} {base fuel : Nat} {sp : Nat → Bool} {held : Bool} {x : DataW H × List MemPlace} {a0 : Option Addr} {len0 cap0 : Nat} (hsp : ∀ b, sp b = true)
    (h : DataW.trod enc Try.prog W base sp held fuel 41 [.slice a0 len0 cap0] = some x) : ∃ ss, Strs W a0 len0 cap0 ss := by
  have one : ∀ (l : List ByteArray), ∀ v ∈ l.map Value.string, v.oneCell' = true := fun l v hv => by obtain ⟨s, _, rfl⟩ := List.mem_map.1 hv; rfl
  rcases open_strings Try.underlying41 Try.underlying9 (by kernel_rfl) h with ⟨hcs, _⟩ | ⟨a, l, c, zs, hcs, _, hl, hm, hz, _, hcell, hwz⟩
  · simp at hcs
    obtain ⟨rfl, rfl, rfl⟩ := hcs
    exact ⟨[], rfl, Nat.zero_le _, ⟨rfl, one [], Or.inl ⟨rfl, rfl, rfl⟩⟩, Or.inl rfl, fun s hs => by simp at hs⟩
  · simp at hcs
    obtain ⟨rfl, rfl, rfl⟩ := hcs
    rw [hsp, if_pos rfl] at hz
    have hlen : (zs.take len0).length = len0 := by rw [List.length_take]; omega
    have hcell' : ∀ j (s : ByteArray), (zs.take len0)[j]? = some s → W.cell? (a.add j) = some (.string s) := fun j s hj => by
      have h1 := (List.getElem?_eq_some_iff.1 hj).1
      rw [hlen] at h1
      rw [List.getElem?_take_of_lt h1] at hj
      rw [hcell j (by omega)]
      simp [List.getD, hj]
    refine ⟨zs.take len0, hlen, by omega, ⟨by simpa using hlen, one _, Or.inr ⟨a, rfl, fun j v hj => ?_⟩⟩, ?_, fun s hs => hwz s (List.mem_of_mem_take hs)⟩
    · rw [List.getElem?_map] at hj
      obtain ⟨s, hs, rfl⟩ := Option.map_eq_some_iff.1 hj
      exact hcell' j s hs
    · rcases Nat.eq_zero_or_pos len0 with h0 | h0
      · exact Or.inl h0
      · obtain ⟨b, off, spot⟩ := a
        have hc0 := hcell 0 (by omega)
        have hspot : spot = none := by simpa [Addr.add] using World.cell?_spot hc0
        subst hspot
        refine Or.inr ⟨b, off, rfl, fun j hj => ⟨zs.getD j ByteArray.empty, ?_⟩⟩
        have := hcell j (by omega)
        rwa [Addr.add_lit] at this

end Go.Proofs.Qxb6003345a.StrsOpen
