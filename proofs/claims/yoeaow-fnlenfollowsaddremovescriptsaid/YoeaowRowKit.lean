/-
  Seat oeao: THE ARGUMENTS OPENED: a []string, as the walks are told of it ('StrsAt').
-/
import Derived.Test.YoeaowStrs
import Derived.ProofKit
import Derived.OpenShut
import Derived.ShutString
import Derived.ChangeOld
import Derived.Below
namespace Go.Proofs.Yoeaow
open Go.ChangeShapes Go.WideShapes Go.ChangeAt Go.RowKit

theorem ownKnobNone : ownKnob Eaog.prog.godebug = none := by kernel_rfl
theorem laidOutYes : laidOutB Eaog.prog = true := by kernel_rfl
theorem cellsOf9 : Eaog.prog.cellsOf 9 = 1 := by kernel_rfl

theorem open_strs {H : Type} {enc : TypeId × Value → H} {W : World} {a : Option Addr} {n cap : Nat} {d : DataW H} {p : List MemPlace} (h : DataW.Trod enc Eaog.prog W 0 (fun _ => true) true 22 (.slice a n cap) d p) :
    ∃ (b off : Nat) (ss : List ByteArray), StrsAt W a n b off ss ∧ n ≤ 9223372036854775807 := by
  obtain ⟨fuel, hf⟩ := h
  rcases open_strings Eaog.underlying22 Eaog.underlying9 cellsOf9 hf with ⟨hcs, _⟩ | ⟨x, l, c, ss, hcs, _, hl, hm, hz, _, hcell, _⟩
  · simp [Value.cells] at hcs
    obtain ⟨rfl, rfl, rfl⟩ := hcs
    exact ⟨0, 0, [], ⟨rfl, fun h => by omega, fun k x hx => by simp at hx⟩, by omega⟩
  · simp [Value.cells] at hcs
    obtain ⟨rfl, rfl, rfl⟩ := hcs
    simp only [if_true] at hz
    unfold maxLen at hm
    by_cases h0 : n = 0
    · subst h0
      exact ⟨0, 0, [], ⟨rfl, fun h => by omega, fun k x hx => by simp at hx⟩, by omega⟩
    · obtain ⟨b, off, spot⟩ := x
      have hspot : spot = none := by simpa [Addr.add] using World.cell?_spot (hcell 0 (by omega))
      subst hspot
      refine ⟨b, off, ss.take n, ⟨by rw [List.length_take]; omega, fun _ => rfl, fun k x hx => ?_⟩, by omega⟩
      have hk : k < n := by
        have := (List.getElem?_eq_some_iff.1 hx).1
        rw [List.length_take] at this
        omega
      rw [List.getElem?_take_of_lt hk] at hx
      have := hcell k (by omega)
      rw [add_plain, List.getD_eq_getElem?_getD, hx] at this
      exact this

end Go.Proofs.Yoeaow
