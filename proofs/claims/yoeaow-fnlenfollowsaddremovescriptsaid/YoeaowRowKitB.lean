/-
  Seat oeao: A []bool AMONG THE ARGUMENTS, OPENED ('BoolsAt').
-/
import Derived.Test.YoeaowRowKit
import Derived.Test.YoeaowDrop
namespace Go.Proofs.Yoeaow
open Go.ChangeShapes Go.WideShapes Go.ChangeAt Go.RowKit

theorem cellsOf4 : Eaog.prog.cellsOf 4 = 1 := by kernel_rfl

/-- The bool of a datum that is one. -/
def boolOf {H : Type} : DataW H × List MemPlace → Bool
  | (.lit (.bool b), _) => b
  | _ => false

theorem open_bools {H : Type} {enc : TypeId × Value → H} {W : World} {a : Option Addr} {n cap : Nat} {d : DataW H} {p : List MemPlace} (h : DataW.Trod enc Eaog.prog W 0 (fun _ => true) true 35 (.slice a n cap) d p) :
    ∃ (b off : Nat) (bs : List Bool), BoolsAt W a n b off bs ∧ n ≤ 9223372036854775807 := by
  obtain ⟨fuel, hf⟩ := h
  rcases DataW.trod_slice Eaog.underlying35 hf with ⟨hcs, _⟩ | ⟨x, l, c, elems, rest, m, _, hcs, _, _, hl, hm, hlen, hel, _, _⟩
  · simp [Value.cells] at hcs
    obtain ⟨rfl, rfl, rfl⟩ := hcs
    exact ⟨0, 0, [], ⟨rfl, fun h => by omega, fun k x hx => by simp at hx⟩, by omega⟩
  · simp [Value.cells] at hcs
    obtain ⟨rfl, rfl, rfl⟩ := hcs
    unfold maxLen at hm
    by_cases h0 : n = 0
    · subst h0
      exact ⟨0, 0, [], ⟨rfl, fun h => by omega, fun k x hx => by simp at hx⟩, by omega⟩
    · have each : ∀ i y, elems[i]? = some y → W.cell? (x.add i) = some (.bool (boolOf y)) := by
        intro i y hy
        have hi : i < n := by
          have := (List.getElem?_eq_some_iff.1 hy).1
          omega
        have hb := hel i hi
        rw [hy, cellsOf4, Nat.mul_one, Option.bind_eq_some_iff] at hb
        obtain ⟨cs, hcs, hyy⟩ := hb
        obtain ⟨v, rfl, rfl⟩ := DataW.trod_bool Eaog.underlying4 hyy
        exact cell_of_cells?_one hcs
      obtain ⟨b, off, spot⟩ := x
      have hspot : spot = none := by
        have he : elems[0]? = some (elems[0]'(by omega)) := List.getElem?_eq_getElem _
        simpa [Addr.add] using World.cell?_spot (each 0 _ he)
      subst hspot
      refine ⟨b, off, elems.map boolOf, ⟨by rw [List.length_map]; exact hlen, fun _ => rfl, fun k y hy => ?_⟩, by omega⟩
      rw [List.getElem?_map, Option.map_eq_some_iff] at hy
      obtain ⟨z, hz, rfl⟩ := hy
      have := each k z hz
      rwa [add_plain] at this

end Go.Proofs.Yoeaow
