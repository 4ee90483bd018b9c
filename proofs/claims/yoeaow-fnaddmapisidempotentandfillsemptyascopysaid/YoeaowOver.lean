/-
  Seat oeao: WHAT AddMap LEAVES ('over fo fm'), AS PLAIN FACTS.
-/
import Derived.Test.YoeaowLawKit
import Derived.Test.YoeaowMerge
namespace Go.Proofs.Yoeaow
open Go.RowKit
open Go.Proofs.Yoeaow.Pl

theorem over_in {w1 w2 : World} {B1 B2 : Nat} {a xs b ys : List ByteArray} {f fo : ByteArray → Option Nat} (h : Built w1 B1 a xs f) (ho : Built w2 B2 b ys fo) (s : ByteArray) : s ∈ lasts Pl.yes a ++ lasts (notIn a) b ↔ (over fo f s).isSome = true := by
  rw [mem_union]
  unfold over
  by_cases hb : s ∈ b
  · obtain ⟨g, hg, _⟩ := ho.yes s hb
    rw [hg]
    simp [hb]
  · rw [ho.no s hb]
    by_cases ha : s ∈ a
    · obtain ⟨g, hg, _⟩ := h.yes s ha
      rw [hg]
      simp [ha]
    · rw [h.no s ha]
      simp [ha, hb]

theorem over_hit {fo f : ByteArray → Option Nat} {s : ByteArray} {g : Nat} (h : fo s = some g) : over fo f s = some g := by
  unfold over; rw [h]; rfl
theorem over_miss {fo f : ByteArray → Option Nat} {s : ByteArray} (h : fo s = none) : over fo f s = f s := by
  unfold over; rw [h]; rfl
theorem over_empty (fo : ByteArray → Option Nat) : over fo (fun _ => none) = fo := by
  funext s
  cases h : fo s with
  | none => exact over_miss h
  | some g => exact over_hit h
theorem over_left (f : ByteArray → Option Nat) : over (fun _ => none) f = f := by
  funext s
  exact over_miss rfl
theorem over_over (fo f : ByteArray → Option Nat) : over fo (over fo f) = over fo f := by
  funext s
  cases h : fo s with
  | none => exact over_miss h
  | some g => rw [over_hit h, over_hit h]

/-- Every name of either side is there. -/
theorem over_some {w1 w2 : World} {B1 B2 : Nat} {a xs b ys : List ByteArray} {f fo : ByteArray → Option Nat} (h : Built w1 B1 a xs f) (ho : Built w2 B2 b ys fo) {s : ByteArray} (hs : s ∈ a ∨ s ∈ b) : ∃ g, over fo f s = some g :=
  Option.isSome_iff_exists.1 ((over_in h ho s).1 ((mem_union a b s).2 hs))

end Go.Proofs.Yoeaow
