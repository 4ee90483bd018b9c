/-
  Seat oeao: WHAT FnCopyIsIndependentOfOriginal DOES TO THE COPY, AS PLAIN FACTS: the modules that are added ("copy"), the names that are removed.
-/
import Derived.Test.YoeaowSnap
import Derived.Test.YoeaowMerge
import Derived.Lib.SlBytesConst
namespace Go.Proofs.Yoeaow
open Go.RowKit
open Go.Proofs.Yoeaow.Pl

/-- "copy" -/
def copyB : ByteArray := ⟨#[99, 111, 112, 121]⟩
/-- What '[]byte("copy")' lays. -/
def copyO : Obj := .cells #[.int .u8 99, .int .u8 111, .int .u8 112, .int .u8 121] 5 (4, 5)

theorem conv_const (w : World) : (convert 31 31 (.slice (some ⟨w.heap.size, 0, none⟩) 4 4)).run Eaog.prog (w.alloc (.cells #[.int .u8 99, .int .u8 111, .int .u8 112, .int .u8 121] 5)) = .ok (.slice (some ⟨w.heap.size, 0, none⟩) 4 4) (w.alloc copyO) :=
  Lib.run_convert_bytes_const w 31 5 _ 4 4 Eaog.underlying31 Eaog.underlying5

theorem copy_cells (w : World) (j : Nat) (hj : j < copyB.data.size) : (w.alloc copyO).cell? ⟨w.heap.size, j, none⟩ = some (.int .u8 (copyB.data[j].toNat : Int)) := by
  unfold copyO
  rw [World.cell?_alloc_mark]
  match j, hj with
  | 0, _ => rfl
  | 1, _ => rfl
  | 2, _ => rfl
  | 3, _ => rfl

/-- A module whose source is "copy", as the walk asks for it. -/
theorem IsSrc.copy {w : World} {g : Nat} (h : IsSrc w g copyB) : ∃ b cap, w.cell? ⟨g, 0, none⟩ = some (.slice (some ⟨b, 0, none⟩) 4 cap) ∧ (convert 31 9 (.slice (some ⟨b, 0, none⟩) 4 cap)).run Eaog.prog w = .ok (.string ⟨#[99, 111, 112, 121]⟩) w := by
  obtain ⟨b, cap, h1, h2⟩ := h
  exact ⟨b, cap, h1, conv_string (cap := cap) h2 0⟩

/-- The copy behind k additions: the extra names lead to modules with the source "copy"; all other names as before. -/
structure Added (w : World) (ex : List ByteArray) (k : Nat) (f fc : ByteArray → Option Nat) : Prop where
  yes : ∀ s, s ∈ ex.take k → ∃ g, fc s = some g ∧ IsSrc w g copyB
  no : ∀ s, s ∉ ex.take k → fc s = f s

theorem Added.start (w : World) (ex : List ByteArray) (f : ByteArray → Option Nat) : Added w ex 0 f f := ⟨fun s hs => by simp at hs, fun _ _ => rfl⟩

theorem Added.step {w w3 : World} {ex : List ByteArray} {k : Nat} {f fc : ByteArray → Option Nat} {x : ByteArray} {g : Nat} (h : Added w ex k f fc) (hc : Cells w w3) (hx : ex[k]? = some x) (hg : IsSrc w3 g copyB) : Added w3 ex (k + 1) f (upd fc x (some g)) := by
  have e : ex.take (k + 1) = ex.take k ++ [x] := by rw [List.take_add_one, hx]; rfl
  refine ⟨fun s hs => ?_, fun s hs => ?_⟩
  · by_cases hxs : s = x
    · subst hxs
      rw [upd_same]
      exact ⟨g, rfl, hg⟩
    · rw [e, List.mem_append, List.mem_singleton] at hs
      obtain ⟨g', h1, h2⟩ := h.yes s (hs.resolve_right hxs)
      rw [upd_other _ _ hxs]
      exact ⟨g', h1, h2.carry hc⟩
  · rw [e, List.mem_append, List.mem_singleton, not_or] at hs
    rw [upd_other _ _ hs.2, h.no s hs.1]

/-- One addition. -/
theorem copy_step {wr w3 : World} {p b n k : Nat} {ex : List ByteArray} {f fc : ByteArray → Option Nat} {x : ByteArray} (hmm : IsMM wr p b n fc) (ha : Added wr ex k f fc) (hx : ex[k]? = some x)
    (hc3 : w3.cell? ⟨(wr.alloc copyO).heap.size, 0, none⟩ = some (.slice (some ⟨wr.heap.size, 0, none⟩) 4 4)) (hg3 : (wr.alloc copyO).grownBy w3 (some b)) :
    Added w3 ex (k + 1) f (upd fc x (some (wr.alloc copyO).heap.size)) ∧ wr.grownBy w3 (some b) := by
  have hmW := hmm.alloc copyO
  have hcW : Cells (wr.alloc copyO) w3 := Cells.grownMap hg3 hmW.bmap
  exact ⟨ha.step ((Cells.grown (World.grownBy_alloc wr _ none)).trans hcW) hx (src_new (s := copyB) (copy_cells wr) hcW hc3), (World.grownBy_alloc wr _ _).trans hg3⟩

/-- Behind k removals. -/
structure Removed (names : List ByteArray) (k : Nat) (f fc : ByteArray → Option Nat) : Prop where
  yes : ∀ s, s ∈ names.take k → fc s = none
  no : ∀ s, s ∉ names.take k → fc s = f s

theorem Removed.start (names : List ByteArray) (f : ByteArray → Option Nat) : Removed names 0 f f := ⟨fun s hs => by simp at hs, fun _ _ => rfl⟩
theorem Removed.step {names : List ByteArray} {k : Nat} {f fc : ByteArray → Option Nat} {x : ByteArray} (h : Removed names k f fc) (hx : names[k]? = some x) : Removed names (k + 1) f (upd fc x none) := by
  have e : names.take (k + 1) = names.take k ++ [x] := by rw [List.take_add_one, hx]; rfl
  refine ⟨fun s hs => ?_, fun s hs => ?_⟩
  · by_cases hxs : s = x
    · rw [hxs, upd_same]
    · rw [e, List.mem_append, List.mem_singleton] at hs
      rw [upd_other _ _ hxs, h.yes s (hs.resolve_right hxs)]
  · rw [e, List.mem_append, List.mem_singleton, not_or] at hs
    rw [upd_other _ _ hs.2, h.no s hs.1]

/-- The copy in the end: just the extra names that are none of the names, each with the source "copy". -/
structure CopyIs (w : World) (names ex : List ByteArray) (fc : ByteArray → Option Nat) : Prop where
  yes : ∀ s, s ∈ ex → s ∉ names → ∃ g, fc s = some g ∧ IsSrc w g copyB
  no : ∀ s, s ∉ ex ∨ s ∈ names → fc s = none

theorem CopyIs.mk' {w w' w0 : World} {B : Nat} {names srcs ex : List ByteArray} {f f5 fc : ByteArray → Option Nat} (hb : Built w0 B names srcs f) (ha : Added w ex ex.length f f5) (hr : Removed names names.length f5 fc) (hc : Cells w w') : CopyIs w' names ex fc := by
  have e1 : ex.take ex.length = ex := List.take_of_length_le (Nat.le_refl _)
  have e2 : names.take names.length = names := List.take_of_length_le (Nat.le_refl _)
  obtain ⟨a1, a2⟩ := ha
  obtain ⟨r1, r2⟩ := hr
  rw [e1] at a1 a2
  rw [e2] at r1 r2
  refine ⟨fun s hs hn => ?_, fun s hs => ?_⟩
  · obtain ⟨g, h1, h2⟩ := a1 s hs
    exact ⟨g, (r2 s hn).trans h1, h2.carry hc⟩
  · cases hh : hasB names s
    · have hn := hasB_false.1 hh
      rw [r2 s hn, a2 s (hs.resolve_right hn), hb.no s hn]
    · exact r1 s (hasB_iff.1 hh)

theorem CopyIs.carry {w w' : World} {names ex : List ByteArray} {fc : ByteArray → Option Nat} (h : CopyIs w names ex fc) (hc : Cells w w') : CopyIs w' names ex fc :=
  ⟨fun s hs hn => by obtain ⟨g, h1, h2⟩ := h.yes s hs hn; exact ⟨g, h1, h2.carry hc⟩, h.no⟩

theorem CopyIs.isSome {w : World} {names ex : List ByteArray} {fc : ByteArray → Option Nat} (h : CopyIs w names ex fc) (s : ByteArray) : s ∈ lasts (notIn names) ex ↔ (fc s).isSome = true := by
  rw [mem_lasts, notIn_iff]
  constructor
  · rintro ⟨h1, h2⟩
    obtain ⟨g, hg, _⟩ := h.yes s h1 h2
    rw [hg]; rfl
  · intro hs
    cases h1 : hasB ex s
    · rw [h.no s (Or.inl (hasB_false.1 h1))] at hs
      cases hs
    · cases h2 : hasB names s
      · exact ⟨hasB_iff.1 h1, hasB_false.1 h2⟩
      · rw [h.no s (Or.inr (hasB_iff.1 h2))] at hs
        cases hs

/-- What the law counts as 'want'. -/
def wantN (names ex : List ByteArray) : Nat := cntF (isLast ex (notIn names)) ex.length
theorem wantN_eq (names ex : List ByteArray) : wantN names ex = (lasts (notIn names) ex).length := cnt_lasts _ _

theorem len_copy {w w0 : World} {p b n : Nat} {names ex : List ByteArray} {fc : ByteArray → Option Nat} (h : IsMM w p b n fc) (hc : CopyIs w0 names ex fc) :
    Calls Eaog.prog 13 #[.pointer (some ⟨p, 0, none⟩)] w fun e w' => e = .returned (.int .i64 (wantN names ex : Nat)) ∧ w' = w := by
  rw [wantN_eq]
  exact len_any _ h (nodup_lasts _ _) hc.isSome

/-- All names removed: nothing is left. -/
theorem len_emptied {w w0 : World} {p b n B : Nat} {names srcs : List ByteArray} {f fm : ByteArray → Option Nat} (h : IsMM w p b n fm) (hb : Built w0 B names srcs f) (hr : Removed names names.length f fm) :
    Calls Eaog.prog 13 #[.pointer (some ⟨p, 0, none⟩)] w fun e w' => e = .returned (.int .i64 0) ∧ w' = w := by
  refine len_any [] h (by simp) (fun s => ?_)
  have e2 : names.take names.length = names := List.take_of_length_le (Nat.le_refl _)
  obtain ⟨r1, r2⟩ := hr
  rw [e2] at r1 r2
  have : fm s = none := by
    cases hh : hasB names s
    · have hn := hasB_false.1 hh
      rw [r2 s hn, hb.no s hn]
    · exact r1 s (hasB_iff.1 hh)
  rw [this]
  simp

theorem Snapped.skip {L : List Value} {lo k : Nat} {names : List ByteArray} {F : ByteArray → Option Nat} {x : ByteArray} (h : Snapped L lo k names F) (hx : names[k]? = some x) (hF : F x = none) : Snapped L lo (k + 1) names F := by
  intro j y g' hj hy hg'
  by_cases e : j = k
  · subst e
    rw [hx] at hy
    obtain rfl := Option.some.inj hy
    rw [hF] at hg'
    cases hg'
  · exact h j y g' (by omega) hy hg'

/-- A name whose last place is not -1 is there. -/
theorem mem_of_last {l : List ByteArray} {s : ByteArray} (h : ¬ lastIx l s < 0) : s ∈ l := by
  cases hb : hasB l s
  · exact absurd (lastIx_neg.2 (hasB_false.1 hb)) h
  · exact hasB_iff.1 hb

end Go.Proofs.Yoeaow
