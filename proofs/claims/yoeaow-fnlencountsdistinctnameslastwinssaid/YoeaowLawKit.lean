/-
  Seat oeao: WHAT THE LAWS' WALKS SHARE: worlds after draws; 'string(sm.Src)'; Len over the names that were added.
-/
import Derived.Test.YoeaowBuild
import Derived.BigQuiet
import Derived.LaidEqlPtr
namespace Go.Proofs.Yoeaow
open Go.RowKit
open Go.Proofs.Yoeaow.Pl

/-- THE SAME MEMORY, THE SAME STREAMS: at most draws lie between. -/
structure Calm (w w' : World) : Prop where
  heap : w'.heap = w.heap
  os : w'.os = w.os
  tape : w'.tape = w.tape
  output : w'.output = w.output
theorem Calm.refl (w : World) : Calm w w := ⟨rfl, rfl, rfl, rfl⟩
theorem Calm.trans {a b c : World} (h : Calm a b) (k : Calm b c) : Calm a c := ⟨k.heap.trans h.heap, k.os.trans h.os, k.tape.trans h.tape, k.output.trans h.output⟩
theorem Calm.drewN {w w' : World} (h : Calm w w') (q : Nat) : Calm w (w'.drewN q) := ⟨h.heap, h.os, h.tape, h.output⟩
theorem Calm.drew {w w' : World} (h : Calm w w') : Calm w w'.drew := ⟨h.heap, h.os, h.tape, h.output⟩
theorem Calm.cells {w w' : World} (h : Calm w w') : Cells w w' := Cells.heap h.heap
theorem Calm.grown {w w' : World} (h : Calm w w') : w.grownBy w' none := ⟨h.os, h.tape, h.output, by rw [h.heap]; exact Nat.le_refl _, fun i _ _ => by rw [h.heap]⟩
theorem IsMM.calm {w w' : World} {p b n : Nat} {f : ByteArray → Option Nat} (h : IsMM w p b n f) (hc : Calm w w') : IsMM w' p b n f := IsMM.heap (w := w) hc.heap h
theorem below_of_grown {w w' : World} (h : w.grownBy w' none) : Below w.heap.size w w' := (Below.refl _ _).grown h (Nat.le_refl _) (fun k hk => by cases hk)
theorem below_calm {w w' w'' : World} (h : w.grownBy w' none) (hc : Calm w' w'') : Below w.heap.size w w'' := below_of_grown (h.trans hc.grown)

theorem add_at0 (b j : Nat) : (⟨b, 0, none⟩ : Addr).add j = ⟨b, j, none⟩ := by unfold Addr.add; split <;> simp_all

/-- 'string(sm.Src)' -/
theorem conv_string {w : World} {h cap : Nat} {s : ByteArray} (hc : ∀ (j : Nat) (hj : j < s.data.size), w.cell? ⟨h, j, none⟩ = some (.int .u8 (s.data[j].toNat : Int))) (q : Nat) :
    (convert 31 9 (.slice (some ⟨h, 0, none⟩) s.size cap)).run Eaog.prog (w.drewN q) = .ok (.string s) (w.drewN q) := by
  have hl : s.size = s.data.toList.length := by rw [Array.length_toList]; rfl
  have h' := run_convert_bytes_back (P := Eaog.prog) (w.drewN q) 31 9 5 ⟨h, 0, none⟩ cap s.data.toList Eaog.underlying31 Eaog.underlying5 Eaog.underlying9 (fun j hj => by
    have := hc j (by simpa using hj)
    rw [add_at0]
    exact this)
  rw [hl]
  exact h'

theorem Built.isSome {w : World} {B : Nat} {names srcs : List ByteArray} {f : ByteArray → Option Nat} (h : Built w B names srcs f) (s : ByteArray) : s ∈ lasts Pl.yes names ↔ (f s).isSome = true := by
  rw [mem_lasts]
  constructor
  · rintro ⟨hs, _⟩
    obtain ⟨g, hg, _⟩ := h.yes s hs
    rw [hg]; rfl
  · intro hs
    refine ⟨?_, rfl⟩
    rcases Nat.eq_zero_or_pos (if hasB names s = true then 1 else 0) with e | e
    · have hn : s ∉ names := by
        intro hm
        rw [if_pos (hasB_iff.2 hm)] at e
        cases e
      rw [h.no s hn] at hs
      cases hs
    · cases hb : hasB names s
      · rw [hb] at e; simp at e
      · exact hasB_iff.1 hb

/-- Len of a map that zzBuild has made. -/
theorem len_built {w w0 : World} {p b n B : Nat} {names srcs : List ByteArray} {f : ByteArray → Option Nat} (h : IsMM w p b n f) (hb : Built w0 B names srcs f) :
    Calls Eaog.prog 13 #[.pointer (some ⟨p, 0, none⟩)] w fun e w' => e = .returned (.int .i64 (distinctN names : Nat)) ∧ w' = w := by
  rw [distinctN_eq]
  exact len_any _ h (nodup_lasts _ _) hb.isSome

/-! ### pointers compared -/
theorem neq_same29 (g : Nat) (w : World) : (binOp .neq 29 (.pointer (some ⟨g, 0, none⟩)) (.pointer (some ⟨g, 0, none⟩))).run Eaog.prog w = .ok (.bool false) w := by
  obtain ⟨j, hj⟩ : ∃ j, Eaog.prog.info? 33 = some j := Option.isSome_iff_exists.1 (by kernel_rfl)
  have h : ∀ d : Nat, (Op.equalIn (d + 1) 29 (.pointer (some ⟨g, 0, none⟩)) (.pointer (some ⟨g, 0, none⟩))).run Eaog.prog w = .ok true w := fun d => by
    simp [Op.equalIn, run_underlying Eaog.underlying29, sizeOf, typeInfo, hj, run_sameAddr_same]
  simp only [binOp]
  simp [Op.equal, Op.maxDepth, h 9999]

theorem size51 : (Eaog.prog.info? 51).map (·.size) = some 1 := by kernel_rfl

/-- Two ModuleMaps that lie apart are not one. -/
theorem eql_other25 {w : World} {p b n p' b' n' : Nat} {f f' : ByteArray → Option Nat} (h : IsMM w p b n f) (h' : IsMM w p' b' n' f') (hne : p ≠ p') :
    (binOp .eql 25 (.pointer (some ⟨p, 0, none⟩)) (.pointer (some ⟨p', 0, none⟩))).run Eaog.prog w = .ok (.bool false) w := by
  have hs := size51
  rw [Option.map_eq_some_iff] at hs
  obtain ⟨j, hj, hz⟩ := hs
  exact run_eql_ptr_other w Eaog.underlying25 hj (by rw [hz]; decide) (fun e => hne (congrArg Addr.block e)) h.blk h'.blk

end Go.Proofs.Yoeaow
