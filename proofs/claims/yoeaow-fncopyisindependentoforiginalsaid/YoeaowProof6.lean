/-
  Seat oeao: THE STATEMENT Rows.FnCopyIsIndependentOfOriginalSaid, PROVED out of its walk. The frame is the guide's own (howto/shells: a law over slices), turned to slices of strings.
-/
import Derived.Test.YoeaowRows
import Derived.Test.YoeaowRowKit
import Derived.Test.YoeaowLaw6
namespace Go.Proofs.Yoeaow
open Go.ChangeShapes Go.WideShapes Go.ChangeAt Go.RowKit
open Go.ChangeMaps (open_string shut_string)

set_option linter.unusedVariables false in
set_option maxRecDepth 100000 in
theorem lifted6 (os : Os) (started : os.Started) (H : Type) (enc : TypeId × Value → H) :
    ReturnsInHanded {} Eaog.checked os 6 .any (Rows.fnCopyIsIndependentOfOriginalSpec.pre6 enc Eaog.prog Eaog.f6 Rows.fnCopyIsIndependentOfOriginalRow.domain false) (Rows.fnCopyIsIndependentOfOriginalSpec.post enc Eaog.prog Eaog.f6 false true false false) := by
  refine returnsInHanded_of_change (C := Eaog.checked) ownKnobNone started (by kernel_rfl) Eaog.func6
    (ChangeSpec.witness6 (enc := enc) (C := Eaog.checked) false ⟨#[], #[.slice none 0 0, .slice none 0 0, .slice none 0 0], []⟩ 8 (by kernel_rfl) (by kernel_rfl) (by kernel_rfl) (by kernel_rfl)) ?_
  intro W base args ds gs before hval0 hW hcnd _
  have hval : ∀ (j : Nat) t v, Eaog.f6.params[j]? = some t → args[j]? = some v → Value.okWide Eaog.prog W .any base t v := hval0
  have hW' := hW
  obtain ⟨p, q, hA0, hV, rfl, hfz, hnd⟩ := hW
  have hA : DataW.TrodAll enc Eaog.prog W 0 (fun _ => true) true Eaog.f6.params.toList args.toList ds p := hA0
  rw [Eaog.params6] at hA hval
  obtain ⟨v0, vs0, d0, ds0, p0, q0, hargs, rfl, rfl, h0, r0⟩ := trodAll_cons hA
  obtain ⟨v1, vs1, d1, ds1, p1, q1, rfl, rfl, rfl, h1, r1⟩ := trodAll_cons r0
  obtain ⟨v2, vs2, d2, ds2, p2, q2, rfl, rfl, rfl, h2, r2⟩ := trodAll_cons r1
  obtain ⟨rfl, rfl, rfl⟩ := trodAll_nil r2
  obtain rfl : args = #[v0, v1, v2] := by cases args; simp_all
  obtain ⟨rfl, rfl⟩ := trodVars_none hV
  obtain ⟨a0, len0, cap0, rfl⟩ := okWide_slice Eaog.underlying22 (hval 0 22 v0 rfl rfl)
  have k0 := h0
  have lt0 : ∀ x ∈ p0, x.block < W.heap.size := by obtain ⟨m, hm⟩ := k0; exact DataW.trod_lt m _ _ _ hm
  obtain ⟨b0, off0, s0, w0, l0⟩ := open_strs h0
  obtain ⟨a1, len1, cap1, rfl⟩ := okWide_slice Eaog.underlying22 (hval 1 22 v1 rfl rfl)
  have k1 := h1
  have lt1 : ∀ x ∈ p1, x.block < W.heap.size := by obtain ⟨m, hm⟩ := k1; exact DataW.trod_lt m _ _ _ hm
  obtain ⟨b1, off1, s1, w1, l1⟩ := open_strs h1
  obtain ⟨a2, len2, cap2, rfl⟩ := okWide_slice Eaog.underlying22 (hval 2 22 v2 rfl rfl)
  have k2 := h2
  have lt2 : ∀ x ∈ p2, x.block < W.heap.size := by obtain ⟨m, hm⟩ := k2; exact DataW.trod_lt m _ _ _ hm
  obtain ⟨b2, off2, s2, w2, l2⟩ := open_strs h2
  clear hA0 hval0
  refine (walk6 a0 len0 cap0 b0 off0 s0 a1 len1 cap1 b1 off1 s1 a2 len2 cap2 b2 off2 s2 W w0 w1 w2 l0 l1 l2).mono fun e W' ⟨he, bel⟩ => ?_
  subst he
  exact ⟨_, rfl, _, _, _, [], _, [], hW', trodAll_mk1 (shut_bool Eaog.underlying4 _), (trodAll_cons_mk (Below.trod laidOutYes (by kernel_rfl) (of_decide_eq_true (by kernel_rfl)) k0 bel lt0) (trodAll_cons_mk (Below.trod laidOutYes (by kernel_rfl) (of_decide_eq_true (by kernel_rfl)) k1 bel lt1) (trodAll_cons_mk (Below.trod laidOutYes (by kernel_rfl) (of_decide_eq_true (by kernel_rfl)) k2 bel lt2) trodAll_mk0))), rfl, bel.frame _, fun h => by cases h⟩

theorem over6 : Rows.fnCopyIsIndependentOfOriginalRow.holds Eaog.pinned (OpenSpec.ofChange Rows.fnCopyIsIndependentOfOriginalSpec) :=
  OpenClaim.holds_of_wide 6 Eaog.f6 rfl rfl rfl rfl rfl rfl rfl ⟨rfl, rfl, rfl, rfl, rfl⟩ rfl rfl rfl rfl rfl (by kernel_rfl) Eaog.func6 (by kernel_rfl)
    (of_decide_eq_true (by kernel_rfl)) (by unfold Func.isWrapper; first | (rw [if_pos (by decide +kernel)]; kernel_rfl) | (rw [if_neg (by decide +kernel)]; exact ⟨rfl, rfl⟩))
    (fun os started H enc _ => lifted6 os started H enc)

/-- THE STATEMENT -/
theorem proved6 : Rows.FnCopyIsIndependentOfOriginalSaid := over6

end Go.Proofs.Yoeaow
