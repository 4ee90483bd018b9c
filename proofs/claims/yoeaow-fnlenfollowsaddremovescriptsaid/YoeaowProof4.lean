/-
  Seat oeao: THE STATEMENT Rows.FnLenFollowsAddRemoveScriptSaid, PROVED out of its walk. The frame is the guide's own (howto/shells: a law over slices), turned to slices of strings.
-/
import Derived.Test.YoeaowRows
import Derived.Test.YoeaowRowKitB
import Derived.Test.YoeaowLaw4
namespace Go.Proofs.Yoeaow
open Go.ChangeShapes Go.WideShapes Go.ChangeAt Go.RowKit
open Go.ChangeMaps (open_string shut_string)

set_option linter.unusedVariables false in
set_option maxRecDepth 100000 in
theorem lifted4 (os : Os) (started : os.Started) (H : Type) (enc : TypeId × Value → H) :
    ReturnsInHanded {} Eaog.checked os 4 .any (Rows.fnLenFollowsAddRemoveScriptSpec.pre6 enc Eaog.prog Eaog.f4 Rows.fnLenFollowsAddRemoveScriptRow.domain false) (Rows.fnLenFollowsAddRemoveScriptSpec.post enc Eaog.prog Eaog.f4 false true false false) := by
  refine returnsInHanded_of_change (C := Eaog.checked) ownKnobNone started (by kernel_rfl) Eaog.func4
    (ChangeSpec.witness6 (enc := enc) (C := Eaog.checked) false ⟨#[], #[.slice none 0 0, .slice none 0 0], []⟩ 8 (by kernel_rfl) (by kernel_rfl) (by kernel_rfl) (by kernel_rfl)) ?_
  intro W base args ds gs before hval0 hW hcnd _
  have hval : ∀ (j : Nat) t v, Eaog.f4.params[j]? = some t → args[j]? = some v → Value.okWide Eaog.prog W .any base t v := hval0
  have hW' := hW
  obtain ⟨p, q, hA0, hV, rfl, hfz, hnd⟩ := hW
  have hA : DataW.TrodAll enc Eaog.prog W 0 (fun _ => true) true Eaog.f4.params.toList args.toList ds p := hA0
  rw [Eaog.params4] at hA hval
  obtain ⟨v0, vs0, d0, ds0, p0, q0, hargs, rfl, rfl, h0, r0⟩ := trodAll_cons hA
  obtain ⟨v1, vs1, d1, ds1, p1, q1, rfl, rfl, rfl, h1, r1⟩ := trodAll_cons r0
  obtain ⟨rfl, rfl, rfl⟩ := trodAll_nil r1
  obtain rfl : args = #[v0, v1] := by cases args; simp_all
  obtain ⟨rfl, rfl⟩ := trodVars_none hV
  obtain ⟨a0, len0, cap0, rfl⟩ := okWide_slice Eaog.underlying22 (hval 0 22 v0 rfl rfl)
  have k0 := h0
  have lt0 : ∀ x ∈ p0, x.block < W.heap.size := by obtain ⟨m, hm⟩ := k0; exact DataW.trod_lt m _ _ _ hm
  obtain ⟨b0, off0, s0, w0, l0⟩ := open_strs h0
  obtain ⟨a1, len1, cap1, rfl⟩ := okWide_slice Eaog.underlying35 (hval 1 35 v1 rfl rfl)
  have k1 := h1
  have lt1 : ∀ x ∈ p1, x.block < W.heap.size := by obtain ⟨m, hm⟩ := k1; exact DataW.trod_lt m _ _ _ hm
  obtain ⟨b1, off1, s1, w1, l1⟩ := open_bools h1
  clear hA0 hval0
  refine (walk4 a0 len0 cap0 b0 off0 s0 a1 len1 cap1 b1 off1 s1 W w0 w1 l0 l1).mono fun e W' ⟨he, bel⟩ => ?_
  subst he
  exact ⟨_, rfl, _, _, _, [], _, [], hW', trodAll_mk1 (shut_bool Eaog.underlying4 _), (trodAll_cons_mk (Below.trod laidOutYes (by kernel_rfl) (of_decide_eq_true (by kernel_rfl)) k0 bel lt0) (trodAll_cons_mk (Below.trod laidOutYes (by kernel_rfl) (of_decide_eq_true (by kernel_rfl)) k1 bel lt1) trodAll_mk0)), rfl, bel.frame _, fun h => by cases h⟩

theorem over4 : Rows.fnLenFollowsAddRemoveScriptRow.holds Eaog.pinned (OpenSpec.ofChange Rows.fnLenFollowsAddRemoveScriptSpec) :=
  OpenClaim.holds_of_wide 4 Eaog.f4 rfl rfl rfl rfl rfl rfl rfl ⟨rfl, rfl, rfl, rfl, rfl⟩ rfl rfl rfl rfl rfl (by kernel_rfl) Eaog.func4 (by kernel_rfl)
    (of_decide_eq_true (by kernel_rfl)) (by unfold Func.isWrapper; first | (rw [if_pos (by decide +kernel)]; kernel_rfl) | (rw [if_neg (by decide +kernel)]; exact ⟨rfl, rfl⟩))
    (fun os started H enc _ => lifted4 os started H enc)

/-- THE STATEMENT -/
theorem proved4 : Rows.FnLenFollowsAddRemoveScriptSaid := over4

end Go.Proofs.Yoeaow
