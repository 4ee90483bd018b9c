/-
  Seat oeao: THE WALK OF FnAddMapIsRightBiasedUnion.
-/
import Derived.Test.YoeaowOver
import Derived.Test.YoeaowSize27
namespace Go.Proofs.Yoeaow
open Go.RowKit
open Go.Proofs.Yoeaow.Pl

set_option maxHeartbeats 1000000 in
theorem walk7 (a0 : Option Addr) (n0 cap0 b0 off0 : Nat) (s0 : List ByteArray) (a1 : Option Addr) (n1 cap1 b1 off1 : Nat) (s1 : List ByteArray) (a2 : Option Addr) (n2 cap2 b2 off2 : Nat) (s2 : List ByteArray) (a3 : Option Addr) (n3 cap3 b3 off3 : Nat) (s3 : List ByteArray) (w : World) (h0 : StrsAt w a0 n0 b0 off0 s0) (h1 : StrsAt w a1 n1 b1 off1 s1) (h2 : StrsAt w a2 n2 b2 off2 s2) (h3 : StrsAt w a3 n3 b3 off3 s3) (l0 : n0 ≤ 9223372036854775807) (l1 : n1 ≤ 9223372036854775807) (l2 : n2 ≤ 9223372036854775807) (l3 : n3 ≤ 9223372036854775807) :
    Calls Eaog.prog 7 #[.slice a0 n0 cap0, .slice a1 n1 cap1, .slice a2 n2 cap2, .slice a3 n3 cap3] w fun e w' => e = .returned (.bool true) ∧ Below w.heap.size w w' := by
  go_enter Eaog.func7, Eaog.ntmps7
  go_wp2_with fail
  refine (sizes27 _ _ _ _ _ _ _ _ _ _ _ _ _ _ _ _ _ _ _ _ _ _ _ _ _ h0 h1 h2 h3 l0 l1 l2 l3).mono ?_
  rintro e w' ⟨r, rfl, hw, hb⟩
  obtain rfl := hw.symm
  cases r
  · go_wp2
    go_ret
    exact ⟨rfl, Below.refl _ _⟩
  have hb' := hb rfl
  clear hb
  by_cases c0 : 4096 < n0
  · have d0 : decide ((4096 : Int) < (n0 : Int)) = true := decide_eq_true (by omega)
    go_wp2
    go_ret
    exact ⟨rfl, Below.refl _ _⟩
  have d0 : decide ((4096 : Int) < (n0 : Int)) = false := decide_eq_false (by omega)
  by_cases c1 : 4096 < n1
  · have d1 : decide ((4096 : Int) < (n1 : Int)) = true := decide_eq_true (by omega)
    go_wp2
    go_ret
    exact ⟨rfl, Below.refl _ _⟩
  have d1 : decide ((4096 : Int) < (n1 : Int)) = false := decide_eq_false (by omega)
  by_cases c2 : 4096 < n2
  · have d2 : decide ((4096 : Int) < (n2 : Int)) = true := decide_eq_true (by omega)
    go_wp2
    go_ret
    exact ⟨rfl, Below.refl _ _⟩
  have d2 : decide ((4096 : Int) < (n2 : Int)) = false := decide_eq_false (by omega)
  by_cases c3 : 4096 < n3
  · have d3 : decide ((4096 : Int) < (n3 : Int)) = true := decide_eq_true (by omega)
    go_wp2
    go_ret
    exact ⟨rfl, Below.refl _ _⟩
  have d3 : decide ((4096 : Int) < (n3 : Int)) = false := decide_eq_false (by omega)
  go_wp2_with fail
  refine (bytes_any _ _ _ _ _ _ _ h0 (by omega)).mono ?_
  rintro e w' ⟨rfl, hw⟩
  obtain rfl := hw.symm
  go_wp2_with fail
  refine (bytes_any _ _ _ _ _ _ _ h1 (by omega)).mono ?_
  rintro e w' ⟨rfl, hw⟩
  obtain rfl := hw.symm
  go_wp2_with fail
  refine (bytes_any _ _ _ _ _ _ _ h2 (by omega)).mono ?_
  rintro e w' ⟨rfl, hw⟩
  obtain rfl := hw.symm
  go_wp2_with fail
  refine (bytes_any _ _ _ _ _ _ _ h3 (by omega)).mono ?_
  rintro e w' ⟨rfl, hw⟩
  obtain rfl := hw.symm
  by_cases ct : 1048576 < (16 * n0 + total s0) + (16 * n1 + total s1) + (16 * n2 + total s2) + (16 * n3 + total s3)
  · go_wp2
    go_ret
    exact ⟨rfl, Below.refl _ _⟩
  have hsz0 : ∀ s ∈ s0, s.size ≤ maxLen := fun s hs => by have := size_le_total hs; unfold maxLen; omega
  have hsz2 : ∀ s ∈ s2, s.size ≤ maxLen := fun s hs => by have := size_le_total hs; unfold maxLen; omega
  go_wp2_with fail
  refine (build_any _ _ _ _ _ _ _ _ _ _ _ _ _ h0 h1 (by omega) (by omega) hsz0).mono ?_
  rintro e w1 ⟨rfl, f, hmm1, hbt1, hg1⟩
  have hcw1 := Cells.grown hg1
  go_wp2_with fail
  refine (build_any _ _ _ _ _ _ _ _ _ _ _ _ _ (h2.cells hcw1) (h3.cells hcw1) (by omega) (by omega) hsz2).mono ?_
  rintro e w2 ⟨rfl, fo, hoo2, hbo2, hg2⟩
  have hmm2 : IsMM w2 (w.heap.size + 1) w.heap.size n0 f := hmm1.kept hg2 (by simp) (by simp)
  have hne : w1.heap.size ≠ w.heap.size := by have := hmm1.blt; omega
  have hne2 : w1.heap.size + 1 ≠ w.heap.size := by have := hmm1.blt; omega
  go_wp2_with fail
  refine (addMap_any hmm2 hoo2 hne (by unfold maxLen; omega)).mono ?_
  rintro e w3 ⟨rfl, hmm3, hg3⟩
  have hoo3 : IsMM w3 (w1.heap.size + 1) w1.heap.size n2 fo := hoo2.kept hg3 (by simpa using hne2) (by simpa using hne)
  have hc3 : Cells w2 w3 := Cells.grownMap hg3 hmm2.bmap
  have hbt3 := hbt1.carry ((Cells.grown hg2).trans hc3)
  have hbo3 := hbo2.carry hc3
  have hcw := (hcw1.trans (Cells.grown hg2)).trans hc3
  have hgg : w.grownBy w3 none := (hg1.trans hg2).andThen hg3 (fun j hj => by cases hj; exact Or.inl (Nat.le_refl _))
  have hun := over_in hbt1 hbo2
  have HU : Hid (∀ s, s ∈ lasts Pl.yes s0 ++ lasts (notIn s0) s2 ↔ (over fo f s).isSome = true) := hun
  clear hun hmm1 hbt1 hg1 hcw1 hoo2 hbo2 hg2 hmm2 hg3 hc3 hne hne2
  have h03 := h0.cells hcw
  have h23 := h2.cells hcw
  go_wp2_with fail
  refine (len_any (lasts Pl.yes s0 ++ lasts (notIn s0) s2) hmm3 (nodup_union _ _) HU.out).mono ?_
  rintro e w' ⟨rfl, hw⟩
  obtain rfl := hw.symm
  rw [← unionN_eq]
  go_wp2_with fail
  refine (union_any _ _ _ _ _ _ _ _ _ _ _ _ _ h03 h23 (by omega) (by omega)).mono ?_
  rintro e w' ⟨rfl, hw⟩
  obtain rfl := hw.symm
  go_wp2_with fail
  refine (len_built hoo3 hbo3).mono ?_
  rintro e w' ⟨rfl, hw⟩
  obtain rfl := hw.symm
  go_wp2_with fail
  refine (distinct_any _ _ _ _ _ _ _ h23 (by omega)).mono ?_
  rintro e w' ⟨rfl, hw⟩
  obtain rfl := hw.symm
  go_wp2
  clear h03 h23 HU hb' ct
  go_loopw [11] (fun i wr => ∃ k : Nat, k ≤ n0 ∧ i = .int .i64 k ∧ Calm w3 wr) (fun i _ => n0 - (intOf i).toNat)
  case atStart => exact ⟨0, Nat.zero_le _, rfl, Calm.refl _⟩
  case round =>
    obtain ⟨k, hk, rfl, hcm⟩ := hrel
    have hcr := hcw.trans hcm.cells
    have h0r : StrsAt wr a0 n0 b0 off0 s0 := h0.cells hcr
    have h1r : StrsAt wr a1 n1 b1 off1 s1 := h1.cells hcr
    have h2r : StrsAt wr a2 n2 b2 off2 s2 := h2.cells hcr
    have hmr := hmm3.calm hcm
    have hor := hoo3.calm hcm
    by_cases hlt : k < n0
    · obtain ⟨x, hx⟩ := h0r.get hlt
      have hi := h0r.idx cap0 hlt
      have hc := h0r.cell k x hx
      have hxm := List.mem_of_getElem? hx
      have hxs := hsz0 x hxm
      clear hx hsz0 hsz2
      by_cases hl : lastIx s2 x < 0
      · have hd : decide (0 ≤ lastIx s2 x) = false := decide_eq_false (by omega)
        obtain ⟨g, hfx, _, b, cap, hgc, hgs⟩ := (hbt3.carry hcm.cells).yes x hxm
        have HF : Hid (over fo f x = some g) := (over_miss (hbo3.no x (lastIx_neg.1 hl))).trans hfx
        have hcv := conv_string (cap := cap) hgs
        clear hgs hfx
        go_wp2_with fail
        refine (get_hit hmr hxs HF.out).mono ?_
        rintro e w' ⟨rfl, hw⟩
        obtain rfl := hw.symm
        go_wp2_with fail
        refine (last_any a2 n2 cap2 b2 off2 s2 x _ h2r (by omega)).mono ?_
        rintro e w' ⟨rfl, hw⟩
        obtain rfl := hw.symm
        go_wp2_with fail
        go_quiet ((first | (go_at_call 15; refine Calls.quiet_of_same (last_any a0 n0 cap0 b0 off0 s0 x _ ?_ (by omega)); exact h0r.cells (Cells.heap rfl)) | (go_at_call 17; refine Calls.quiet_of_same (srcAt_any a1 n1 cap1 b1 off1 s1 _ _ ?_ (by omega)); exact h1r.cells (Cells.heap rfl))))
        go_wp2
        go_roundw
        case rel => exact ⟨k + 1, by omega, by go_num, hcm.drewN _⟩
        case measure => simp [intOf]; omega
      · have hd : decide (0 ≤ lastIx s2 x) = true := decide_eq_true (by omega)
        have hin : x ∈ s2 := by
          cases hb : hasB s2 x
          · exact absurd (lastIx_neg.2 (hasB_false.1 hb)) hl
          · exact hasB_iff.1 hb
        obtain ⟨g, hfx, _⟩ := hbo3.yes x hin
        have HF : Hid (over fo f x = some g) := over_hit hfx
        have HO : Hid (fo x = some g) := hfx
        have hnq := neq_same29 g wr
        clear hfx
        go_wp2_with fail
        refine (get_hit hmr hxs HF.out).mono ?_
        rintro e w' ⟨rfl, hw⟩
        obtain rfl := hw.symm
        go_wp2_with fail
        refine (last_any a2 n2 cap2 b2 off2 s2 x _ h2r (by omega)).mono ?_
        rintro e w' ⟨rfl, hw⟩
        obtain rfl := hw.symm
        go_wp2_with fail
        refine (get_hit hor hxs HO.out).mono ?_
        rintro e w' ⟨rfl, hw⟩
        obtain rfl := hw.symm
        go_wp2
        go_roundw
        case rel => exact ⟨k + 1, by omega, by go_num, hcm⟩
        case measure => simp [intOf]; omega
    · clear h0r h1r h2r hmr hor
      obtain ⟨w4, hw4⟩ : ∃ w4 : World, w4 = wr := ⟨_, rfl⟩
      obtain rfl := hw4
      go_wp2
      go_loopw [14] (fun i wr => ∃ k : Nat, k ≤ n2 ∧ i = .int .i64 k ∧ Calm w3 wr) (fun i _ => n2 - (intOf i).toNat)
      case atStart => exact ⟨0, Nat.zero_le _, rfl, hcm⟩
      case round =>
        obtain ⟨k2, hk2, rfl, hcm2⟩ := hrel
        have hcr2 := hcw.trans hcm2.cells
        have h2r : StrsAt wr a2 n2 b2 off2 s2 := h2.cells hcr2
        have h3r : StrsAt wr a3 n3 b3 off3 s3 := h3.cells hcr2
        have hmr := hmm3.calm hcm2
        have hor := hoo3.calm hcm2
        by_cases hlt2 : k2 < n2
        · obtain ⟨x, hx⟩ := h2r.get hlt2
          have hi := h2r.idx cap2 hlt2
          have hc := h2r.cell k2 x hx
          have hxm := List.mem_of_getElem? hx
          have hxs := hsz2 x hxm
          obtain ⟨g, hfx, _, b, cap, hgc, hgs⟩ := (hbo3.carry hcm2.cells).yes x hxm
          have HF : Hid (over fo f x = some g) := over_hit hfx
          have HO : Hid (fo x = some g) := hfx
          have hcv := conv_string (cap := cap) hgs
          have hnq := neq_same29 g wr
          clear hgs hfx hx hsz0 hsz2
          go_wp2_with fail
          refine (get_hit hor hxs HO.out).mono ?_
          rintro e w' ⟨rfl, hw⟩
          obtain rfl := hw.symm
          go_wp2_with fail
          refine (get_hit hmr hxs HF.out).mono ?_
          rintro e w' ⟨rfl, hw⟩
          obtain rfl := hw.symm
          go_wp2_with fail
          go_quiet ((first | (go_at_call 15; refine Calls.quiet_of_same (last_any a2 n2 cap2 b2 off2 s2 x _ ?_ (by omega)); exact h2r.cells (Cells.heap rfl)) | (go_at_call 17; refine Calls.quiet_of_same (srcAt_any a3 n3 cap3 b3 off3 s3 _ _ ?_ (by omega)); exact h3r.cells (Cells.heap rfl))))
          go_wp2
          go_roundw
          case rel => exact ⟨k2 + 1, by omega, by go_num, hcm2.drewN _⟩
          case measure => simp [intOf]; omega
        · go_wp2
          go_ret
          exact ⟨rfl, below_calm hgg hcm2⟩

end Go.Proofs.Yoeaow
