/-
  Seat oeao: THE WALK OF FnAddMapIsIdempotentAndFillsEmptyAsCopy.
-/
import Derived.Test.YoeaowOver
import Derived.Test.YoeaowSnap
import Derived.Test.YoeaowSize30
namespace Go.Proofs.Yoeaow
open Go.RowKit
open Go.Proofs.Yoeaow.Pl

set_option maxHeartbeats 2000000 in
set_option maxRecDepth 100000 in
theorem walk8 (a0 : Option Addr) (n0 cap0 b0 off0 : Nat) (s0 : List ByteArray) (a1 : Option Addr) (n1 cap1 b1 off1 : Nat) (s1 : List ByteArray) (a2 : Option Addr) (n2 cap2 b2 off2 : Nat) (s2 : List ByteArray) (a3 : Option Addr) (n3 cap3 b3 off3 : Nat) (s3 : List ByteArray) (w : World) (h0 : StrsAt w a0 n0 b0 off0 s0) (h1 : StrsAt w a1 n1 b1 off1 s1) (h2 : StrsAt w a2 n2 b2 off2 s2) (h3 : StrsAt w a3 n3 b3 off3 s3) (l0 : n0 ≤ 9223372036854775807) (l1 : n1 ≤ 9223372036854775807) (l2 : n2 ≤ 9223372036854775807) (l3 : n3 ≤ 9223372036854775807) :
    Calls Eaog.prog 8 #[.slice a0 n0 cap0, .slice a1 n1 cap1, .slice a2 n2 cap2, .slice a3 n3 cap3] w fun e w' => e = .returned (.bool true) ∧ Below w.heap.size w w' := by
  go_enter Eaog.func8, Eaog.ntmps8
  go_wp2_with fail
  refine (sizes30 _ _ _ _ _ _ _ _ _ _ _ _ _ _ _ _ _ _ _ _ _ _ _ _ _ h0 h1 h2 h3 l0 l1 l2 l3).mono ?_
  rintro e w' ⟨r, rfl, hw, hb⟩
  obtain rfl := hw.symm
  cases r
  · go_wp2
    go_ret
    exact ⟨rfl, Below.refl _ _⟩
  have hb' := hb rfl
  clear hb
  by_cases c0 : 4096 < n0
  · have d0 : decide ((4096 : Int) < (n0 : Int)) = true := decide_eq_true (by omega)
    go_wp2
    go_ret
    exact ⟨rfl, Below.refl _ _⟩
  have d0 : decide ((4096 : Int) < (n0 : Int)) = false := decide_eq_false (by omega)
  by_cases c1 : 4096 < n1
  · have d1 : decide ((4096 : Int) < (n1 : Int)) = true := decide_eq_true (by omega)
    go_wp2
    go_ret
    exact ⟨rfl, Below.refl _ _⟩
  have d1 : decide ((4096 : Int) < (n1 : Int)) = false := decide_eq_false (by omega)
  by_cases c2 : 4096 < n2
  · have d2 : decide ((4096 : Int) < (n2 : Int)) = true := decide_eq_true (by omega)
    go_wp2
    go_ret
    exact ⟨rfl, Below.refl _ _⟩
  have d2 : decide ((4096 : Int) < (n2 : Int)) = false := decide_eq_false (by omega)
  by_cases c3 : 4096 < n3
  · have d3 : decide ((4096 : Int) < (n3 : Int)) = true := decide_eq_true (by omega)
    go_wp2
    go_ret
    exact ⟨rfl, Below.refl _ _⟩
  have d3 : decide ((4096 : Int) < (n3 : Int)) = false := decide_eq_false (by omega)
  go_wp2_with fail
  refine (bytes_any _ _ _ _ _ _ _ h0 (by omega)).mono ?_
  rintro e w' ⟨rfl, hw⟩
  obtain rfl := hw.symm
  go_wp2_with fail
  refine (bytes_any _ _ _ _ _ _ _ h1 (by omega)).mono ?_
  rintro e w' ⟨rfl, hw⟩
  obtain rfl := hw.symm
  go_wp2_with fail
  refine (bytes_any _ _ _ _ _ _ _ h2 (by omega)).mono ?_
  rintro e w' ⟨rfl, hw⟩
  obtain rfl := hw.symm
  go_wp2_with fail
  refine (bytes_any _ _ _ _ _ _ _ h3 (by omega)).mono ?_
  rintro e w' ⟨rfl, hw⟩
  obtain rfl := hw.symm
  by_cases ct : 1048576 < (16 * n0 + total s0) + (16 * n1 + total s1) + (16 * n2 + total s2) + (16 * n3 + total s3)
  · go_wp2
    go_ret
    exact ⟨rfl, Below.refl _ _⟩
  have hsz0 : ∀ s ∈ s0, s.size ≤ maxLen := fun s hs => by have := size_le_total hs; unfold maxLen; omega
  have hsz2 : ∀ s ∈ s2, s.size ≤ maxLen := fun s hs => by have := size_le_total hs; unfold maxLen; omega
  go_wp2_with fail
  refine (build_any _ _ _ _ _ _ _ _ _ _ _ _ _ h0 h1 (by omega) (by omega) hsz0).mono ?_
  rintro e w1 ⟨rfl, f, hmm1, hbt1, hg1⟩
  have hcw1 := Cells.grown hg1
  go_wp2_with fail
  refine (build_any _ _ _ _ _ _ _ _ _ _ _ _ _ (h2.cells hcw1) (h3.cells hcw1) (by omega) (by omega) hsz2).mono ?_
  rintro e w2 ⟨rfl, fo, hoo2, hbo2, hg2⟩
  have hmm2 : IsMM w2 (w.heap.size + 1) w.heap.size n0 f := hmm1.kept hg2 (by simp) (by simp)
  have hne : w1.heap.size ≠ w.heap.size := by have := hmm1.blt; omega
  have hne2 : w1.heap.size + 1 ≠ w.heap.size := by have := hmm1.blt; omega
  go_wp2_with fail
  refine (addMap_any hmm2 hoo2 hne (by unfold maxLen; omega)).mono ?_
  rintro e w3 ⟨rfl, hmm3, hg3⟩
  have hoo3 : IsMM w3 (w1.heap.size + 1) w1.heap.size n2 fo := hoo2.kept hg3 (by simpa using hne2) (by simpa using hne)
  have hc3 : Cells w2 w3 := Cells.grownMap hg3 hmm2.bmap
  have hcw := (hcw1.trans (Cells.grown hg2)).trans hc3
  have hgg : w.grownBy w3 none := (hg1.trans hg2).andThen hg3 (fun j hj => by cases hj; exact Or.inl (Nat.le_refl _))
  have HU : Hid (∀ s, s ∈ lasts Pl.yes s0 ++ lasts (notIn s0) s2 ↔ (over fo f s).isSome = true) := over_in hbt1 hbo2
  have HG : Hid (∀ s, s ∈ s0 ∨ s ∈ s2 → ∃ g, over fo f s = some g) := fun s hs => over_some hbt1 hbo2 hs
  have hbo : Built w2 w1.heap.size s2 s3 fo := hbo2
  have HO : Hid (over fo (over fo f) = over fo f) := over_over fo f
  have hmlt := hmm1.blt
  have hzz := hg1.size
  clear hmm1 hbt1 hg1 hcw1 hoo2 hbo2 hg2 hmm2 hg3 hc3
  obtain ⟨F, hF⟩ : ∃ F, F = over fo f := ⟨_, rfl⟩
  rw [← hF] at hmm3 HU HG HO
  have HF : Hid (F = over fo f) := hF
  clear hF
  go_wp2_with fail
  refine (len_any (lasts Pl.yes s0 ++ lasts (notIn s0) s2) hmm3 (nodup_union _ _) HU.out).mono ?_
  rintro e w' ⟨rfl, hw⟩
  obtain rfl := hw.symm
  rw [← unionN_eq]
  go_wp2_with (first
    | (at_make; refine wpList_make_snap _ rfl _ _ rfl _ _ (n0 + n2) rfl rfl (by omega) (by omega) (by omega) ?_; intro L0 w4 hL0 hS0 hg4))
  have HB : Hid (Built w2 w1.heap.size s2 s3 fo) := hbo
  clear hbo hb' ct c1 c3 hw
  go_loopw [13] (fun i wr => ∃ (k : Nat) (L : List Value), k ≤ n0 ∧ i = .int .i64 k ∧ w3.grownBy wr none ∧ SnapAt wr w3.heap.size L ∧ Hid (L.length = n0 + n2) ∧ Snapped L 0 k s0 F) (fun i _ => n0 - (intOf i).toNat)
  case atStart => exact ⟨0, L0, Nat.zero_le _, rfl, hg4, hS0, hL0, Snapped.start _ _ _ _⟩
  case round =>
    obtain ⟨k, L, hk, rfl, hgw, hS, hL, hsn⟩ := hrel
    have hcr := hcw.trans (Cells.grown hgw)
    have h0r : StrsAt wr a0 n0 b0 off0 s0 := h0.cells hcr
    have hmr : IsMM wr (w.heap.size + 1) w.heap.size (n0 + n2) F := hmm3.kept hgw (by simp) (by simp)
    by_cases hlt : k < n0
    · obtain ⟨x, hx⟩ := h0r.get hlt
      have hi := h0r.idx cap0 hlt
      have hc := h0r.cell k x hx
      have hxm := List.mem_of_getElem? hx
      have hxs := hsz0 x hxm
      obtain ⟨g, hfx⟩ := HG.out x (Or.inl hxm)
      have HX : Hid (F x = some g) := hfx
      have hi43 := idx43 w3.heap.size (n0 + n2) k (k : Int) rfl (by omega)
      obtain ⟨v0, hv0⟩ : ∃ v, L[k]? = some v := ⟨L[k]'(by rw [hL.out]; omega), List.getElem?_eq_getElem _⟩
      have hcS := (hS.cell k).trans hv0
      have hfS := hS.frozen k
      have R1 := hgw.andThen (grownBy_setCell (w := wr) ⟨w3.heap.size, k, none⟩ (.pointer (some ⟨g, 0, none⟩))) (fun j hj => by cases hj; exact Or.inl (Nat.le_refl _))
      have R2 := hS.set k (.pointer (some ⟨g, 0, none⟩))
      have R3 : Hid (Snapped (L.set k (.pointer (some ⟨g, 0, none⟩))) 0 (k + 1) s0 F) := by
        have := hsn.step hx hfx (by rw [hL.out]; omega)
        rwa [Nat.zero_add] at this
      clear hfx hx hv0 hsz0 hsz2
      go_wp2_with fail
      refine (get_hit hmr hxs HX.out).mono ?_
      rintro e w' ⟨rfl, hw⟩
      obtain rfl := hw.symm
      go_wp2
      go_roundw
      case rel => exact ⟨k + 1, _, by omega, by go_num, R1, R2, by unfold Hid; rw [List.length_set]; exact hL.out, R3.out⟩
      case measure => simp [intOf]; omega
    · clear h0r hmr
      have HK : Hid (Snapped L 0 n0 s0 F) := by obtain rfl : k = n0 := by omega
                                                exact hsn
      clear hsn
      obtain ⟨w5, hw5⟩ : ∃ w5 : World, w5 = wr := ⟨_, rfl⟩
      obtain rfl := hw5
      go_wp2
      go_loopw [14] (fun i wr => ∃ (k : Nat) (L : List Value), k ≤ n2 ∧ i = .int .i64 k ∧ w3.grownBy wr none ∧ SnapAt wr w3.heap.size L ∧ Hid (L.length = n0 + n2) ∧ Snapped L 0 n0 s0 F ∧ Snapped L n0 k s2 F) (fun i _ => n2 - (intOf i).toNat)
      case atStart => exact ⟨0, L, Nat.zero_le _, rfl, hgw, hS, hL, HK.out, Snapped.start _ _ _ _⟩
      case round =>
        clear hS hL HK hgw
        obtain ⟨k2, L, hk2, rfl, hgw, hS, hL, hsn1, hsn2⟩ := hrel
        have hcr := hcw.trans (Cells.grown hgw)
        have h2r : StrsAt wr a2 n2 b2 off2 s2 := h2.cells hcr
        have hmr : IsMM wr (w.heap.size + 1) w.heap.size (n0 + n2) F := hmm3.kept hgw (by simp) (by simp)
        by_cases hlt2 : k2 < n2
        · obtain ⟨x, hx⟩ := h2r.get hlt2
          have hi := h2r.idx cap2 hlt2
          have hc := h2r.cell k2 x hx
          have hxm := List.mem_of_getElem? hx
          have hxs := hsz2 x hxm
          obtain ⟨g, hfx⟩ := HG.out x (Or.inr hxm)
          have HX : Hid (F x = some g) := hfx
          have hi43 := idx43 w3.heap.size (n0 + n2) (n0 + k2) ((n0 : Int) + (k2 : Int)) (by omega) (by omega)
          obtain ⟨v0, hv0⟩ : ∃ v, L[n0 + k2]? = some v := ⟨L[n0 + k2]'(by rw [hL.out]; omega), List.getElem?_eq_getElem _⟩
          have hcS := (hS.cell (n0 + k2)).trans hv0
          have hfS := hS.frozen (n0 + k2)
          have R1 := hgw.andThen (grownBy_setCell (w := wr) ⟨w3.heap.size, n0 + k2, none⟩ (.pointer (some ⟨g, 0, none⟩))) (fun j hj => by cases hj; exact Or.inl (Nat.le_refl _))
          have R2 := hS.set (n0 + k2) (.pointer (some ⟨g, 0, none⟩))
          have R3 : Hid (Snapped (L.set (n0 + k2) (.pointer (some ⟨g, 0, none⟩))) n0 (k2 + 1) s2 F) := hsn2.step hx hfx (by rw [hL.out]; omega)
          have R4 : Hid (Snapped (L.set (n0 + k2) (.pointer (some ⟨g, 0, none⟩))) 0 n0 s0 F) := hsn1.apart (Or.inr (by omega))
          clear hfx hx hv0 hsz0 hsz2
          go_wp2_with fail
          refine (get_hit hmr hxs HX.out).mono ?_
          rintro e w' ⟨rfl, hw⟩
          obtain rfl := hw.symm
          go_wp2
          go_roundw
          case rel => exact ⟨k2 + 1, _, by omega, by go_num, R1, R2, by unfold Hid; rw [List.length_set]; exact hL.out, R4.out, R3.out⟩
          case measure => simp [intOf]; omega
        · clear h2r hmr
          have HK2 : Hid (Snapped L n0 n2 s2 F) := by obtain rfl : k2 = n2 := by omega
                                                      exact hsn2
          have HK1 : Hid (Snapped L 0 n0 s0 F) := hsn1
          clear hsn1 hsn2
          obtain ⟨w6, hw6⟩ : ∃ w6 : World, w6 = wr := ⟨_, rfl⟩
          obtain rfl := hw6
          have hm6 : IsMM w6 (w.heap.size + 1) w.heap.size (n0 + n2) F := hmm3.kept hgw (by simp) (by simp)
          have ho6 : IsMM w6 (w1.heap.size + 1) w1.heap.size n2 fo := hoo3.kept hgw (by simp) (by simp)
          have hSm : w3.heap.size ≠ w.heap.size := by have := hmm3.blt; omega
          go_wp2_with fail
          refine (addMap_any hm6 ho6 hne (by unfold maxLen; omega)).mono ?_
          rintro e w7 ⟨rfl, hm7, hg7⟩
          rw [HO.out] at hm7
          have ho7 : IsMM w7 (w1.heap.size + 1) w1.heap.size n2 fo := ho6.kept hg7 (by simpa using hne2) (by simpa using hne)
          have hS7 : SnapAt w7 w3.heap.size L := hS.kept hg7 (by simpa using hSm)
          have hgg7 : w.grownBy w7 none := (hgg.trans hgw).andThen hg7 (fun j hj => by cases hj; exact Or.inl (Nat.le_refl _))
          clear hm6 ho6 hg7 hS hgw hmm3 hoo3 hcw hgg hS0 hg4 hL0
          go_wp2_with fail
          refine (new_any _).mono ?_
          rintro e w8 ⟨rfl, hn8, hg8, hz8⟩
          have hm8 := hm7.kept hg8 (by simp) (by simp)
          have ho8 := ho7.kept hg8 (by simp) (by simp)
          have hS8 := hS7.kept hg8 (by simp)
          have hgg8 := hgg7.trans hg8
          have hb7 := hm7.blt
          have hb7o := ho7.plt
          have hS7l := hS7.lt
          go_wp2_with fail
          refine (addMap_any hm8 hn8 (by omega) (by unfold maxLen; omega)).mono ?_
          rintro e w9 ⟨rfl, hm9, hg9⟩
          rw [over_left] at hm9
          have ho9 : IsMM w9 (w1.heap.size + 1) w1.heap.size n2 fo := ho8.kept hg9 (by simpa using hne2) (by simpa using hne)
          have hS9 : SnapAt w9 w3.heap.size L := hS8.kept hg9 (by simpa using hSm)
          have hgg9 : w.grownBy w9 none := hgg8.andThen hg9 (fun j hj => by cases hj; exact Or.inl (Nat.le_refl _))
          clear hm7 ho7 hS7 hgg7 hn8 hg8 hz8 hm8 ho8 hS8 hgg8 hg9 hb7 hb7o hS7l
          go_wp2_with fail
          refine (len_any (lasts Pl.yes s0 ++ lasts (notIn s0) s2) hm9 (nodup_union _ _) HU.out).mono ?_
          rintro e w' ⟨rfl, hw⟩
          obtain rfl := hw.symm
          rw [← unionN_eq]
          go_wp2
          have hcw9 := Cells.grown hgg9
          clear HO HU HF
          clear hcr
          go_loopw [15] (fun i wr => ∃ k : Nat, k ≤ n0 ∧ i = .int .i64 k ∧ Calm w9 wr) (fun i _ => n0 - (intOf i).toNat)
          case atStart => exact ⟨0, Nat.zero_le _, rfl, Calm.refl _⟩
          case round =>
            obtain ⟨k3, hk3, rfl, hcm⟩ := hrel
            have hcr := hcw9.trans hcm.cells
            have h0r : StrsAt wr a0 n0 b0 off0 s0 := h0.cells hcr
            have hmr := hm9.calm hcm
            have hSr := hS9.calm hcm
            by_cases hlt3 : k3 < n0
            · obtain ⟨x, hx⟩ := h0r.get hlt3
              have hi := h0r.idx cap0 hlt3
              have hc := h0r.cell k3 x hx
              have hxm := List.mem_of_getElem? hx
              have hxs := hsz0 x hxm
              obtain ⟨g, hfx⟩ := HG.out x (Or.inl hxm)
              have HX : Hid (F x = some g) := hfx
              have hi43 := idx43 w3.heap.size (n0 + n2) k3 (k3 : Int) rfl (by omega)
              have hcS : wr.cell? ⟨w3.heap.size, k3, none⟩ = some (.pointer (some ⟨g, 0, none⟩)) := by
                have := HK1.out k3 x g hlt3 hx hfx
                rw [Nat.zero_add] at this
                exact (hSr.cell k3).trans this
              have hnq := neq_same29 g
              clear hfx hx hsz0 hsz2
              go_wp2_with fail
              go_quiet ((go_at_call 16; exact Calls.quiet_of_same (get_hit_drewN hmr hxs HX.out _)))
              go_wp2
              go_roundw
              case rel => exact ⟨k3 + 1, by omega, by go_num, hcm.drewN _⟩
              case measure => simp [intOf]; omega
            · clear h0r hmr hSr hcr
              obtain ⟨wa, hwa⟩ : ∃ wa : World, wa = wr := ⟨_, rfl⟩
              obtain rfl := hwa
              go_wp2
              go_loopw [16] (fun i wr => ∃ k : Nat, k ≤ n2 ∧ i = .int .i64 k ∧ Calm w9 wr) (fun i _ => n2 - (intOf i).toNat)
              case atStart => exact ⟨0, Nat.zero_le _, rfl, hcm⟩
              case round =>
                clear hcm
                obtain ⟨k4, hk4, rfl, hcm⟩ := hrel
                have hcr := hcw9.trans hcm.cells
                have h2r : StrsAt wr a2 n2 b2 off2 s2 := h2.cells hcr
                have hmr := hm9.calm hcm
                have hSr := hS9.calm hcm
                by_cases hlt4 : k4 < n2
                · obtain ⟨x, hx⟩ := h2r.get hlt4
                  have hi := h2r.idx cap2 hlt4
                  have hc := h2r.cell k4 x hx
                  have hxm := List.mem_of_getElem? hx
                  have hxs := hsz2 x hxm
                  obtain ⟨g, hfx⟩ := HG.out x (Or.inr hxm)
                  have HX : Hid (F x = some g) := hfx
                  have hi43 := idx43 w3.heap.size (n0 + n2) (n0 + k4) ((n0 : Int) + (k4 : Int)) (by omega) (by omega)
                  have hcS : wr.cell? ⟨w3.heap.size, n0 + k4, none⟩ = some (.pointer (some ⟨g, 0, none⟩)) := (hSr.cell (n0 + k4)).trans (HK2.out k4 x g hlt4 hx hfx)
                  have hnq := neq_same29 g
                  clear hfx hx hsz0 hsz2
                  go_wp2_with fail
                  go_quiet ((go_at_call 16; exact Calls.quiet_of_same (get_hit_drewN hmr hxs HX.out _)))
                  go_wp2
                  go_roundw
                  case rel => exact ⟨k4 + 1, by omega, by go_num, hcm.drewN _⟩
                  case measure => simp [intOf]; omega
                · clear h2r hmr hSr hcr
                  obtain ⟨wb, hwb⟩ : ∃ wb : World, wb = wr := ⟨_, rfl⟩
                  obtain rfl := hwb
                  have hob := ho9.calm hcm
                  have hggb : w.grownBy wb none := hgg9.trans hcm.grown
                  clear ho9 hm9 hS9 hgg9 hcw9 hcm HK1 HK2 HG
                  go_wp2_with fail
                  refine (new_any _).mono ?_
                  rintro e wc ⟨rfl, hec, hgc, hzc⟩
                  have hoc := hob.kept hgc (by simp) (by simp)
                  have hbo1 := hob.blt
                  have hpo1 := hob.plt
                  go_wp2_with fail
                  refine (addMap_any hec hoc (by omega) (by unfold maxLen; omega)).mono ?_
                  rintro e wd ⟨rfl, hed, hgd⟩
                  rw [over_empty] at hed
                  have hod : IsMM wd (w1.heap.size + 1) w1.heap.size n2 fo := hoc.kept hgd (by simpa using Nat.ne_of_lt hpo1) (by simpa using Nat.ne_of_lt hbo1)
                  have hwb := hggb.size
                  have hggd : w.grownBy wd none := (hggb.trans hgc).andThen hgd (fun j hj => by cases hj; exact Or.inl hwb)
                  clear hec hoc hgc hgd hob hggb
                  go_wp2_with fail
                  refine (copy_any hod (by unfold maxLen; omega)).mono ?_
                  rintro e we ⟨rfl, hce, hge⟩
                  have hee := hed.kept hge (by simp) (by simp)
                  have hoe := hod.kept hge (by simp) (by simp)
                  have hgge := hggd.trans hge
                  clear hed hod hge hggd
                  go_wp2_with fail
                  refine (len_built hee HB.out).mono ?_
                  rintro e w' ⟨rfl, hw⟩
                  obtain rfl := hw.symm
                  go_wp2_with fail
                  refine (len_built hce HB.out).mono ?_
                  rintro e w' ⟨rfl, hw⟩
                  obtain rfl := hw.symm
                  go_wp2_with fail
                  refine (len_built hee HB.out).mono ?_
                  rintro e w' ⟨rfl, hw⟩
                  obtain rfl := hw.symm
                  go_wp2_with fail
                  refine (len_built hoe HB.out).mono ?_
                  rintro e w' ⟨rfl, hw⟩
                  obtain rfl := hw.symm
                  go_wp2
                  have h2e : StrsAt we a2 n2 b2 off2 s2 := h2.cells (Cells.grown hgge)
                  go_loop [19] (fun i => ∃ k : Nat, k ≤ n2 ∧ i = .int .i64 k) (fun i => n2 - (intOf i).toNat)
                  case atStart => exact ⟨0, Nat.zero_le _, rfl⟩
                  case round =>
                    obtain ⟨k5, hk5, rfl⟩ := hrel
                    by_cases hlt5 : k5 < n2
                    · obtain ⟨x, hx⟩ := h2e.get hlt5
                      have hi := h2e.idx cap2 hlt5
                      have hc := h2e.cell k5 x hx
                      have hxm := List.mem_of_getElem? hx
                      have hxs := hsz2 x hxm
                      obtain ⟨g, hfx, _⟩ := HB.out.yes x hxm
                      have HX : Hid (fo x = some g) := hfx
                      have hnq := neq_same29 g we
                      clear hfx hx hsz0 hsz2
                      go_wp2_with fail
                      refine (get_hit hee hxs HX.out).mono ?_
                      rintro e w' ⟨rfl, hw⟩
                      obtain rfl := hw.symm
                      go_wp2_with fail
                      refine (get_hit hce hxs HX.out).mono ?_
                      rintro e w' ⟨rfl, hw⟩
                      obtain rfl := hw.symm
                      go_wp2
                      go_round
                      case rel => exact ⟨k5 + 1, by omega, by go_num⟩
                      case measure => simp [intOf]; omega
                    · go_wp2
                      go_ret
                      exact ⟨rfl, below_of_grown hgge⟩

end Go.Proofs.Yoeaow
