/-
  Seat oeao: THE WALK OF FnCopyIsIndependentOfOriginal.
-/
import Derived.Test.YoeaowCopyKit
import Derived.Test.YoeaowSize26
namespace Go.Proofs.Yoeaow
open Go.RowKit
open Go.Proofs.Yoeaow.Pl

set_option maxHeartbeats 4000000 in
set_option maxRecDepth 100000 in
theorem walk6 (a0 : Option Addr) (n0 cap0 b0 off0 : Nat) (s0 : List ByteArray) (a1 : Option Addr) (n1 cap1 b1 off1 : Nat) (s1 : List ByteArray) (a2 : Option Addr) (n2 cap2 b2 off2 : Nat) (s2 : List ByteArray) (w : World) (h0 : StrsAt w a0 n0 b0 off0 s0) (h1 : StrsAt w a1 n1 b1 off1 s1) (h2 : StrsAt w a2 n2 b2 off2 s2) (l0 : n0 ≤ 9223372036854775807) (l1 : n1 ≤ 9223372036854775807) (l2 : n2 ≤ 9223372036854775807) :
    Calls Eaog.prog 6 #[.slice a0 n0 cap0, .slice a1 n1 cap1, .slice a2 n2 cap2] w fun e w' => e = .returned (.bool true) ∧ Below w.heap.size w w' := by
  go_enter Eaog.func6, Eaog.ntmps6
  go_wp2_with fail
  refine (sizes26 _ _ _ _ _ _ _ _ _ _ _ _ _ _ _ _ _ _ _ h0 h1 h2 l0 l1 l2).mono ?_
  rintro e w' ⟨r, rfl, hw, hb⟩
  obtain rfl := hw.symm
  cases r
  · go_wp2
    go_ret
    exact ⟨rfl, Below.refl _ _⟩
  have hb' := hb rfl
  clear hb
  by_cases c0 : 4096 < n0
  · have d0 : decide ((4096 : Int) < (n0 : Int)) = true := decide_eq_true (by omega)
    go_wp2
    go_ret
    exact ⟨rfl, Below.refl _ _⟩
  have d0 : decide ((4096 : Int) < (n0 : Int)) = false := decide_eq_false (by omega)
  by_cases c1 : 4096 < n1
  · have d1 : decide ((4096 : Int) < (n1 : Int)) = true := decide_eq_true (by omega)
    go_wp2
    go_ret
    exact ⟨rfl, Below.refl _ _⟩
  have d1 : decide ((4096 : Int) < (n1 : Int)) = false := decide_eq_false (by omega)
  by_cases c2 : 4096 < n2
  · have d2 : decide ((4096 : Int) < (n2 : Int)) = true := decide_eq_true (by omega)
    go_wp2
    go_ret
    exact ⟨rfl, Below.refl _ _⟩
  have d2 : decide ((4096 : Int) < (n2 : Int)) = false := decide_eq_false (by omega)
  go_wp2_with fail
  refine (bytes_any _ _ _ _ _ _ _ h0 (by omega)).mono ?_
  rintro e w' ⟨rfl, hw⟩
  obtain rfl := hw.symm
  go_wp2_with fail
  refine (bytes_any _ _ _ _ _ _ _ h1 (by omega)).mono ?_
  rintro e w' ⟨rfl, hw⟩
  obtain rfl := hw.symm
  go_wp2_with fail
  refine (bytes_any _ _ _ _ _ _ _ h2 (by omega)).mono ?_
  rintro e w' ⟨rfl, hw⟩
  obtain rfl := hw.symm
  by_cases ct : 1048576 < (16 * n0 + total s0) + (16 * n1 + total s1) + (16 * n2 + total s2)
  · go_wp2
    go_ret
    exact ⟨rfl, Below.refl _ _⟩
  have hsz0 : ∀ s ∈ s0, s.size ≤ maxLen := fun s hs => by have := size_le_total hs; unfold maxLen; omega
  have hsz2 : ∀ s ∈ s2, s.size ≤ maxLen := fun s hs => by have := size_le_total hs; unfold maxLen; omega
  go_wp2_with fail
  refine (build_any _ _ _ _ _ _ _ _ _ _ _ _ _ h0 h1 (by omega) (by omega) hsz0).mono ?_
  rintro e w1 ⟨rfl, f, hm1, hb1, hg1⟩
  have HB : Hid (Built w1 w.heap.size s0 s1 f) := hb1
  have hc1 := Cells.grown hg1
  have hw1 := hm1.plt
  clear hb1 hb' ct
  go_wp2_with (first
    | (at_make; refine wpList_make_snap _ rfl _ _ rfl _ _ n0 rfl rfl (by omega) (by omega) (by omega) ?_; intro L0 w2 hL0 hS0 hg2))
  go_loopw [9] (fun i wr => ∃ (k : Nat) (L : List Value), k ≤ n0 ∧ i = .int .i64 k ∧ w1.grownBy wr none ∧ SnapAt wr w1.heap.size L ∧ Hid (L.length = n0) ∧ Snapped L 0 k s0 f) (fun i _ => n0 - (intOf i).toNat)
  case atStart => exact ⟨0, L0, Nat.zero_le _, rfl, hg2, hS0, hL0, Snapped.start _ _ _ _⟩
  case round =>
    clear hg2 hS0 hL0
    obtain ⟨k1, L1, hk1, rfl, hgw, hS, hL, hsn⟩ := hrel
    have hcr := hc1.trans (Cells.grown hgw)
    have h0r : StrsAt wr a0 n0 b0 off0 s0 := h0.cells hcr
    have hmr : IsMM wr (w.heap.size + 1) w.heap.size n0 f := hm1.kept hgw (by simp) (by simp)
    by_cases hlt1 : k1 < n0
    · obtain ⟨x, hx⟩ := h0r.get hlt1
      have hi := h0r.idx cap0 hlt1
      have hc := h0r.cell k1 x hx
      have hxm := List.mem_of_getElem? hx
      have hxs := hsz0 x hxm
      obtain ⟨g, hfx, _⟩ := HB.out.yes x hxm
      have HX : Hid (f x = some g) := hfx
      have hi43 := idx43 w1.heap.size n0 k1 (k1 : Int) rfl hlt1
      obtain ⟨v0, hv0⟩ : ∃ v, L1[k1]? = some v := ⟨L1[k1]'(by rw [hL.out]; omega), List.getElem?_eq_getElem _⟩
      have hcS := (hS.cell k1).trans hv0
      have hfS := hS.frozen k1
      have R1 := hgw.andThen (grownBy_setCell (w := wr) ⟨w1.heap.size, k1, none⟩ (.pointer (some ⟨g, 0, none⟩))) (fun j hj => by cases hj; exact Or.inl (Nat.le_refl _))
      have R2 := hS.set k1 (.pointer (some ⟨g, 0, none⟩))
      have R3 : Hid (Snapped (L1.set k1 (.pointer (some ⟨g, 0, none⟩))) 0 (k1 + 1) s0 f) := by
        have := hsn.step hx hfx (by rw [hL.out]; omega)
        rwa [Nat.zero_add] at this
      clear hfx hx hv0 hsz0 hsz2
      go_wp2_with fail
      refine (get_hit hmr hxs HX.out).mono ?_
      rintro e w' ⟨rfl, hw⟩
      obtain rfl := hw.symm
      go_wp2
      go_roundw
      case rel => exact ⟨k1 + 1, _, by omega, by go_num, R1, R2, by unfold Hid; rw [List.length_set]; exact hL.out, R3.out⟩
      case measure => simp [intOf]; omega
    · have HO : Hid (Snapped L1 0 n0 s0 f) := by obtain rfl : k1 = n0 := by omega
                                                 exact hsn
      clear hsn h0r hmr hL hcr
      obtain ⟨w3, hw3⟩ : ∃ w3 : World, w3 = wr := ⟨_, rfl⟩
      obtain rfl := hw3
      have hm3 : IsMM w3 (w.heap.size + 1) w.heap.size n0 f := hm1.kept hgw (by simp) (by simp)
      go_wp2_with fail
      refine (copy_any hm3 (by unfold maxLen; omega)).mono ?_
      rintro e w4 ⟨rfl, hk4, hg4⟩
      have hm4 := hm3.kept hg4 (by simp) (by simp)
      have hS4 := hS.kept hg4 (by simp)
      have hgg4 : w.grownBy w4 none := (hg1.trans hgw).trans hg4
      have HG4 : Hid (w1.grownBy w4 none) := hgw.trans hg4
      have hz3 := hgw.size
      have hS3 := hS.lt
      have hwz : w.heap.size ≤ w1.heap.size := hg1.size
      clear hm3 hS hgw hg4 hm1 hg1 hc1
      go_wp2
      go_loopw [11] (fun i wr => ∃ (k : Nat) (fc : ByteArray → Option Nat), k ≤ n2 ∧ i = .int .i64 k ∧ IsMM wr (w3.heap.size + 1) w3.heap.size (n0 + k) fc ∧ Added wr s2 k f fc ∧ w4.grownBy wr (some w3.heap.size)) (fun i _ => n2 - (intOf i).toNat)
      case atStart => exact ⟨0, f, Nat.zero_le _, rfl, hk4, Added.start _ _ _, ⟨rfl, rfl, rfl, Nat.le_refl _, fun _ _ _ => rfl⟩⟩
      case round =>
        obtain ⟨k2, fc, hk2, rfl, hmr, har, hgw⟩ := hrel
        have hcr : Cells w wr := (Cells.grown hgg4).trans (Cells.grownMap hgw hk4.bmap)
        have h2r : StrsAt wr a2 n2 b2 off2 s2 := h2.cells hcr
        by_cases hlt2 : k2 < n2
        · obtain ⟨x, hx⟩ := h2r.get hlt2
          have hi := h2r.idx cap2 hlt2
          have hc := h2r.cell k2 x hx
          have hxs := hsz2 x (List.mem_of_getElem? hx)
          have HX : Hid (s2[k2]? = some x) := hx
          have hcv := conv_const wr
          have hkm : n0 + k2 < maxLen := by unfold maxLen; omega
          clear hx hsz0 hsz2
          go_wp2_with fail
          refine (add_any (hmr.alloc copyO) hxs hkm).mono ?_
          rintro e w5 ⟨rfl, hm5, hc5, hg5⟩
          have R := copy_step hmr har HX.out hc5 hg5
          clear hc5 hg5 hcv
          go_wp2
          go_roundw
          case rel => exact ⟨k2 + 1, _, by omega, by go_num, hm5, R.1, hgw.trans R.2⟩
          case measure => simp [intOf]; omega
        · have HA : Hid (Added wr s2 s2.length f fc) := by
            have : k2 = s2.length := by rw [h2r.len]; omega
            rw [← this]; exact har
          clear har h2r
          obtain ⟨w5, hw5⟩ : ∃ w5 : World, w5 = wr := ⟨_, rfl⟩
          obtain rfl := hw5
          have hk5 : IsMM w5 (w3.heap.size + 1) w3.heap.size (n0 + n2) fc := hmr.mono (by omega)
          have hm5 := hm4.kept hgw (by simp; omega) (by simp; omega)
          have hS5 := hS4.kept hgw (by simp; omega)
          have hgg5 : w.grownBy w5 none := hgg4.andThen hgw (fun j hj => by cases hj; exact Or.inl (by omega))
          have HG5 : Hid (w1.grownBy w5 none) := HG4.out.andThen hgw (fun j hj => by cases hj; exact Or.inl hz3)
          clear hmr hk4 hgw hm4 hS4 hgg4 hcr HG4
          go_wp2
          go_loopw [12] (fun i wr => ∃ (k : Nat) (fr : ByteArray → Option Nat), k ≤ n0 ∧ i = .int .i64 k ∧ IsMM wr (w3.heap.size + 1) w3.heap.size (n0 + n2) fr ∧ Removed s0 k fc fr ∧ w5.grownBy wr (some w3.heap.size)) (fun i _ => n0 - (intOf i).toNat)
          case atStart => exact ⟨0, fc, Nat.zero_le _, rfl, hk5, Removed.start _ _, ⟨rfl, rfl, rfl, Nat.le_refl _, fun _ _ _ => rfl⟩⟩
          case round =>
            obtain ⟨k3, fr, hk3, rfl, hmr, hrr, hgw⟩ := hrel
            have hcr : Cells w wr := (Cells.grown hgg5).trans (Cells.grownMap hgw hk5.bmap)
            have h0r : StrsAt wr a0 n0 b0 off0 s0 := h0.cells hcr
            by_cases hlt3 : k3 < n0
            · obtain ⟨x, hx⟩ := h0r.get hlt3
              have hi := h0r.idx cap0 hlt3
              have hc := h0r.cell k3 x hx
              have hxs := hsz0 x (List.mem_of_getElem? hx)
              have R := hrr.step hx
              clear hx hsz0 hsz2
              go_wp2_with fail
              refine (remove_any hmr hxs).mono ?_
              rintro e w6 ⟨rfl, hm6, hg6⟩
              go_wp2
              go_roundw
              case rel => exact ⟨k3 + 1, _, by omega, by go_num, hm6, R, hgw.trans hg6⟩
              case measure => simp [intOf]; omega
            · have HC : Hid (CopyIs wr s0 s2 fr) := by
                have e : k3 = s0.length := by rw [h0r.len]; omega
                rw [e] at hrr
                exact CopyIs.mk' HB.out HA.out hrr (Cells.grownMap hgw hk5.bmap)
              clear hrr h0r HA
              obtain ⟨w6, hw6⟩ : ∃ w6 : World, w6 = wr := ⟨_, rfl⟩
              obtain rfl := hw6
              have hm6 := hm5.kept hgw (by simp; omega) (by simp; omega)
              have hS6 := hS5.kept hgw (by simp; omega)
              have hgg6 : w.grownBy w6 none := hgg5.andThen hgw (fun j hj => by cases hj; exact Or.inl (by omega))
              have HG6 : Hid (w1.grownBy w6 none) := HG5.out.andThen hgw (fun j hj => by cases hj; exact Or.inl hz3)
              clear hk5 hgw hm5 hS5 hgg5 hcr HG5
              have hk6 := hmr
              clear hmr
              have h06 : StrsAt w6 a0 n0 b0 off0 s0 := h0.cells (Cells.grown hgg6)
              have h26 : StrsAt w6 a2 n2 b2 off2 s2 := h2.cells (Cells.grown hgg6)
              go_wp2
              go_loop [13, 14] (fun t i => ∃ k : Nat, k ≤ n2 ∧ i = .int .i64 k ∧ t = .int .i64 ((cntF (isLast s2 (notIn s0)) k : Nat) : Int)) (fun _ i => n2 - (intOf i).toNat)
              case atStart => exact ⟨0, Nat.zero_le _, rfl, rfl⟩
              case round =>
                obtain ⟨k4, hk4, rfl, rfl⟩ := hrel
                have hcl := cntF_le (isLast s2 (notIn s0)) k4
                by_cases hlt4 : k4 < n2
                · obtain ⟨x, hx⟩ := h26.get hlt4
                  have hi := h26.idx cap2 hlt4
                  have hc := h26.cell k4 x hx
                  have HT : Hid (cntF (isLast s2 (notIn s0)) (k4 + 1) = cntF (isLast s2 (notIn s0)) k4 + if lastIx s2 x = (k4 : Int) ∧ lastIx s0 x < 0 then 1 else 0) := cnt_step s0 s2 k4 x hx
                  clear hx hsz0 hsz2
                  by_cases hl : lastIx s2 x = (k4 : Int)
                  · have hb : (lastIx s2 x == (k4 : Int)) = true := by simp [hl]
                    have HX : Hid (lastIx s2 x = (k4 : Int)) := hl
                    clear hl
                    by_cases hm : lastIx s0 x < 0
                    · have hd : decide (lastIx s0 x < 0) = true := decide_eq_true hm
                      go_wp2_with fail
                      refine (last_any _ _ _ _ _ _ _ _ h26 (by omega)).mono ?_
                      rintro e w' ⟨rfl, hw⟩
                      obtain rfl := hw.symm
                      go_wp2_with fail
                      refine (last_any _ _ _ _ _ _ _ _ h06 (by omega)).mono ?_
                      rintro e w' ⟨rfl, hw⟩
                      obtain rfl := hw.symm
                      go_wp2
                      go_round
                      case rel => exact ⟨k4 + 1, by omega, by go_num, by rw [HT.out, if_pos ⟨HX.out, hm⟩]; go_num⟩
                      case measure => simp [intOf]; omega
                    · have hd : decide (lastIx s0 x < 0) = false := decide_eq_false hm
                      go_wp2_with fail
                      refine (last_any _ _ _ _ _ _ _ _ h26 (by omega)).mono ?_
                      rintro e w' ⟨rfl, hw⟩
                      obtain rfl := hw.symm
                      go_wp2_with fail
                      refine (last_any _ _ _ _ _ _ _ _ h06 (by omega)).mono ?_
                      rintro e w' ⟨rfl, hw⟩
                      obtain rfl := hw.symm
                      go_wp2
                      go_round
                      case rel => exact ⟨k4 + 1, by omega, by go_num, by rw [HT.out, if_neg (fun h => by have := h.2; omega)]; go_num⟩
                      case measure => simp [intOf]; omega
                  · have hb : (lastIx s2 x == (k4 : Int)) = false := by simp [hl]
                    go_wp2_with fail
                    refine (last_any _ _ _ _ _ _ _ _ h26 (by omega)).mono ?_
                    rintro e w' ⟨rfl, hw⟩
                    obtain rfl := hw.symm
                    go_wp2
                    go_round
                    case rel => exact ⟨k4 + 1, by omega, by go_num, by rw [HT.out, if_neg (fun h => hl h.1)]; go_num⟩
                    case measure => simp [intOf]; omega
                · have ek : cntF (isLast s2 (notIn s0)) k4 = wantN s0 s2 := by
                    have : k4 = s2.length := by rw [h26.len]; omega
                    rw [this]; rfl
                  rw [ek] at hcl ⊢
                  clear ek
                  go_wp2_with fail
                  refine (len_copy hk6 HC.out).mono ?_
                  rintro e w' ⟨rfl, hw⟩
                  obtain rfl := hw.symm
                  go_wp2_with (first
                    | (at_make; refine wpList_make_snap _ rfl _ _ rfl _ _ n2 rfl rfl (by omega) (by omega) (by omega) ?_; intro L0 w7 hL7 hS7 hg7))
                  clear h06 h26
                  go_loopw [16] (fun i wr => ∃ (k : Nat) (L : List Value), k ≤ n2 ∧ i = .int .i64 k ∧ w6.grownBy wr none ∧ SnapAt wr w6.heap.size L ∧ Hid (L.length = n2) ∧ Snapped L 0 k s2 fr) (fun i _ => n2 - (intOf i).toNat)
                  case atStart => exact ⟨0, L0, Nat.zero_le _, rfl, hg7, hS7, hL7, Snapped.start _ _ _ _⟩
                  case round =>
                    clear hg7 hS7 hL7
                    obtain ⟨k5, L5, hk5, rfl, hgw, hS, hL, hsn⟩ := hrel
                    have hcr := (Cells.grown hgg6).trans (Cells.grown hgw)
                    have h0r : StrsAt wr a0 n0 b0 off0 s0 := h0.cells hcr
                    have h2r : StrsAt wr a2 n2 b2 off2 s2 := h2.cells hcr
                    have hmr := hm6.kept hgw (by simp) (by simp)
                    have hkr := hk6.kept hgw (by simp) (by simp)
                    by_cases hlt5 : k5 < n2
                    · obtain ⟨x, hx⟩ := h2r.get hlt5
                      have hi := h2r.idx cap2 hlt5
                      have hc := h2r.cell k5 x hx
                      have hxm := List.mem_of_getElem? hx
                      have hxs := hsz2 x hxm
                      by_cases hl : lastIx s0 x < 0
                      · have hd : decide (0 ≤ lastIx s0 x) = false := decide_eq_false (by omega)
                        have hn := lastIx_neg.1 hl
                        obtain ⟨g, hfx, hsrc⟩ := (HC.out.carry (Cells.grown hgw)).yes x hxm hn
                        obtain ⟨b, cap, hgc, hcv⟩ := hsrc.copy
                        have HX : Hid (fr x = some g) := hfx
                        have HM : Hid (f x = none) := HB.out.no x hn
                        have hi43 := idx43 w6.heap.size n2 k5 (k5 : Int) rfl hlt5
                        obtain ⟨v0, hv0⟩ : ∃ v, L5[k5]? = some v := ⟨L5[k5]'(by rw [hL.out]; omega), List.getElem?_eq_getElem _⟩
                        have hcS := (hS.cell k5).trans hv0
                        have hfS := hS.frozen k5
                        have R1 := hgw.andThen (grownBy_setCell (w := wr) ⟨w6.heap.size, k5, none⟩ (.pointer (some ⟨g, 0, none⟩))) (fun j hj => by cases hj; exact Or.inl (Nat.le_refl _))
                        have R2 := hS.set k5 (.pointer (some ⟨g, 0, none⟩))
                        have R3 : Hid (Snapped (L5.set k5 (.pointer (some ⟨g, 0, none⟩))) 0 (k5 + 1) s2 fr) := by
                          have := hsn.step hx hfx (by rw [hL.out]; omega)
                          rwa [Nat.zero_add] at this
                        clear hfx hx hv0 hsz0 hsz2 hsrc hn
                        go_wp2_with fail
                        refine (get_hit hkr hxs HX.out).mono ?_
                        rintro e w' ⟨rfl, hw⟩
                        obtain rfl := hw.symm
                        go_wp2_with fail
                        refine (last_any _ _ _ _ _ _ _ _ h0r (by omega)).mono ?_
                        rintro e w' ⟨rfl, hw⟩
                        obtain rfl := hw.symm
                        go_wp2_with fail
                        refine (get_miss hmr hxs HM.out).mono ?_
                        rintro e w' ⟨rfl, hw⟩
                        obtain rfl := hw.symm
                        go_wp2
                        go_roundw
                        case rel => exact ⟨k5 + 1, _, by omega, by go_num, R1, R2, by unfold Hid; rw [List.length_set]; exact hL.out, R3.out⟩
                        case measure => simp [intOf]; omega
                      · have hd : decide (0 ≤ lastIx s0 x) = true := decide_eq_true (by omega)
                        have hfx := HC.out.no x (Or.inr (mem_of_last hl))
                        have HX : Hid (fr x = none) := hfx
                        have R3 : Hid (Snapped L5 0 (k5 + 1) s2 fr) := hsn.skip hx hfx
                        clear hfx hx hsz0 hsz2
                        go_wp2_with fail
                        refine (get_miss hkr hxs HX.out).mono ?_
                        rintro e w' ⟨rfl, hw⟩
                        obtain rfl := hw.symm
                        go_wp2_with fail
                        refine (last_any _ _ _ _ _ _ _ _ h0r (by omega)).mono ?_
                        rintro e w' ⟨rfl, hw⟩
                        obtain rfl := hw.symm
                        go_wp2
                        go_roundw
                        case rel => exact ⟨k5 + 1, L5, by omega, by go_num, hgw, hS, hL, R3.out⟩
                        case measure => simp [intOf]; omega
                    · have HN : Hid (Snapped L5 0 n2 s2 fr) := by obtain rfl : k5 = n2 := by omega
                                                                  exact hsn
                      clear hsn h0r h2r hmr hkr hL hcr
                      obtain ⟨w8, hw8⟩ : ∃ w8 : World, w8 = wr := ⟨_, rfl⟩
                      obtain rfl := hw8
                      have hm8 := hm6.kept hgw (by simp) (by simp)
                      have hk8 := hk6.kept hgw (by simp) (by simp)
                      have hO8 := hS6.kept hgw (by simp)
                      have hgg8 : w.grownBy w8 none := hgg6.trans hgw
                      have HC8 : Hid (CopyIs w8 s0 s2 fr) := HC.out.carry (Cells.grown hgw)
                      have hz6 := hS.lt
                      have hl6 : w3.heap.size < w6.heap.size := hk6.blt
                      have HG8 : Hid (w1.grownBy w8 none) := HG6.out.trans hgw
                      clear hm6 hk6 hS6 hgg6 hgw HC HG6
                      have h08 : StrsAt w8 a0 n0 b0 off0 s0 := h0.cells (Cells.grown hgg8)
                      go_wp2
                      go_loop [18] (fun i => ∃ k : Nat, k ≤ n0 ∧ i = .int .i64 k) (fun i => n0 - (intOf i).toNat)
                      case atStart => exact ⟨0, Nat.zero_le _, rfl⟩
                      case round =>
                        obtain ⟨k6, hk6, rfl⟩ := hrel
                        by_cases hlt6 : k6 < n0
                        · obtain ⟨x, hx⟩ := h08.get hlt6
                          have hi := h08.idx cap0 hlt6
                          have hc := h08.cell k6 x hx
                          have hxm := List.mem_of_getElem? hx
                          have hxs := hsz0 x hxm
                          have HX : Hid (fr x = none) := HC8.out.no x (Or.inr hxm)
                          clear hx hsz0 hsz2
                          go_wp2_with fail
                          refine (get_miss hk8 hxs HX.out).mono ?_
                          rintro e w' ⟨rfl, hw⟩
                          obtain rfl := hw.symm
                          go_wp2
                          go_round
                          case rel => exact ⟨k6 + 1, by omega, by go_num⟩
                          case measure => simp [intOf]; omega
                        · go_wp2_with fail
                          refine (len_built hm8 HB.out).mono ?_
                          rintro e w' ⟨rfl, hw⟩
                          obtain rfl := hw.symm
                          go_wp2_with fail
                          refine (distinct_any _ _ _ _ _ _ _ h08 (by omega)).mono ?_
                          rintro e w' ⟨rfl, hw⟩
                          obtain rfl := hw.symm
                          clear h08
                          go_wp2
                          have hB8 : Built w8 w.heap.size s0 s1 f := HB.out.carry (Cells.grown HG8.out)
                          go_loopw [19] (fun i wr => ∃ k : Nat, k ≤ n0 ∧ i = .int .i64 k ∧ Calm w8 wr) (fun i _ => n0 - (intOf i).toNat)
                          case atStart => exact ⟨0, Nat.zero_le _, rfl, Calm.refl _⟩
                          case round =>
                            obtain ⟨k7, hk7, rfl, hcm⟩ := hrel
                            have hcr := (Cells.grown hgg8).trans hcm.cells
                            have h0r : StrsAt wr a0 n0 b0 off0 s0 := h0.cells hcr
                            have h1r : StrsAt wr a1 n1 b1 off1 s1 := h1.cells hcr
                            have hmr := hm8.calm hcm
                            have hOr := hO8.calm hcm
                            by_cases hlt7 : k7 < n0
                            · obtain ⟨x, hx⟩ := h0r.get hlt7
                              have hi := h0r.idx cap0 hlt7
                              have hc := h0r.cell k7 x hx
                              have hxm := List.mem_of_getElem? hx
                              have hxs := hsz0 x hxm
                              obtain ⟨g, hfx, _, b, cap, hgc, hgs⟩ := (hB8.carry hcm.cells).yes x hxm
                              have HX : Hid (f x = some g) := hfx
                              have hi43 := idx43 w1.heap.size n0 k7 (k7 : Int) rfl hlt7
                              have hcS : wr.cell? ⟨w1.heap.size, k7, none⟩ = some (.pointer (some ⟨g, 0, none⟩)) := by
                                have := HO.out k7 x g hlt7 hx hfx
                                rw [Nat.zero_add] at this
                                exact (hOr.cell k7).trans this
                              have hnq := neq_same29 g wr
                              have hcv := conv_string (cap := cap) hgs
                              clear hgs hfx hx hsz0 hsz2
                              go_wp2_with fail
                              refine (get_hit hmr hxs HX.out).mono ?_
                              rintro e w' ⟨rfl, hw⟩
                              obtain rfl := hw.symm
                              go_wp2_with fail
                              go_quiet ((first | (go_at_call 15; refine Calls.quiet_of_same (last_any a0 n0 cap0 b0 off0 s0 x _ ?_ (by omega)); exact h0r.cells (Cells.heap rfl)) | (go_at_call 17; refine Calls.quiet_of_same (srcAt_any a1 n1 cap1 b1 off1 s1 _ _ ?_ (by omega)); exact h1r.cells (Cells.heap rfl))))
                              go_wp2
                              go_roundw
                              case rel => exact ⟨k7 + 1, by omega, by go_num, hcm.drewN _⟩
                              case measure => simp [intOf]; omega
                            · clear h0r h1r hmr hOr hcr
                              obtain ⟨w9, hw9⟩ : ∃ w9 : World, w9 = wr := ⟨_, rfl⟩
                              obtain rfl := hw9
                              have hm9 := hm8.calm hcm
                              have hk9 := hk8.calm hcm
                              have hN9 := hS.calm hcm
                              have hgg9 : w.grownBy w9 none := hgg8.trans hcm.grown
                              have HC9 : Hid (CopyIs w9 s0 s2 fr) := HC8.out.carry hcm.cells
                              clear hm8 hk8 hS hgg8 HC8 hO8 hcm HO hB8
                              go_wp2
                              go_loopw [21] (fun i wr => ∃ (k : Nat) (fm : ByteArray → Option Nat), k ≤ n0 ∧ i = .int .i64 k ∧ IsMM wr (w.heap.size + 1) w.heap.size n0 fm ∧ Removed s0 k f fm ∧ w9.grownBy wr (some w.heap.size)) (fun i _ => n0 - (intOf i).toNat)
                              case atStart => exact ⟨0, f, Nat.zero_le _, rfl, hm9, Removed.start _ _, ⟨rfl, rfl, rfl, Nat.le_refl _, fun _ _ _ => rfl⟩⟩
                              case round =>
                                obtain ⟨k8, fm, hk8, rfl, hmr, hrr, hgw⟩ := hrel
                                have hcr : Cells w wr := (Cells.grown hgg9).trans (Cells.grownMap hgw hm9.bmap)
                                have h0r : StrsAt wr a0 n0 b0 off0 s0 := h0.cells hcr
                                by_cases hlt8 : k8 < n0
                                · obtain ⟨x, hx⟩ := h0r.get hlt8
                                  have hi := h0r.idx cap0 hlt8
                                  have hc := h0r.cell k8 x hx
                                  have hxs := hsz0 x (List.mem_of_getElem? hx)
                                  have R := hrr.step hx
                                  clear hx hsz0 hsz2
                                  go_wp2_with fail
                                  refine (remove_any hmr hxs).mono ?_
                                  rintro e w6 ⟨rfl, hm6, hg6⟩
                                  go_wp2
                                  go_roundw
                                  case rel => exact ⟨k8 + 1, _, by omega, by go_num, hm6, R, hgw.trans hg6⟩
                                  case measure => simp [intOf]; omega
                                · have HR : Hid (Removed s0 s0.length f fm) := by
                                    have e : k8 = s0.length := by rw [h0r.len]; omega
                                    rw [e] at hrr
                                    exact hrr
                                  clear hrr h0r
                                  obtain ⟨wa, hwa⟩ : ∃ wa : World, wa = wr := ⟨_, rfl⟩
                                  obtain rfl := hwa
                                  have hcm := Cells.grownMap hgw hm9.bmap
                                  have hka := hk9.kept hgw (by simp; omega) (by simp; omega)
                                  have hNa := hN9.kept hgw (by simp; omega)
                                  have hgga : w.grownBy wa none := hgg9.andThen hgw (fun j hj => by cases hj; exact Or.inl (Nat.le_refl _))
                                  have HCa : Hid (CopyIs wa s0 s2 fr) := HC9.out.carry hcm
                                  have h0a : StrsAt wa a0 n0 b0 off0 s0 := h0.cells (Cells.grown hgga)
                                  have h2a : StrsAt wa a2 n2 b2 off2 s2 := h2.cells (Cells.grown hgga)
                                  clear hm9 hk9 hN9 hgg9 HC9 hcm hgw hcr
                                  go_wp2_with fail
                                  refine (len_emptied hmr HB.out HR.out).mono ?_
                                  rintro e w' ⟨rfl, hw⟩
                                  obtain rfl := hw.symm
                                  go_wp2_with fail
                                  refine (len_copy hka HCa.out).mono ?_
                                  rintro e w' ⟨rfl, hw⟩
                                  obtain rfl := hw.symm
                                  go_wp2
                                  clear hmr HR
                                  go_loop [22] (fun i => ∃ k : Nat, k ≤ n2 ∧ i = .int .i64 k) (fun i => n2 - (intOf i).toNat)
                                  case atStart => exact ⟨0, Nat.zero_le _, rfl⟩
                                  case round =>
                                    obtain ⟨k9, hk9, rfl⟩ := hrel
                                    by_cases hlt9 : k9 < n2
                                    · obtain ⟨x, hx⟩ := h2a.get hlt9
                                      have hi := h2a.idx cap2 hlt9
                                      have hc := h2a.cell k9 x hx
                                      have hxm := List.mem_of_getElem? hx
                                      have hxs := hsz2 x hxm
                                      by_cases hl : lastIx s0 x < 0
                                      · have hd : decide (0 ≤ lastIx s0 x) = false := decide_eq_false (by omega)
                                        obtain ⟨g, hfx, hsrc⟩ := HCa.out.yes x hxm (lastIx_neg.1 hl)
                                        obtain ⟨b, cap, hgc, hcv⟩ := hsrc.copy
                                        have HX : Hid (fr x = some g) := hfx
                                        have hi43 := idx43 w6.heap.size n2 k9 (k9 : Int) rfl hlt9
                                        have hcS : wa.cell? ⟨w6.heap.size, k9, none⟩ = some (.pointer (some ⟨g, 0, none⟩)) := by
                                          have := HN.out k9 x g hlt9 hx hfx
                                          rw [Nat.zero_add] at this
                                          exact (hNa.cell k9).trans this
                                        have hnq := neq_same29 g wa
                                        clear hfx hx hsz0 hsz2 hsrc
                                        go_wp2_with fail
                                        refine (last_any _ _ _ _ _ _ _ _ h0a (by omega)).mono ?_
                                        rintro e w' ⟨rfl, hw⟩
                                        obtain rfl := hw.symm
                                        go_wp2_with fail
                                        refine (get_hit hka hxs HX.out).mono ?_
                                        rintro e w' ⟨rfl, hw⟩
                                        obtain rfl := hw.symm
                                        go_wp2
                                        go_round
                                        case rel => exact ⟨k9 + 1, by omega, by go_num⟩
                                        case measure => simp [intOf]; omega
                                      · have hd : decide (0 ≤ lastIx s0 x) = true := decide_eq_true (by omega)
                                        clear hx hsz0 hsz2
                                        go_wp2_with fail
                                        refine (last_any _ _ _ _ _ _ _ _ h0a (by omega)).mono ?_
                                        rintro e w' ⟨rfl, hw⟩
                                        obtain rfl := hw.symm
                                        go_wp2
                                        go_round
                                        case rel => exact ⟨k9 + 1, by omega, by go_num⟩
                                        case measure => simp [intOf]; omega
                                    · go_wp2
                                      go_ret
                                      exact ⟨rfl, below_of_grown hgga⟩

end Go.Proofs.Yoeaow
