/-
  Seat oeao: THE WALK OF FnLenFollowsAddRemoveScript.
-/
import Derived.Test.YoeaowDrop
import Derived.Test.YoeaowSize18
namespace Go.Proofs.Yoeaow
open Go.RowKit
open Go.Proofs.Yoeaow.Pl

theorem mem_upd_none {P Q : List ByteArray} {f : ByteArray → Option Nat} {x : ByteArray} (h : ∀ s, s ∈ P ↔ (f s).isSome = true) (hQ : ∀ s, s ∈ Q ↔ s ∈ P ∧ s ≠ x) (s : ByteArray) : s ∈ Q ↔ (upd f x none s).isSome = true := by
  rw [hQ]
  by_cases e : s = x
  · subst e
    rw [upd_same]
    simp
  · rw [upd_other _ _ e, ← h]
    simp [e]

theorem mem_upd_some {P Q : List ByteArray} {f : ByteArray → Option Nat} {x : ByteArray} {g : Nat} (h : ∀ s, s ∈ P ↔ (f s).isSome = true) (hQ : ∀ s, s ∈ Q ↔ s ∈ P ∨ s = x) (s : ByteArray) : s ∈ Q ↔ (upd f x (some g) s).isSome = true := by
  rw [hQ]
  by_cases e : s = x
  · subst e
    rw [upd_same]
    simp
  · rw [upd_other _ _ e, ← h]
    simp [e]

set_option maxHeartbeats 2000000 in
theorem walk4 (a0 : Option Addr) (n0 cap0 b0 off0 : Nat) (s0 : List ByteArray) (a1 : Option Addr) (n1 cap1 b1 off1 : Nat) (s1 : List Bool) (w : World) (h0 : StrsAt w a0 n0 b0 off0 s0) (h1 : BoolsAt w a1 n1 b1 off1 s1) (l0 : n0 ≤ 9223372036854775807) (l1 : n1 ≤ 9223372036854775807) :
    Calls Eaog.prog 4 #[.slice a0 n0 cap0, .slice a1 n1 cap1] w fun e w' => e = .returned (.bool true) ∧ Below w.heap.size w w' := by
  go_enter Eaog.func4, Eaog.ntmps4
  go_wp2_with fail
  refine (sizes18 _ _ _ _ _ _ _ _ _ _ h0 l0 l1).mono ?_
  rintro e w' ⟨r, rfl, hw, hb⟩
  obtain rfl := hw.symm
  cases r
  · go_wp2
    go_ret
    exact ⟨rfl, Below.refl _ _⟩
  have hb' := hb rfl
  clear hb
  by_cases c0 : 4096 < n0
  · have d0 : decide ((4096 : Int) < (n0 : Int)) = true := decide_eq_true (by omega)
    go_wp2
    go_ret
    exact ⟨rfl, Below.refl _ _⟩
  have d0 : decide ((4096 : Int) < (n0 : Int)) = false := decide_eq_false (by omega)
  by_cases c1 : 4096 < n1
  · have d1 : decide ((4096 : Int) < (n1 : Int)) = true := decide_eq_true (by omega)
    go_wp2
    go_ret
    exact ⟨rfl, Below.refl _ _⟩
  have d1 : decide ((4096 : Int) < (n1 : Int)) = false := decide_eq_false (by omega)
  go_wp2_with fail
  refine (bytes_any _ _ _ _ _ _ _ h0 (by omega)).mono ?_
  rintro e w' ⟨rfl, hw⟩
  obtain rfl := hw.symm
  by_cases ct : 1048576 < (16 * n0 + total s0) + n1
  · go_wp2
    go_ret
    exact ⟨rfl, Below.refl _ _⟩
  have hsz0 : ∀ s ∈ s0, s.size ≤ maxLen := fun s hs => by have := size_le_total hs; unfold maxLen; omega
  go_wp2_with fail
  refine (new_any _).mono ?_
  rintro e w1 ⟨rfl, hm1, hg1, hz1⟩
  have HS : Hid (w1.heap.size = w.heap.size + 2) := hz1
  clear hz1
  go_wp2_with (first
    | (at_make; refine wpList_make_present _ rfl _ _ rfl n0 rfl rfl (by omega) ?_; intro w2 hp2 hg2))
  have hm2 := hm1.kept hg2 (by simp) (by simp)
  have hgg2 : w.grownBy w2 none := hg1.trans hg2
  clear hm1 hg1 hg2 hb' ct
  go_loopw [6, 7] (fun v i wr => ∃ (k : Nat) (P : List ByteArray) (f : ByteArray → Option Nat), k ≤ n0 ∧ i = .int .i64 k ∧ v = .slice (some ⟨w1.heap.size, 0, none⟩) P.length n0 ∧ Present wr w1.heap.size n0 P ∧ P.length ≤ k ∧ Hid P.Nodup ∧ Hid (∀ s, s ∈ P ↔ (f s).isSome = true) ∧ IsMM wr (w.heap.size + 1) w.heap.size k f ∧ w.grownBy wr none) (fun _ i _ => n0 - (intOf i).toNat)
  case atStart => exact ⟨0, [], fun _ => none, Nat.zero_le _, rfl, rfl, hp2, Nat.le_refl _, List.nodup_nil, fun s => by simp, hm2, hgg2⟩
  case round =>
    clear hp2 hm2 hgg2
    obtain ⟨k, P, f, hk, rfl, rfl, hP, hPk, HN, HP, hmr, hgw⟩ := hrel
    have hcr : Cells w wr := Cells.grown hgw
    have h0r : StrsAt wr a0 n0 b0 off0 s0 := h0.cells hcr
    have h1r : BoolsAt wr a1 n1 b1 off1 s1 := h1.cells hcr
    have hPs := hP.strs
    by_cases hlt : k < n0
    · obtain ⟨x, hx⟩ := h0r.get hlt
      have hi := h0r.idx cap0 hlt
      have hc := h0r.cell k x hx
      have hxs := hsz0 x (List.mem_of_getElem? hx)
      have hSm : w1.heap.size ≠ w.heap.size := by have := HS.out; omega
      have hSp : w1.heap.size ≠ w.heap.size + 1 := by have := HS.out; omega
      have hwS : w.heap.size ≤ w1.heap.size := by have := HS.out; omega
      clear hx hsz0
      by_cases hk1 : k < n1
      · obtain ⟨r, hr⟩ := h1r.get hk1
        have hdk : decide ((k : Int) < (n1 : Int)) = true := decide_eq_true (by omega)
        have hi1 := h1r.idx cap1 hk1
        have hc1 := h1r.cell k r hr
        clear hr
        cases r
        · skip
          by_cases hin : x ∈ P
          · obtain ⟨j, hj, hPj⟩ := firstIx_present hin
            have HJ : Hid (firstIx P x = (j : Int)) := hj
            have HX : Hid (P[j]? = some x) := hPj
            clear hj hPj hin
            have hcv := conv_bytes
            have hkm : k < maxLen := by unfold maxLen; omega
            go_wp2_with fail
            refine (index_any _ _ _ _ _ _ _ _ hPs (by omega)).mono ?_
            rintro e w' ⟨rfl, hw⟩
            obtain rfl := hw.symm
            rw [HJ.out]
            go_wp2_with fail
            refine (add_any (p := w.heap.size + 1) (b := w.heap.size) (n := k) (f := f) ?_ hxs hkm).mono ?_
            · exact IsMM.heap (w := wr.alloc _) rfl (hmr.alloc _)
            rintro e w3 ⟨rfl, hm3, _, hg3⟩
            have hg3' : wr.grownBy w3 (some w.heap.size) := ((grownBy_drew (World.grownBy_alloc wr _ none)).but _).trans hg3
            have hP3 := hP.kept hg3' (by simpa using hSm)
            have hgw3 : w.grownBy w3 none := hgw.andThen hg3' (fun j hj => by cases hj; exact Or.inl (Nat.le_refl _))
            clear hg3 hg3' hcv
            have HQ : Hid (∀ g s, s ∈ P ↔ (upd f x (some g) s).isSome = true) := fun g => mem_upd_some (g := g) HP.out (fun s => ⟨fun hs => Or.inl hs, fun hs => hs.elim id (fun e => by rw [e]; exact List.mem_of_getElem? HX.out)⟩)
            go_wp2_with fail
            refine (len_any P hm3 HN.out (HQ.out _)).mono ?_
            rintro e w' ⟨rfl, hw⟩
            obtain rfl := hw.symm
            go_wp2_with fail
            refine (get_hit hm3 hxs (upd_same _ _ _)).mono ?_
            rintro e w' ⟨rfl, hw⟩
            obtain rfl := hw.symm
            go_wp2
            go_roundw
            case rel => exact ⟨k + 1, P, _, by omega, by go_num, rfl, hP3, by omega, HN, HQ.out _, hm3, hgw3⟩
            case measure => simp [intOf]; omega
          · have HJ : Hid (firstIx P x = -1) := firstIx_absent hin
            have HX : Hid (x ∉ P) := hin
            clear hin
            have hcv := conv_bytes
            have hkm : k < maxLen := by unfold maxLen; omega
            go_wp2_with fail
            refine (index_any _ _ _ _ _ _ _ _ hPs (by omega)).mono ?_
            rintro e w' ⟨rfl, hw⟩
            obtain rfl := hw.symm
            rw [HJ.out]
            go_wp2_with fail
            refine (add_any (p := w.heap.size + 1) (b := w.heap.size) (n := k) (f := f) ?_ hxs hkm).mono ?_
            · exact IsMM.heap (w := wr.alloc _) rfl (hmr.alloc _)
            rintro e w3 ⟨rfl, hm3, _, hg3⟩
            have hg3' : wr.grownBy w3 (some w.heap.size) := ((grownBy_drew (World.grownBy_alloc wr _ none)).but _).trans hg3
            have hP3 := hP.kept hg3' (by simpa using hSm)
            have hgw3 : w.grownBy w3 none := hgw.andThen hg3' (fun j hj => by cases hj; exact Or.inl (Nat.le_refl _))
            clear hg3 hg3' hcv
            have HQ : Hid (∀ g s, s ∈ P ++ [x] ↔ (upd f x (some g) s).isSome = true) := fun g => mem_upd_some (g := g) HP.out (fun s => by rw [List.mem_append, List.mem_singleton])
            have HQN : Hid (P ++ [x]).Nodup := List.nodup_append.2 ⟨HN.out, by simp, fun a ha b hb e => HX.out (by rw [List.mem_singleton] at hb; rw [← hb, ← e]; exact ha)⟩
            have hPA : Present (w3.alloc (.cells #[.string x] 9)) w1.heap.size n0 P := hP3.kept (World.grownBy_alloc w3 _ none) (by simp)
            have hcA : (w3.alloc (.cells #[.string x] 9)).cell? ⟨w3.heap.size, 0, none⟩ = some (.string x) := by simp
            have hroom : P.length + 1 ≤ n0 := by omega
            go_wp2_with (first
              | (at_builtin; refine wpList_append_present _ rfl _ _ rfl w1.heap.size n0 w3.heap.size P x rfl rfl hPA hcA hroom ?_; intro w4 hP4 hg4))
            have hg4' : w3.grownBy w4 (some w1.heap.size) := (World.grownBy_alloc w3 _ _).trans hg4
            have hm4 := hm3.kept hg4' (by simpa using hSp.symm) (by simpa using hSm.symm)
            have hgw4 : w.grownBy w4 none := hgw3.andThen hg4' (fun j hj => by cases hj; exact Or.inl hwS)
            have hlen : (P ++ [x]).length = P.length + 1 := by simp
            clear hP3 hm3 hg4 hg4' hPA hcA hgw3
            refine (len_any (P ++ [x]) hm4 HQN.out (HQ.out _)).mono ?_
            rintro e w' ⟨rfl, hw⟩
            obtain rfl := hw.symm
            go_wp2_with fail
            refine (get_hit hm4 hxs (upd_same _ _ _)).mono ?_
            rintro e w' ⟨rfl, hw⟩
            obtain rfl := hw.symm
            go_wp2
            go_roundw
            case rel => exact ⟨k + 1, P ++ [x], _, by omega, by go_num, by rw [hlen], hP4, by omega, HQN, HQ.out _, hm4, hgw4⟩
            case measure => simp [intOf]; omega
        · skip
          by_cases hin : x ∈ P
          · obtain ⟨j, hj, hPj⟩ := firstIx_present hin
            have HJ : Hid (firstIx P x = (j : Int)) := hj
            have HX : Hid (P[j]? = some x) := hPj
            clear hj hPj hin
            go_wp2_with fail
            refine (index_any _ _ _ _ _ _ _ _ hPs (by omega)).mono ?_
            rintro e w' ⟨rfl, hw⟩
            obtain rfl := hw.symm
            rw [HJ.out]
            go_wp2_with fail
            refine (remove_any hmr hxs).mono ?_
            rintro e w3 ⟨rfl, hm3, hg3⟩
            have hP3 := hP.kept hg3 (by simpa using hSm)
            have hgw3 : w.grownBy w3 none := hgw.andThen hg3 (fun j hj => by cases hj; exact Or.inl (Nat.le_refl _))
            go_wp2_with fail
            refine (drop_any hP3 HX.out (by omega)).mono ?_
            rintro e w4 ⟨z, hz, rfl, hP4, hg4⟩
            have hok := dropAt_ok HN.out HX.out hz
            have HQ : Hid (∀ s, s ∈ dropAt P j z ↔ (upd f x none s).isSome = true) := mem_upd_none HP.out hok.2
            have HQN : Hid (dropAt P j z).Nodup := hok.1
            have hm4 := hm3.kept hg4 (by simpa using hSp.symm) (by simpa using hSm.symm)
            have hgw4 : w.grownBy w4 none := hgw3.andThen hg4 (fun j hj => by cases hj; exact Or.inl hwS)
            clear hz hok hP3 hm3 hg3 hg4
            go_wp2_with fail
            refine (len_any (dropAt P j z) hm4 HQN.out HQ.out).mono ?_
            rintro e w' ⟨rfl, hw⟩
            obtain rfl := hw.symm
            rw [dropAt_length]
            go_wp2_with fail
            refine (get_miss hm4 hxs (upd_same _ _ _)).mono ?_
            rintro e w' ⟨rfl, hw⟩
            obtain rfl := hw.symm
            go_wp2
            go_roundw
            case rel => exact ⟨k + 1, dropAt P j z, _, by omega, by go_num, by rw [dropAt_length], hP4, by rw [dropAt_length]; omega, HQN, HQ, hm4.mono (by omega), hgw4⟩
            case measure => simp [intOf]; omega
          · have HJ : Hid (firstIx P x = -1) := firstIx_absent hin
            have HX : Hid (x ∉ P) := hin
            clear hin
            go_wp2_with fail
            refine (index_any _ _ _ _ _ _ _ _ hPs (by omega)).mono ?_
            rintro e w' ⟨rfl, hw⟩
            obtain rfl := hw.symm
            rw [HJ.out]
            go_wp2_with fail
            refine (remove_any hmr hxs).mono ?_
            rintro e w3 ⟨rfl, hm3, hg3⟩
            have hP3 := hP.kept hg3 (by simpa using hSm)
            have hgw3 : w.grownBy w3 none := hgw.andThen hg3 (fun j hj => by cases hj; exact Or.inl (Nat.le_refl _))
            have HQ : Hid (∀ s, s ∈ P ↔ (upd f x none s).isSome = true) := mem_upd_none HP.out (fun s => ⟨fun hs => ⟨hs, fun e => HX.out (e ▸ hs)⟩, fun hs => hs.1⟩)
            go_wp2_with fail
            refine (len_any P hm3 HN.out HQ.out).mono ?_
            rintro e w' ⟨rfl, hw⟩
            obtain rfl := hw.symm
            go_wp2_with fail
            refine (get_miss hm3 hxs (upd_same _ _ _)).mono ?_
            rintro e w' ⟨rfl, hw⟩
            obtain rfl := hw.symm
            go_wp2
            go_roundw
            case rel => exact ⟨k + 1, P, _, by omega, by go_num, rfl, hP3, by omega, HN, HQ, hm3.mono (by omega), hgw3⟩
            case measure => simp [intOf]; omega
      · have hdk : decide ((k : Int) < (n1 : Int)) = false := decide_eq_false (by omega)
        by_cases hin : x ∈ P
        · obtain ⟨j, hj, hPj⟩ := firstIx_present hin
          have HJ : Hid (firstIx P x = (j : Int)) := hj
          have HX : Hid (P[j]? = some x) := hPj
          clear hj hPj hin
          have hcv := conv_bytes
          have hkm : k < maxLen := by unfold maxLen; omega
          go_wp2_with fail
          refine (index_any _ _ _ _ _ _ _ _ hPs (by omega)).mono ?_
          rintro e w' ⟨rfl, hw⟩
          obtain rfl := hw.symm
          rw [HJ.out]
          go_wp2_with fail
          refine (add_any (p := w.heap.size + 1) (b := w.heap.size) (n := k) (f := f) ?_ hxs hkm).mono ?_
          · exact IsMM.heap (w := wr.alloc _) rfl (hmr.alloc _)
          rintro e w3 ⟨rfl, hm3, _, hg3⟩
          have hg3' : wr.grownBy w3 (some w.heap.size) := ((grownBy_drew (World.grownBy_alloc wr _ none)).but _).trans hg3
          have hP3 := hP.kept hg3' (by simpa using hSm)
          have hgw3 : w.grownBy w3 none := hgw.andThen hg3' (fun j hj => by cases hj; exact Or.inl (Nat.le_refl _))
          clear hg3 hg3' hcv
          have HQ : Hid (∀ g s, s ∈ P ↔ (upd f x (some g) s).isSome = true) := fun g => mem_upd_some (g := g) HP.out (fun s => ⟨fun hs => Or.inl hs, fun hs => hs.elim id (fun e => by rw [e]; exact List.mem_of_getElem? HX.out)⟩)
          go_wp2_with fail
          refine (len_any P hm3 HN.out (HQ.out _)).mono ?_
          rintro e w' ⟨rfl, hw⟩
          obtain rfl := hw.symm
          go_wp2_with fail
          refine (get_hit hm3 hxs (upd_same _ _ _)).mono ?_
          rintro e w' ⟨rfl, hw⟩
          obtain rfl := hw.symm
          go_wp2
          go_roundw
          case rel => exact ⟨k + 1, P, _, by omega, by go_num, rfl, hP3, by omega, HN, HQ.out _, hm3, hgw3⟩
          case measure => simp [intOf]; omega
        · have HJ : Hid (firstIx P x = -1) := firstIx_absent hin
          have HX : Hid (x ∉ P) := hin
          clear hin
          have hcv := conv_bytes
          have hkm : k < maxLen := by unfold maxLen; omega
          go_wp2_with fail
          refine (index_any _ _ _ _ _ _ _ _ hPs (by omega)).mono ?_
          rintro e w' ⟨rfl, hw⟩
          obtain rfl := hw.symm
          rw [HJ.out]
          go_wp2_with fail
          refine (add_any (p := w.heap.size + 1) (b := w.heap.size) (n := k) (f := f) ?_ hxs hkm).mono ?_
          · exact IsMM.heap (w := wr.alloc _) rfl (hmr.alloc _)
          rintro e w3 ⟨rfl, hm3, _, hg3⟩
          have hg3' : wr.grownBy w3 (some w.heap.size) := ((grownBy_drew (World.grownBy_alloc wr _ none)).but _).trans hg3
          have hP3 := hP.kept hg3' (by simpa using hSm)
          have hgw3 : w.grownBy w3 none := hgw.andThen hg3' (fun j hj => by cases hj; exact Or.inl (Nat.le_refl _))
          clear hg3 hg3' hcv
          have HQ : Hid (∀ g s, s ∈ P ++ [x] ↔ (upd f x (some g) s).isSome = true) := fun g => mem_upd_some (g := g) HP.out (fun s => by rw [List.mem_append, List.mem_singleton])
          have HQN : Hid (P ++ [x]).Nodup := List.nodup_append.2 ⟨HN.out, by simp, fun a ha b hb e => HX.out (by rw [List.mem_singleton] at hb; rw [← hb, ← e]; exact ha)⟩
          have hPA : Present (w3.alloc (.cells #[.string x] 9)) w1.heap.size n0 P := hP3.kept (World.grownBy_alloc w3 _ none) (by simp)
          have hcA : (w3.alloc (.cells #[.string x] 9)).cell? ⟨w3.heap.size, 0, none⟩ = some (.string x) := by simp
          have hroom : P.length + 1 ≤ n0 := by omega
          go_wp2_with (first
            | (at_builtin; refine wpList_append_present _ rfl _ _ rfl w1.heap.size n0 w3.heap.size P x rfl rfl hPA hcA hroom ?_; intro w4 hP4 hg4))
          have hg4' : w3.grownBy w4 (some w1.heap.size) := (World.grownBy_alloc w3 _ _).trans hg4
          have hm4 := hm3.kept hg4' (by simpa using hSp.symm) (by simpa using hSm.symm)
          have hgw4 : w.grownBy w4 none := hgw3.andThen hg4' (fun j hj => by cases hj; exact Or.inl hwS)
          have hlen : (P ++ [x]).length = P.length + 1 := by simp
          clear hP3 hm3 hg4 hg4' hPA hcA hgw3
          refine (len_any (P ++ [x]) hm4 HQN.out (HQ.out _)).mono ?_
          rintro e w' ⟨rfl, hw⟩
          obtain rfl := hw.symm
          go_wp2_with fail
          refine (get_hit hm4 hxs (upd_same _ _ _)).mono ?_
          rintro e w' ⟨rfl, hw⟩
          obtain rfl := hw.symm
          go_wp2
          go_roundw
          case rel => exact ⟨k + 1, P ++ [x], _, by omega, by go_num, by rw [hlen], hP4, by omega, HQN, HQ.out _, hm4, hgw4⟩
          case measure => simp [intOf]; omega
    · go_wp2
      go_ret
      exact ⟨rfl, below_of_grown hgw⟩

end Go.Proofs.Yoeaow
