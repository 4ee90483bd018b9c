/-
  Seat oeao: THE WALK OF FnCopyHasSameEntries.
-/
import Derived.Test.YoeaowLawKit
import Derived.Test.YoeaowMerge
import Derived.Test.YoeaowSize24
namespace Go.Proofs.Yoeaow
open Go.RowKit
open Go.Proofs.Yoeaow.Pl

set_option maxHeartbeats 400000 in
theorem law5 (a0 : Option Addr) (n0 cap0 b0 off0 : Nat) (s0 : List ByteArray) (a1 : Option Addr) (n1 cap1 b1 off1 : Nat) (s1 : List ByteArray) (s2 : ByteArray) (w : World) (h0 : StrsAt w a0 n0 b0 off0 s0) (h1 : StrsAt w a1 n1 b1 off1 s1) (l0 : n0 ≤ 9223372036854775807) (l1 : n1 ≤ 9223372036854775807) (l2 : s2.size ≤ maxLen) :
    Calls Eaog.prog 5 #[.slice a0 n0 cap0, .slice a1 n1 cap1, .string s2] w fun e w' => e = .returned (.bool true) ∧ Below w.heap.size w w' := by
  unfold maxLen at l2
  go_enter Eaog.func5, Eaog.ntmps5
  go_wp2_with fail
  refine (sizes24 _ _ _ _ _ _ _ _ _ _ _ _ _ _ h0 h1 l0 l1 l2).mono ?_
  rintro e w' ⟨r, rfl, hw, hb⟩
  obtain rfl := hw.symm
  cases r
  · go_wp2
    go_ret
    exact ⟨rfl, Below.refl _ _⟩
  have hb' := hb rfl
  clear hb
  by_cases c0 : 4096 < n0
  · have d0 : decide ((4096 : Int) < (n0 : Int)) = true := decide_eq_true (by omega)
    go_wp2
    go_ret
    exact ⟨rfl, Below.refl _ _⟩
  have d0 : decide ((4096 : Int) < (n0 : Int)) = false := decide_eq_false (by omega)
  by_cases c1 : 4096 < n1
  · have d1 : decide ((4096 : Int) < (n1 : Int)) = true := decide_eq_true (by omega)
    go_wp2
    go_ret
    exact ⟨rfl, Below.refl _ _⟩
  have d1 : decide ((4096 : Int) < (n1 : Int)) = false := decide_eq_false (by omega)
  go_wp2_with fail
  refine (bytes_any _ _ _ _ _ _ _ h0 (by omega)).mono ?_
  rintro e w' ⟨rfl, hw⟩
  obtain rfl := hw.symm
  go_wp2_with fail
  refine (bytes_any _ _ _ _ _ _ _ h1 (by omega)).mono ?_
  rintro e w' ⟨rfl, hw⟩
  obtain rfl := hw.symm
  by_cases ct : 1048576 < (16 * n0 + total s0) + (16 * n1 + total s1) + s2.size
  · go_wp2
    go_ret
    exact ⟨rfl, Below.refl _ _⟩
  have hsz0 : ∀ s ∈ s0, s.size ≤ maxLen := fun s hs => by have := size_le_total hs; unfold maxLen; omega
  have hszp : s2.size ≤ maxLen := by unfold maxLen; omega
  go_wp2_with fail
  refine (build_any _ _ _ _ _ _ _ _ _ _ _ _ _ h0 h1 (by omega) (by omega) hsz0).mono ?_
  rintro e w1 ⟨rfl, f, hmm, hbt, hg⟩
  have hcw := Cells.grown hg
  go_wp2_with fail
  refine (copy_any hmm (by unfold maxLen; omega)).mono ?_
  rintro e w2 ⟨rfl, hcc, hg2⟩
  have hm2 : IsMM w2 (w.heap.size + 1) w.heap.size n0 f := hmm.kept hg2 (by simp) (by simp)
  have hcw2 := hcw.trans (Cells.grown hg2)
  have h02 : StrsAt w2 a0 n0 b0 off0 s0 := h0.cells hcw2
  have hpq : w1.heap.size + 1 ≠ w.heap.size + 1 := by have := hmm.plt; omega
  have heq := eql_other25 hcc hm2 hpq
  go_wp2_with fail
  refine (len_built hcc hbt).mono ?_
  rintro e w3 ⟨rfl, hw3⟩
  obtain rfl := hw3.symm
  go_wp2_with fail
  refine (len_built hm2 hbt).mono ?_
  rintro e w3 ⟨rfl, hw3⟩
  obtain rfl := hw3.symm
  go_wp2
  go_loop [9] (fun i => ∃ k : Nat, k ≤ n0 ∧ i = .int .i64 k) (fun i => n0 - (intOf i).toNat)
  case atStart => exact ⟨0, Nat.zero_le _, rfl⟩
  case round =>
    obtain ⟨k, hk, rfl⟩ := hrel
    by_cases hlt : k < n0
    · obtain ⟨x, hx⟩ := h02.get hlt
      have hi := h02.idx cap0 hlt
      have hc := h02.cell k x hx
      have hxm := List.mem_of_getElem? hx
      have hxs := hsz0 x hxm
      obtain ⟨g, hfx, _, _⟩ := hbt.yes x hxm
      have HF : Hid (f x = some g) := hfx
      have hnq := neq_same29 g w2
      clear hfx hx hsz0 hb' ct heq
      go_wp2_with fail
      refine (get_hit hm2 hxs HF.out).mono ?_
      rintro e w3 ⟨rfl, hw3⟩
      obtain rfl := hw3.symm
      go_wp2_with fail
      refine (get_hit hcc hxs HF.out).mono ?_
      rintro e w3 ⟨rfl, hw3⟩
      obtain rfl := hw3.symm
      go_wp2
      go_round
      case rel => exact ⟨k + 1, by omega, by go_num⟩
      case measure => simp [intOf]; omega
    · by_cases hl : lastIx s0 s2 < 0
      · have hd : decide (lastIx s0 s2 < 0) = true := decide_eq_true hl
        have hno := hbt.no s2 (lastIx_neg.1 hl)
        have HN : Hid (f s2 = none) := hno
        clear hno
        go_wp2_with fail
        refine (last_any _ _ _ _ _ _ _ _ h02 (by omega)).mono ?_
        rintro e w3 ⟨rfl, hw3⟩
        obtain rfl := hw3.symm
        go_wp2_with fail
        refine (get_miss hcc hszp HN.out).mono ?_
        rintro e w3 ⟨rfl, hw3⟩
        obtain rfl := hw3.symm
        go_wp2
        go_ret
        exact ⟨rfl, below_of_grown (hg.trans hg2)⟩
      · have hd : decide (lastIx s0 s2 < 0) = false := decide_eq_false hl
        go_wp2_with fail
        refine (last_any _ _ _ _ _ _ _ _ h02 (by omega)).mono ?_
        rintro e w3 ⟨rfl, hw3⟩
        obtain rfl := hw3.symm
        go_wp2
        go_ret
        exact ⟨rfl, below_of_grown (hg.trans hg2)⟩

end Go.Proofs.Yoeaow
