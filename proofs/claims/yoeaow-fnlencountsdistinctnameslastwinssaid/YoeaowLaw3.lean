/-
  Seat oeao: THE WALK OF FnLenCountsDistinctNamesLastWins.
-/
import Derived.Test.YoeaowLawKit
import Derived.Test.YoeaowSize10
namespace Go.Proofs.Yoeaow
open Go.RowKit
open Go.Proofs.Yoeaow.Pl

set_option maxHeartbeats 400000 in
theorem law3 (a0 : Option Addr) (n0 cap0 b0 off0 : Nat) (names : List ByteArray) (a1 : Option Addr) (n1 cap1 b1 off1 : Nat) (srcs : List ByteArray) (w : World) (h0 : StrsAt w a0 n0 b0 off0 names) (h1 : StrsAt w a1 n1 b1 off1 srcs)
    (l0 : n0 ≤ 9223372036854775807) (l1 : n1 ≤ 9223372036854775807) :
    Calls Eaog.prog 3 #[.slice a0 n0 cap0, .slice a1 n1 cap1] w fun e w' => e = .returned (.bool true) ∧ Below w.heap.size w w' := by
  go_enter Eaog.func3, Eaog.ntmps3
  go_wp2_with fail
  refine (sizes10 _ _ _ _ _ _ _ _ _ _ _ _ _ h0 h1 l0 l1).mono ?_
  rintro e w' ⟨r, rfl, rfl, hb⟩
  cases r
  · go_wp2
    go_ret
    exact ⟨rfl, Below.refl _ _⟩
  have hb' := hb rfl
  clear hb
  by_cases c0 : 4096 < n0
  · have d0 : decide ((4096 : Int) < (n0 : Int)) = true := decide_eq_true (by omega)
    go_wp2
    go_ret
    exact ⟨rfl, Below.refl _ _⟩
  have d0 : decide ((4096 : Int) < (n0 : Int)) = false := decide_eq_false (by omega)
  by_cases c1 : 4096 < n1
  · have d1 : decide ((4096 : Int) < (n1 : Int)) = true := decide_eq_true (by omega)
    go_wp2
    go_ret
    exact ⟨rfl, Below.refl _ _⟩
  have d1 : decide ((4096 : Int) < (n1 : Int)) = false := decide_eq_false (by omega)
  go_wp2_with fail
  refine (bytes_any _ _ _ _ _ _ _ h0 (by omega)).mono ?_
  rintro e w2 ⟨rfl, rfl⟩
  go_wp2_with fail
  refine (bytes_any _ _ _ _ _ _ _ h1 (by omega)).mono ?_
  rintro e w3 ⟨rfl, rfl⟩
  by_cases c2 : 1048576 < (16 * n0 + total names) + (16 * n1 + total srcs)
  · go_wp2
    go_ret
    exact ⟨rfl, Below.refl _ _⟩
  have hsz : ∀ s ∈ names, s.size ≤ maxLen := fun s hs => by have := size_le_total hs; unfold maxLen; omega
  go_wp2_with fail
  refine (build_any _ _ _ _ _ _ _ _ _ _ _ _ _ h0 h1 (by omega) (by omega) hsz).mono ?_
  rintro e w4 ⟨rfl, f, hmm, hbt, hg⟩
  have hcw := Cells.grown hg
  go_wp2_with fail
  refine (len_built hmm hbt).mono ?_
  rintro e w5 ⟨rfl, rfl⟩
  go_wp2_with fail
  refine (distinct_any _ _ _ _ _ _ _ (h0.cells hcw) (by omega)).mono ?_
  rintro e w6 ⟨rfl, rfl⟩
  go_wp2
  go_loopw [6] (fun i wr => ∃ k : Nat, k ≤ n0 ∧ i = .int .i64 k ∧ Calm w6 wr) (fun i _ => n0 - (intOf i).toNat)
  case atStart => exact ⟨0, Nat.zero_le _, rfl, Calm.refl _⟩
  case round =>
    obtain ⟨k, hk, rfl, hcm⟩ := hrel
    have hcr := hcw.trans hcm.cells
    have h0r : StrsAt wr a0 n0 b0 off0 names := h0.cells hcr
    have h1r : StrsAt wr a1 n1 b1 off1 srcs := h1.cells hcr
    by_cases hlt : k < n0
    · obtain ⟨x, hx⟩ := h0r.get hlt
      have hi := h0r.idx cap0 hlt
      have hc := h0r.cell k x hx
      have hxm := List.mem_of_getElem? hx
      have hxs := hsz x hxm
      obtain ⟨g, hfx, hgB, b, cap, hgc, hgs⟩ := (hbt.carry hcm.cells).yes x hxm
      have hcv := conv_string (cap := cap) hgs
      have HF : Hid (f x = some g) := hfx
      clear hgs hfx hx hsz hb' c2
      go_wp2_with fail
      refine (last_any a0 n0 cap0 b0 off0 names x _ h0r (by omega)).mono ?_
      rintro e w7 ⟨rfl, hw7⟩
      obtain rfl := hw7.symm
      go_wp2_with fail
      refine (get_hit (hmm.calm hcm) hxs HF.out).mono ?_
      rintro e w8 ⟨rfl, hw8⟩
      obtain rfl := hw8.symm
      go_wp2_with fail
      go_quiet ((go_at_call 17; refine Calls.quiet_of_same (srcAt_any a1 n1 cap1 b1 off1 srcs _ _ ?_ (by omega)); exact h1r.cells (Cells.heap rfl)))
      go_wp2
      go_roundw
      case rel => exact ⟨k + 1, by omega, by go_num, hcm.drewN _⟩
      case measure => simp [intOf]; omega
    · go_wp2
      go_ret
      exact ⟨rfl, below_calm hg hcm⟩

end Go.Proofs.Yoeaow
