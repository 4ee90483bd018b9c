/-
  Seat oeao: THE WALK OF FnImportOfMapEntryGivesAddedSource.
-/
import Derived.Test.YoeaowLawKit
import Derived.Test.YoeaowMerge
import Derived.Test.YoeaowSize31
namespace Go.Proofs.Yoeaow
open Go.RowKit
open Go.Proofs.Yoeaow.Pl

theorem assert_any (v : Value) (w : World) : (Instr.typeAssert (.iface 31 v) 20 31 true).run Eaog.prog w = .ok (.tuple #[v, .bool true]) w := by kernel_rfl

/-! ### (*SourceModule).Import, ZZImportBytes -/
theorem import_any {w : World} {g : Nat} {a : Option Addr} {l c : Nat} (s : ByteArray) (hc : w.cell? ⟨g, 0, none⟩ = some (.slice a l c)) :
    Calls Eaog.prog 33 #[.pointer (some ⟨g, 0, none⟩), .string s] w fun e w' => e = .returned (.tuple #[.iface 31 (.slice a l c), .nilIface]) ∧ w' = w := by
  go_enter Eaog.func33, Eaog.ntmps33
  go_wp2
  go_ret2
  exact ⟨rfl, rfl⟩

theorem zzimport_any {w : World} {g : Nat} {a : Option Addr} {l c : Nat} (s : ByteArray) (hc : w.cell? ⟨g, 0, none⟩ = some (.slice a l c)) :
    Calls Eaog.prog 32 #[.pointer (some ⟨g, 0, none⟩), .string s] w fun e w' => e = .returned (.tuple #[.slice a l c, .bool true]) ∧ Calm w w' := by
  have ha := assert_any (.slice a l c)
  go_enter Eaog.func32, Eaog.ntmps32
  go_wp2_with (go_at_call 33; refine (import_any s hc).mono ?_; rintro e w' ⟨rfl, hw⟩; obtain rfl := hw.symm)
  go_quiet (fail)
  go_wp2
  go_ret2
  exact ⟨rfl, (Calm.refl _).drewN _⟩

set_option maxHeartbeats 400000 in
theorem walk9 (a0 : Option Addr) (n0 cap0 b0 off0 : Nat) (s0 : List ByteArray) (a1 : Option Addr) (n1 cap1 b1 off1 : Nat) (s1 : List ByteArray) (s2 : ByteArray) (w : World) (h0 : StrsAt w a0 n0 b0 off0 s0) (h1 : StrsAt w a1 n1 b1 off1 s1) (l0 : n0 ≤ 9223372036854775807) (l1 : n1 ≤ 9223372036854775807) (l2 : s2.size ≤ maxLen) :
    Calls Eaog.prog 9 #[.slice a0 n0 cap0, .slice a1 n1 cap1, .string s2] w fun e w' => e = .returned (.bool true) ∧ Below w.heap.size w w' := by
  unfold maxLen at l2
  go_enter Eaog.func9, Eaog.ntmps9
  go_wp2_with fail
  refine (sizes31 _ _ _ _ _ _ _ _ _ _ _ _ _ _ h0 h1 l0 l1 l2).mono ?_
  rintro e w' ⟨r, rfl, hw, hb⟩
  obtain rfl := hw.symm
  cases r
  · go_wp2
    go_ret
    exact ⟨rfl, Below.refl _ _⟩
  have hb' := hb rfl
  clear hb
  by_cases c0 : 4096 < n0
  · have d0 : decide ((4096 : Int) < (n0 : Int)) = true := decide_eq_true (by omega)
    go_wp2
    go_ret
    exact ⟨rfl, Below.refl _ _⟩
  have d0 : decide ((4096 : Int) < (n0 : Int)) = false := decide_eq_false (by omega)
  by_cases c1 : 4096 < n1
  · have d1 : decide ((4096 : Int) < (n1 : Int)) = true := decide_eq_true (by omega)
    go_wp2
    go_ret
    exact ⟨rfl, Below.refl _ _⟩
  have d1 : decide ((4096 : Int) < (n1 : Int)) = false := decide_eq_false (by omega)
  go_wp2_with fail
  refine (bytes_any _ _ _ _ _ _ _ h0 (by omega)).mono ?_
  rintro e w' ⟨rfl, hw⟩
  obtain rfl := hw.symm
  go_wp2_with fail
  refine (bytes_any _ _ _ _ _ _ _ h1 (by omega)).mono ?_
  rintro e w' ⟨rfl, hw⟩
  obtain rfl := hw.symm
  by_cases ct : 1048576 < (16 * n0 + total s0) + (16 * n1 + total s1) + s2.size
  · go_wp2
    go_ret
    exact ⟨rfl, Below.refl _ _⟩
  have hsz0 : ∀ s ∈ s0, s.size ≤ maxLen := fun s hs => by have := size_le_total hs; unfold maxLen; omega
  go_wp2_with fail
  refine (build_any _ _ _ _ _ _ _ _ _ _ _ _ _ h0 h1 (by omega) (by omega) hsz0).mono ?_
  rintro e w1 ⟨rfl, f, hmm, hbt, hg⟩
  have hcw := Cells.grown hg
  go_wp2_with fail
  refine (copy_any hmm (by unfold maxLen; omega)).mono ?_
  rintro e w2 ⟨rfl, hcc, hg2⟩
  have hcw2 := hcw.trans (Cells.grown hg2)
  have hbt2 := hbt.carry (Cells.grown hg2)
  have hgg := hg.trans hg2
  clear hbt hmm hg hg2 hcw
  go_wp2
  go_loopw [9] (fun i wr => ∃ k : Nat, k ≤ n0 ∧ i = .int .i64 k ∧ Calm w2 wr) (fun i _ => n0 - (intOf i).toNat)
  case atStart => exact ⟨0, Nat.zero_le _, rfl, Calm.refl _⟩
  case round =>
    obtain ⟨k, hk, rfl, hcm⟩ := hrel
    have hcr := hcw2.trans hcm.cells
    have h0r : StrsAt wr a0 n0 b0 off0 s0 := h0.cells hcr
    have h1r : StrsAt wr a1 n1 b1 off1 s1 := h1.cells hcr
    by_cases hlt : k < n0
    · obtain ⟨x, hx⟩ := h0r.get hlt
      have hi := h0r.idx cap0 hlt
      have hc := h0r.cell k x hx
      have hxm := List.mem_of_getElem? hx
      have hxs := hsz0 x hxm
      obtain ⟨g, hfx, hgB, b, cap, hgc, hgs⟩ := (hbt2.carry hcm.cells).yes x hxm
      have HF : Hid (f x = some g) := hfx
      have HS : Hid (∀ (j : Nat) (hj : j < (srcAt s1 (lastIx s0 x)).data.size), wr.cell? ⟨b, j, none⟩ = some (.int .u8 ((srcAt s1 (lastIx s0 x)).data[j].toNat : Int))) := hgs
      clear hgs hfx hx hsz0 hb' ct
      go_wp2_with fail
      refine (get_hit (hcc.calm hcm) hxs HF.out).mono ?_
      rintro e w8 ⟨rfl, hw8⟩
      obtain rfl := hw8.symm
      go_wp2_with fail
      refine (zzimport_any s2 hgc).mono ?_
      rintro e w9 ⟨rfl, hc9⟩
      have h0q : StrsAt w9 a0 n0 b0 off0 s0 := h0r.cells hc9.cells
      have h1q : StrsAt w9 a1 n1 b1 off1 s1 := h1r.cells hc9.cells
      have hcq := h0q.cell
      have hcx := hc9.cells _ _ hc
      have hcv := conv_string (w := w9) (cap := cap) (fun j hj => hc9.cells _ _ (HS.out j hj))
      clear hcq HS
      go_wp2_with fail
      go_quiet ((first | (go_at_call 15; refine Calls.quiet_of_same (last_any a0 n0 cap0 b0 off0 s0 x _ ?_ (by omega)); exact h0q.cells (Cells.heap rfl)) | (go_at_call 17; refine Calls.quiet_of_same (srcAt_any a1 n1 cap1 b1 off1 s1 _ _ ?_ (by omega)); exact h1q.cells (Cells.heap rfl))))
      go_wp2
      go_roundw
      case rel => exact ⟨k + 1, by omega, by go_num, (hcm.trans hc9).drewN _⟩
      case measure => simp [intOf]; omega
    · go_wp2
      go_ret
      exact ⟨rfl, below_calm hgg hcm⟩

end Go.Proofs.Yoeaow
