/-
  Seat oeao: zzBytes_X, function 18 ('do the lengths sum to at most 1<<20?'): it only reads; where it answers true the sum is bounded. Typed by a script of the prover's own.
-/
import Derived.Test.YoeaowSized
namespace Go.Proofs.Yoeaow
open Go.RowKit
open Go.Proofs.Yoeaow.Pl

set_option maxHeartbeats 1000000 in
theorem sizes18 (a0 : Option Addr) (n0 cap0 b0 off0 : Nat) (s0 : List ByteArray) (a1 : Option Addr) (n1 cap1 : Nat) (w : World) (h0 : StrsAt w a0 n0 b0 off0 s0) (l0 : n0 ≤ 9223372036854775807) (l1 : n1 ≤ 9223372036854775807) :
    Calls Eaog.prog 18 #[.slice a0 n0 cap0, .slice a1 n1 cap1] w fun e w' => Sized ((n0 + total s0) + n1) w e w' := by
  by_cases c0 : 1048576 < n0
  · go_enter Eaog.func18, Eaog.ntmps18
    go_wp2
    go_ret
    exact Sized.no _ _
  · skip
    go_enter Eaog.func18, Eaog.ntmps18
    go_wp2
    go_loop [5, 6] (fun t i => ∃ k : Nat, k ≤ n0 ∧ i = .int .i64 k ∧ t = .int .i64 ((n0 + total (s0.take k) : Nat) : Int) ∧ n0 + total (s0.take k) ≤ 1048576) (fun _ i => n0 - (intOf i).toNat)
    case atStart => exact ⟨0, Nat.zero_le _, rfl, by simp [total], by simp [total]; omega⟩
    case round =>
      obtain ⟨k0, hk0, rfl, rfl, hb0⟩ := hrel
      by_cases hlt0 : k0 < n0
      · obtain ⟨x, hx⟩ := h0.get hlt0
        have hi := h0.idx cap0 hlt0
        have hc := h0.cell k0 x hx
        have HT : Hid (total (s0.take (k0 + 1)) = total (s0.take k0) + x.size) := total_take_succ s0 k0 x hx
        clear hx
        by_cases e1 : 1048576 < x.size
        · go_wp2
          go_ret
          exact Sized.no _ _
        · by_cases e2 : 1048576 < n0 + total (s0.take k0) + x.size
          · go_wp2
            go_ret
            exact Sized.no _ _
          · go_wp2
            go_round
            case rel => exact ⟨k0 + 1, by omega, by go_num, by rw [HT.out]; go_num, by rw [HT.out]; omega⟩
            case measure => simp [intOf]; omega
      · have HE0 : Hid (total (s0.take k0) = total s0) := by unfold Hid; rw [List.take_of_length_le (by rw [h0.len]; omega)]
        by_cases c1 : 1048576 < n1
        · skip
          go_wp2
          go_ret
          exact Sized.no _ _
        · by_cases d1 : 1048576 < n0 + total (s0.take k0) + n1
          · skip
            go_wp2
            go_ret
            exact Sized.no _ _
          · skip
            go_wp2
            go_ret
            exact Sized.yes (by have := HE0.out; omega)

end Go.Proofs.Yoeaow
