/-
  Seat oeao: zzBytes_X, function 26 ('do the lengths sum to at most 1<<20?'): it only reads; where it answers true the sum is bounded. Typed by a script of the prover's own.
-/
import Derived.Test.YoeaowSized
namespace Go.Proofs.Yoeaow
open Go.RowKit
open Go.Proofs.Yoeaow.Pl

set_option maxHeartbeats 1000000 in
theorem sizes26 (a0 : Option Addr) (n0 cap0 b0 off0 : Nat) (s0 : List ByteArray) (a1 : Option Addr) (n1 cap1 b1 off1 : Nat) (s1 : List ByteArray) (a2 : Option Addr) (n2 cap2 b2 off2 : Nat) (s2 : List ByteArray) (w : World) (h0 : StrsAt w a0 n0 b0 off0 s0) (h1 : StrsAt w a1 n1 b1 off1 s1) (h2 : StrsAt w a2 n2 b2 off2 s2) (l0 : n0 ≤ 9223372036854775807) (l1 : n1 ≤ 9223372036854775807) (l2 : n2 ≤ 9223372036854775807) :
    Calls Eaog.prog 26 #[.slice a0 n0 cap0, .slice a1 n1 cap1, .slice a2 n2 cap2] w fun e w' => Sized ((n0 + total s0) + (n1 + total s1) + (n2 + total s2)) w e w' := by
  by_cases c0 : 1048576 < n0
  · go_enter Eaog.func26, Eaog.ntmps26
    go_wp2
    go_ret
    exact Sized.no _ _
  · skip
    go_enter Eaog.func26, Eaog.ntmps26
    go_wp2
    go_loop [7, 8] (fun t i => ∃ k : Nat, k ≤ n0 ∧ i = .int .i64 k ∧ t = .int .i64 ((n0 + total (s0.take k) : Nat) : Int) ∧ n0 + total (s0.take k) ≤ 1048576) (fun _ i => n0 - (intOf i).toNat)
    case atStart => exact ⟨0, Nat.zero_le _, rfl, by simp [total], by simp [total]; omega⟩
    case round =>
      obtain ⟨k0, hk0, rfl, rfl, hb0⟩ := hrel
      by_cases hlt0 : k0 < n0
      · obtain ⟨x, hx⟩ := h0.get hlt0
        have hi := h0.idx cap0 hlt0
        have hc := h0.cell k0 x hx
        have HT : Hid (total (s0.take (k0 + 1)) = total (s0.take k0) + x.size) := total_take_succ s0 k0 x hx
        clear hx
        by_cases e1 : 1048576 < x.size
        · go_wp2
          go_ret
          exact Sized.no _ _
        · by_cases e2 : 1048576 < n0 + total (s0.take k0) + x.size
          · go_wp2
            go_ret
            exact Sized.no _ _
          · go_wp2
            go_round
            case rel => exact ⟨k0 + 1, by omega, by go_num, by rw [HT.out]; go_num, by rw [HT.out]; omega⟩
            case measure => simp [intOf]; omega
      · have HE0 : Hid (total (s0.take k0) = total s0) := by unfold Hid; rw [List.take_of_length_le (by rw [h0.len]; omega)]
        by_cases c1 : 1048576 < n1
        · skip
          go_wp2
          go_ret
          exact Sized.no _ _
        · by_cases d1 : 1048576 < n0 + total (s0.take k0) + n1
          · skip
            go_wp2
            go_ret
            exact Sized.no _ _
          · skip
            go_wp2
            go_loop [7, 9] (fun t i => ∃ k : Nat, k ≤ n1 ∧ i = .int .i64 k ∧ t = .int .i64 ((n0 + total (s0.take k0) + n1 + total (s1.take k) : Nat) : Int) ∧ n0 + total (s0.take k0) + n1 + total (s1.take k) ≤ 1048576) (fun _ i => n1 - (intOf i).toNat)
            case atStart => exact ⟨0, Nat.zero_le _, rfl, by simp [total], by simp [total]; omega⟩
            case round =>
              obtain ⟨k1, hk1, rfl, rfl, hb1⟩ := hrel
              by_cases hlt1 : k1 < n1
              · obtain ⟨x, hx⟩ := h1.get hlt1
                have hi := h1.idx cap1 hlt1
                have hc := h1.cell k1 x hx
                have HT : Hid (total (s1.take (k1 + 1)) = total (s1.take k1) + x.size) := total_take_succ s1 k1 x hx
                clear hx
                by_cases e1 : 1048576 < x.size
                · go_wp2
                  go_ret
                  exact Sized.no _ _
                · by_cases e2 : 1048576 < n0 + total (s0.take k0) + n1 + total (s1.take k1) + x.size
                  · go_wp2
                    go_ret
                    exact Sized.no _ _
                  · go_wp2
                    go_round
                    case rel => exact ⟨k1 + 1, by omega, by go_num, by rw [HT.out]; go_num, by rw [HT.out]; omega⟩
                    case measure => simp [intOf]; omega
              · have HE1 : Hid (total (s1.take k1) = total s1) := by unfold Hid; rw [List.take_of_length_le (by rw [h1.len]; omega)]
                by_cases c2 : 1048576 < n2
                · skip
                  go_wp2
                  go_ret
                  exact Sized.no _ _
                · by_cases d2 : 1048576 < n0 + total (s0.take k0) + n1 + total (s1.take k1) + n2
                  · skip
                    go_wp2
                    go_ret
                    exact Sized.no _ _
                  · skip
                    go_wp2
                    go_loop [7, 10] (fun t i => ∃ k : Nat, k ≤ n2 ∧ i = .int .i64 k ∧ t = .int .i64 ((n0 + total (s0.take k0) + n1 + total (s1.take k1) + n2 + total (s2.take k) : Nat) : Int) ∧ n0 + total (s0.take k0) + n1 + total (s1.take k1) + n2 + total (s2.take k) ≤ 1048576) (fun _ i => n2 - (intOf i).toNat)
                    case atStart => exact ⟨0, Nat.zero_le _, rfl, by simp [total], by simp [total]; omega⟩
                    case round =>
                      obtain ⟨k2, hk2, rfl, rfl, hb2⟩ := hrel
                      by_cases hlt2 : k2 < n2
                      · obtain ⟨x, hx⟩ := h2.get hlt2
                        have hi := h2.idx cap2 hlt2
                        have hc := h2.cell k2 x hx
                        have HT : Hid (total (s2.take (k2 + 1)) = total (s2.take k2) + x.size) := total_take_succ s2 k2 x hx
                        clear hx
                        by_cases e1 : 1048576 < x.size
                        · go_wp2
                          go_ret
                          exact Sized.no _ _
                        · by_cases e2 : 1048576 < n0 + total (s0.take k0) + n1 + total (s1.take k1) + n2 + total (s2.take k2) + x.size
                          · go_wp2
                            go_ret
                            exact Sized.no _ _
                          · go_wp2
                            go_round
                            case rel => exact ⟨k2 + 1, by omega, by go_num, by rw [HT.out]; go_num, by rw [HT.out]; omega⟩
                            case measure => simp [intOf]; omega
                      · have HE2 : Hid (total (s2.take k2) = total s2) := by unfold Hid; rw [List.take_of_length_le (by rw [h2.len]; omega)]
                        go_wp2
                        go_ret
                        exact Sized.yes (by have := HE0.out; have := HE1.out; have := HE2.out; omega)

end Go.Proofs.Yoeaow
