/-
  Seat oeao: A []string THAT CAME IN ('StrsAt'), AND THE WALKS OF THE LAWS' OWN HELPERS THAT ONLY READ: zzBytes, zzLast, zzIndex, zzSrcAt, zzDistinct, zzUnion.
-/
import Derived.Test.YoeaowProg
import Derived.Test.YoeaowPlain
import Derived.WalkKit
import Derived.WalkSpells
import Derived.WalkLawsBesides
namespace Go.Proofs.Yoeaow
open Go.RowKit
open Go.Proofs.Yoeaow.Pl

/-- A SLICE OF STRINGS: n of them, 'ss'; where there is one, they lie from offset 'off' on in block b. (nil, empty, or not: one word for all.) -/
structure StrsAt (w : World) (a : Option Addr) (n b off : Nat) (ss : List ByteArray) : Prop where
  len : ss.length = n
  addr : 0 < n → a = some ⟨b, off, none⟩
  cell : ∀ (k : Nat) (x : ByteArray), ss[k]? = some x → w.cell? ⟨b, off + k, none⟩ = some (.string x)

theorem StrsAt.get {w : World} {a : Option Addr} {n b off : Nat} {ss : List ByteArray} (h : StrsAt w a n b off ss) {k : Nat} (hk : k < n) : ∃ x, ss[k]? = some x :=
  ⟨ss[k]'(by rw [h.len]; exact hk), List.getElem?_eq_getElem _⟩

theorem StrsAt.idx {w : World} {a : Option Addr} {n b off : Nat} {ss : List ByteArray} (h : StrsAt w a n b off ss) (cap : Nat) {k : Nat} (hk : k < n) (w' : World) :
    (Instr.indexAt 22 (.slice a n cap) (.int .i64 (k : Int))).run Eaog.prog w' = .ok (.pointer (some ⟨b, off + k, none⟩)) w' := by
  have e : (sizeOf (Eaog.prog.elem 22)).run Eaog.prog w' = .ok 1 w' := by kernel_rfl
  rw [h.addr (by omega), run_indexAt_slice (h := by kernel_rfl), if_pos (by omega), e]
  simp [Result.andThen, Addr.add]

/-- What lies in the cells is all that it asks of the world. -/
theorem StrsAt.carry {w w' : World} {a : Option Addr} {n b off : Nat} {ss : List ByteArray} (h : StrsAt w a n b off ss) (hc : ∀ (k : Nat) (x : ByteArray), ss[k]? = some x → w'.cell? ⟨b, off + k, none⟩ = w.cell? ⟨b, off + k, none⟩) : StrsAt w' a n b off ss :=
  ⟨h.len, h.addr, fun k x hx => (hc k x hx).trans (h.cell k x hx)⟩

theorem lt_of_cell {w : World} {a : Addr} {v : Value} (h : w.cell? a = some v) : a.block < w.heap.size := by
  rcases Nat.lt_or_ge a.block w.heap.size with h' | h'
  · exact h'
  · simp [World.cell?, Array.getElem?_eq_none h'] at h

theorem StrsAt.below {w w' : World} {a : Option Addr} {n b off : Nat} {ss : List ByteArray} (h : StrsAt w a n b off ss) (hb : Below w.heap.size w w') : StrsAt w' a n b off ss :=
  h.carry fun k x hx => hb.cell (p := ⟨b, off + k, none⟩) (lt_of_cell (h.cell k x hx))

theorem beq_str_true {x s : ByteArray} (h : x = s) : (x.toList == s.toList) = true := by rw [h]; simp
theorem beq_str_false {x s : ByteArray} (h : x ≠ s) : (x.toList == s.toList) = false := by
  rw [beq_eq_false_iff_ne]
  intro e
  rw [ByteArray.toList_eq, ByteArray.toList_eq] at e
  exact h (ByteArray.ext (Array.toList_inj.1 e))

theorem ret_int {k : IntKind} {a b : Int} (h : a = b) : Ending.returned (.int k a) = .returned (.int k b) := by rw [h]

/-! ### zzBytes -/
theorem bytes_any (a : Option Addr) (n cap b off : Nat) (ss : List ByteArray) (w : World) (hs : StrsAt w a n b off ss) (hn : n + total ss ≤ 1048576) :
    Calls Eaog.prog 11 #[.slice a n cap] w fun e w' => e = .returned (.int .i64 ((16 * n + total ss : Nat) : Int)) ∧ w' = w := by
  go_enter Eaog.func11, Eaog.ntmps11
  go_wp2
  go_loop [3, 4] (fun t i => ∃ k : Nat, k ≤ n ∧ i = .int .i64 k ∧ t = .int .i64 ((16 * n + total (ss.take k) : Nat) : Int)) (fun _ i => n - (intOf i).toNat)
  case atStart => exact ⟨0, Nat.zero_le _, rfl, by simp [total]⟩
  case round =>
    obtain ⟨k, hk, rfl, rfl⟩ := hrel
    have hle : total (ss.take k) ≤ total ss := by
      have := total_append (ss.take k) (ss.drop k)
      rw [List.take_append_drop] at this
      omega
    by_cases hlt : k < n
    · obtain ⟨x, hx⟩ := hs.get hlt
      have hi := hs.idx cap hlt
      have hc := hs.cell k x hx
      have hsz := size_le_total (List.mem_of_getElem? hx)
      have HT : Hid (total (ss.take (k + 1)) = total (ss.take k) + x.size) := total_take_succ ss k x hx
      clear hx
      go_wp2
      go_round
      case rel => exact ⟨k + 1, by omega, by go_num, by rw [HT.out]; go_num⟩
      case measure => simp [intOf]; omega
    · go_wp2
      go_ret
      exact ⟨ret_int (by rw [List.take_of_length_le (by rw [hs.len]; omega)]), rfl⟩

/-! ### zzLast -/
theorem last_any (a : Option Addr) (n cap b off : Nat) (ss : List ByteArray) (s : ByteArray) (w : World) (hs : StrsAt w a n b off ss) (hn : n ≤ 1048576) :
    Calls Eaog.prog 15 #[.slice a n cap, .string s] w fun e w' => e = .returned (.int .i64 (lastIx ss s)) ∧ w' = w := by
  go_enter Eaog.func15, Eaog.ntmps15
  go_wp2
  go_loop [5, 6] (fun t i => ∃ k : Nat, k ≤ n ∧ i = .int .i64 k ∧ t = .int .i64 (lastIx (ss.take k) s)) (fun _ i => n - (intOf i).toNat)
  case atStart => exact ⟨0, Nat.zero_le _, rfl, rfl⟩
  case round =>
    obtain ⟨k, hk, rfl, rfl⟩ := hrel
    by_cases hlt : k < n
    · obtain ⟨x, hx⟩ := hs.get hlt
      have hi := hs.idx cap hlt
      have hc := hs.cell k x hx
      have HT : Hid (lastIx (ss.take (k + 1)) s = if x = s then (k : Int) else lastIx (ss.take k) s) := lastIx_take_succ ss s k x hx
      clear hx
      by_cases hxs : x = s
      · have hb := beq_str_true hxs
        have HX : Hid (x = s) := hxs
        clear hxs
        go_wp2
        go_round
        case rel => exact ⟨k + 1, by omega, by go_num, by rw [HT.out, if_pos HX.out]⟩
        case measure => simp [intOf]; omega
      · have hb := beq_str_false hxs
        go_wp2
        go_round
        case rel => exact ⟨k + 1, by omega, by go_num, by rw [HT.out, if_neg hxs]⟩
        case measure => simp [intOf]; omega
    · go_wp2
      go_ret
      exact ⟨ret_int (by rw [List.take_of_length_le (by rw [hs.len]; omega)]), rfl⟩

/-! ### zzIndex -/
theorem index_any (a : Option Addr) (n cap b off : Nat) (ss : List ByteArray) (s : ByteArray) (w : World) (hs : StrsAt w a n b off ss) (hn : n ≤ 1048576) :
    Calls Eaog.prog 20 #[.slice a n cap, .string s] w fun e w' => e = .returned (.int .i64 (firstIx ss s)) ∧ w' = w := by
  go_enter Eaog.func20, Eaog.ntmps20
  go_wp2
  go_loop [5] (fun i => ∃ k : Nat, k ≤ n ∧ i = .int .i64 k ∧ ∀ j, j < k → ss[j]? ≠ some s) (fun i => n - (intOf i).toNat)
  case atStart => exact ⟨0, Nat.zero_le _, rfl, fun j hj => by omega⟩
  case round =>
    obtain ⟨k, hk, rfl, hno⟩ := hrel
    have HN : Hid (∀ j, j < k → ss[j]? ≠ some s) := hno
    clear hno
    by_cases hlt : k < n
    · obtain ⟨x, hx⟩ := hs.get hlt
      have hi := hs.idx cap hlt
      have hc := hs.cell k x hx
      have HT : Hid (ss[k]? = some x) := hx
      clear hx
      by_cases hxs : x = s
      · have hb := beq_str_true hxs
        have HX : Hid (x = s) := hxs
        clear hxs
        go_wp2
        go_ret
        exact ⟨ret_int (firstIx_at HN.out (by rw [HT.out, HX.out])).symm, rfl⟩
      · have hb := beq_str_false hxs
        go_wp2
        go_round
        case rel =>
          refine ⟨k + 1, by omega, by go_num, fun j hj => ?_⟩
          by_cases e : j = k
          · rw [e, HT.out]; exact fun h => hxs (Option.some.inj h)
          · exact HN.out j (by omega)
        case measure => simp [intOf]; omega
    · go_wp2
      go_ret
      refine ⟨ret_int (firstIx_absent (fun hm => ?_)).symm, rfl⟩
      obtain ⟨j, hj⟩ := List.mem_iff_getElem?.1 hm
      exact HN.out j (by have := (List.getElem?_eq_some_iff.1 hj).1; rw [hs.len] at this; omega) hj

/-! ### zzSrcAt -/
theorem srcAt_any (a : Option Addr) (n cap b off : Nat) (ss : List ByteArray) (i : Int) (w : World) (hs : StrsAt w a n b off ss) (_hn : n ≤ 1048576) :
    Calls Eaog.prog 17 #[.slice a n cap, .int .i64 i] w fun e w' => e = .returned (.string (srcAt ss i)) ∧ w' = w := by
  by_cases h0 : i < 0
  · have HV : Hid (srcAt ss i = ByteArray.empty) := by unfold srcAt; exact if_pos h0
    have hd : decide (i < 0) = true := decide_eq_true h0
    go_enter Eaog.func17, Eaog.ntmps17
    go_wp2
    go_ret
    exact ⟨by rw [HV.out]; rfl, rfl⟩
  · obtain ⟨k, rfl⟩ := Int.eq_ofNat_of_zero_le (show 0 ≤ i by omega)
    have hd : decide ((k : Int) < 0) = false := decide_eq_false h0
    by_cases hlt : k < n
    · obtain ⟨x, hx⟩ := hs.get hlt
      have hi := hs.idx cap hlt
      have hc := hs.cell k x hx
      have HV : Hid (srcAt ss (k : Int) = x) := by
        unfold Hid srcAt
        rw [if_neg h0, Int.toNat_natCast, List.getD_eq_getElem?_getD, hx]; rfl
      clear hx
      have hg : ¬ (n : Int) ≤ (k : Int) := by omega
      go_enter Eaog.func17, Eaog.ntmps17
      go_wp2
      go_ret
      exact ⟨by rw [HV.out]; rfl, rfl⟩
    · have HV : Hid (srcAt ss (k : Int) = ByteArray.empty) := by
        unfold Hid srcAt
        rw [if_neg h0, Int.toNat_natCast, List.getD_eq_getElem?_getD, List.getElem?_eq_none (by rw [hs.len]; omega)]; rfl
      have hg : (n : Int) ≤ (k : Int) := by omega
      go_enter Eaog.func17, Eaog.ntmps17
      go_wp2
      go_ret
      exact ⟨by rw [HV.out]; rfl, rfl⟩

/-! ### zzDistinct -/
theorem distinct_any (a : Option Addr) (n cap b off : Nat) (ss : List ByteArray) (w : World) (hs : StrsAt w a n b off ss) (hn : n ≤ 1048576) :
    Calls Eaog.prog 14 #[.slice a n cap] w fun e w' => e = .returned (.int .i64 (distinctN ss : Nat)) ∧ w' = w := by
  go_enter Eaog.func14, Eaog.ntmps14
  go_wp2
  go_loop [3, 4] (fun t i => ∃ k : Nat, k ≤ n ∧ i = .int .i64 k ∧ t = .int .i64 ((cntF (isLast ss yes) k : Nat) : Int)) (fun _ i => n - (intOf i).toNat)
  case atStart => exact ⟨0, Nat.zero_le _, rfl, rfl⟩
  case round =>
    obtain ⟨k, hk, rfl, rfl⟩ := hrel
    have hcl := cntF_le (isLast ss yes) k
    by_cases hlt : k < n
    · obtain ⟨x, hx⟩ := hs.get hlt
      have hi := hs.idx cap hlt
      have hc := hs.cell k x hx
      have hgd : ss.getD k ByteArray.empty = x := by rw [List.getD_eq_getElem?_getD, hx]; rfl
      have HT : Hid (cntF (isLast ss yes) (k + 1) = cntF (isLast ss yes) k + if lastIx ss x = (k : Int) then 1 else 0) := by
        unfold Hid
        show cntF (isLast ss yes) k + _ = _
        congr 1
        unfold isLast
        rw [hgd]
        simp [yes]
      clear hx hgd
      by_cases hl : lastIx ss x = (k : Int)
      · have hb : (lastIx ss x == (k : Int)) = true := by simp [hl]
        have HX : Hid (lastIx ss x = (k : Int)) := hl
        clear hl
        go_wp2_with (go_at_call 15; refine (last_any _ _ _ _ _ _ _ _ hs hn).mono ?_; rintro e w' ⟨rfl, rfl⟩)
        go_round
        case rel => exact ⟨k + 1, by omega, by go_num, by rw [HT.out, if_pos HX.out]; go_num⟩
        case measure => simp [intOf]; omega
      · have hb : (lastIx ss x == (k : Int)) = false := by simp [hl]
        go_wp2_with (go_at_call 15; refine (last_any _ _ _ _ _ _ _ _ hs hn).mono ?_; rintro e w' ⟨rfl, rfl⟩)
        go_round
        case rel => exact ⟨k + 1, by omega, by go_num, by rw [HT.out, if_neg hl]; go_num⟩
        case measure => simp [intOf]; omega
    · go_wp2
      go_ret
      refine ⟨ret_int ?_, rfl⟩
      have : k = ss.length := by rw [hs.len]; omega
      rw [this]; rfl

/-! ### zzUnion -/
/-- One round's count, told by the two look-ups that the Go text makes. -/
theorem cnt_step (xs ss : List ByteArray) (k : Nat) (x : ByteArray) (hx : ss[k]? = some x) :
    cntF (isLast ss (notIn xs)) (k + 1) = cntF (isLast ss (notIn xs)) k + if lastIx ss x = (k : Int) ∧ lastIx xs x < 0 then 1 else 0 := by
  have hgd : ss.getD k ByteArray.empty = x := by rw [List.getD_eq_getElem?_getD, hx]; rfl
  show cntF (isLast ss (notIn xs)) k + _ = _
  congr 1
  unfold isLast notIn
  rw [hgd]
  simp

set_option maxHeartbeats 400000 in
theorem union_any (a0 : Option Addr) (n0 cap0 b0 off0 : Nat) (xs : List ByteArray) (a1 : Option Addr) (n1 cap1 b1 off1 : Nat) (ss : List ByteArray) (w : World) (h0 : StrsAt w a0 n0 b0 off0 xs) (h1 : StrsAt w a1 n1 b1 off1 ss) (hn0 : n0 ≤ 1048576) (hn1 : n1 ≤ 1048576) :
    Calls Eaog.prog 29 #[.slice a0 n0 cap0, .slice a1 n1 cap1] w fun e w' => e = .returned (.int .i64 (unionN xs ss : Nat)) ∧ w' = w := by
  go_enter Eaog.func29, Eaog.ntmps29
  go_wp2_with (go_at_call 14; refine (distinct_any _ _ _ _ _ _ _ h0 hn0).mono ?_; rintro e w' ⟨rfl, rfl⟩)
  have hd0 : distinctN xs ≤ n0 := by have := cntF_le (isLast xs yes) xs.length; rw [h0.len] at this; exact (show distinctN xs ≤ n0 from by unfold distinctN; rw [h0.len]; exact this)
  go_loop [5, 6] (fun t i => ∃ k : Nat, k ≤ n1 ∧ i = .int .i64 k ∧ t = .int .i64 ((distinctN xs + cntF (isLast ss (notIn xs)) k : Nat) : Int)) (fun _ i => n1 - (intOf i).toNat)
  case atStart => exact ⟨0, Nat.zero_le _, rfl, rfl⟩
  case round =>
    obtain ⟨k, hk, rfl, rfl⟩ := hrel
    have hcl := cntF_le (isLast ss (notIn xs)) k
    by_cases hlt : k < n1
    · obtain ⟨x, hx⟩ := h1.get hlt
      have hi := h1.idx cap1 hlt
      have hc := h1.cell k x hx
      have HT : Hid (cntF (isLast ss (notIn xs)) (k + 1) = cntF (isLast ss (notIn xs)) k + if lastIx ss x = (k : Int) ∧ lastIx xs x < 0 then 1 else 0) := cnt_step xs ss k x hx
      clear hx
      by_cases hl : lastIx ss x = (k : Int)
      · have hb : (lastIx ss x == (k : Int)) = true := by simp [hl]
        have HX : Hid (lastIx ss x = (k : Int)) := hl
        clear hl
        by_cases hm : lastIx xs x < 0
        · have hd : decide (lastIx xs x < 0) = true := decide_eq_true hm
          go_wp2_with fail
          refine (last_any _ _ _ _ _ _ _ _ h1 hn1).mono ?_
          rintro e w' ⟨rfl, rfl⟩
          go_wp2_with fail
          refine (last_any _ _ _ _ _ _ _ _ h0 hn0).mono ?_
          rintro e w' ⟨rfl, rfl⟩
          go_wp2
          go_round
          case rel => exact ⟨k + 1, by omega, by go_num, by rw [HT.out, if_pos ⟨HX.out, hm⟩]; go_num⟩
          case measure => simp [intOf]; omega
        · have hd : decide (lastIx xs x < 0) = false := decide_eq_false hm
          go_wp2_with fail
          refine (last_any _ _ _ _ _ _ _ _ h1 hn1).mono ?_
          rintro e w' ⟨rfl, rfl⟩
          go_wp2_with fail
          refine (last_any _ _ _ _ _ _ _ _ h0 hn0).mono ?_
          rintro e w' ⟨rfl, rfl⟩
          go_wp2
          go_round
          case rel => exact ⟨k + 1, by omega, by go_num, by rw [HT.out, if_neg (fun h => by have := h.2; omega)]; go_num⟩
          case measure => simp [intOf]; omega
      · have hb : (lastIx ss x == (k : Int)) = false := by simp [hl]
        go_wp2_with fail
        refine (last_any _ _ _ _ _ _ _ _ h1 hn1).mono ?_
        rintro e w' ⟨rfl, rfl⟩
        go_wp2
        go_round
        case rel => exact ⟨k + 1, by omega, by go_num, by rw [HT.out, if_neg (fun h => hl h.1)]; go_num⟩
        case measure => simp [intOf]; omega
    · go_wp2
      go_ret
      refine ⟨ret_int ?_, rfl⟩
      have : k = ss.length := by rw [h1.len]; omega
      rw [this]; rfl

end Go.Proofs.Yoeaow
