/-
  Seat oeao: FOR FnLenFollowsAddRemoveScript: a []bool that came in; the list of the names that are present, one of them dropped (zzDrop).
-/
import Derived.Test.YoeaowLawKit
namespace Go.Proofs.Yoeaow
open Go.RowKit
open Go.Proofs.Yoeaow.Pl

/-! ### plain: the last one put in the place of the k-th -/
def dropAt (P : List ByteArray) (k : Nat) (z : ByteArray) : List ByteArray := (P.set k z).take (P.length - 1)

theorem dropAt_split {P : List ByteArray} {k : Nat} {n z : ByteArray} (hk : P[k]? = some n) (hz : P[P.length - 1]? = some z) :
    (P = P.take k ++ [n] ∧ z = n ∧ dropAt P k z = P.take k) ∨ ∃ B, P = P.take k ++ n :: (B ++ [z]) ∧ dropAt P k z = P.take k ++ z :: B := by
  have hkl : k < P.length := (List.getElem?_eq_some_iff.1 hk).1
  have hP : P = P.take k ++ n :: P.drop (k + 1) := by
    have h1 : P[k] = n := (List.getElem?_eq_some_iff.1 hk).2
    have h2 := List.take_append_drop k P
    rw [List.drop_eq_getElem_cons hkl, h1] at h2
    exact h2.symm
  have hset : P.set k z = P.take k ++ z :: P.drop (k + 1) := by rw [List.set_eq_take_append_cons_drop, if_pos hkl]
  have hlk : (P.take k).length = k := by rw [List.length_take]; omega
  have hld : (P.drop (k + 1)).length = P.length - (k + 1) := List.length_drop
  by_cases hlast : k = P.length - 1
  · left
    have hd : P.drop (k + 1) = [] := List.drop_eq_nil_of_le (by omega)
    have hzn : z = n := by
      rw [← hlast, hk] at hz
      exact (Option.some.inj hz).symm
    refine ⟨by rw [hd] at hP; exact hP, hzn, ?_⟩
    unfold dropAt
    rw [hset, hd, ← hlast, List.take_append_of_le_length (by omega), List.take_of_length_le (by omega)]
  · right
    obtain ⟨B, hB⟩ : ∃ B, P.drop (k + 1) = B ++ [z] := by
      have hne : P.drop (k + 1) ≠ [] := by
        intro e
        have := congrArg List.length e
        rw [hld] at this
        simp at this
        omega
      refine ⟨(P.drop (k + 1)).dropLast, ?_⟩
      have hl : (P.drop (k + 1)).getLast hne = z := by
        rw [List.getLast_eq_getElem]
        have e1 : (P.drop (k + 1))[(P.drop (k + 1)).length - 1]? = some z := by
          rw [List.getElem?_drop, ← hz]
          congr 1
          omega
        exact (List.getElem?_eq_some_iff.1 e1).2
      rw [← hl]
      exact (List.dropLast_concat_getLast hne).symm
    have hBl : B.length + 1 = P.length - (k + 1) := by
      rw [← hld, hB]; simp
    refine ⟨B, by rw [hB] at hP; exact hP, ?_⟩
    unfold dropAt
    rw [hset, hB]
    have e2 : P.take k ++ z :: (B ++ [z]) = (P.take k ++ z :: B) ++ [z] := by simp
    rw [e2, List.take_append_of_le_length (by simp; omega), List.take_of_length_le (by simp; omega)]

theorem dropAt_ok {P : List ByteArray} {k : Nat} {n z : ByteArray} (hn : P.Nodup) (hk : P[k]? = some n) (hz : P[P.length - 1]? = some z) :
    (dropAt P k z).Nodup ∧ ∀ s, s ∈ dropAt P k z ↔ s ∈ P ∧ s ≠ n := by
  rcases dropAt_split hk hz with ⟨h1, h2, h3⟩ | ⟨B, h1, h3⟩
  · rw [h3]
    generalize P.take k = A at *
    subst h1
    rw [List.nodup_append] at hn
    refine ⟨hn.1, fun s => ?_⟩
    rw [List.mem_append, List.mem_singleton]
    constructor
    · intro hs
      exact ⟨Or.inl hs, hn.2.2 s hs n (by simp)⟩
    · rintro ⟨hs | hs, hne⟩
      · exact hs
      · exact absurd hs hne
  · rw [h3]
    generalize P.take k = A at *
    subst h1
    have hperm : (A ++ n :: (B ++ [z])).Perm (n :: (A ++ z :: B)) := by
      refine List.perm_middle.trans (List.Perm.cons n ?_)
      exact List.Perm.append_left A (List.perm_append_singleton z B)
    have hn' := hperm.nodup_iff.1 hn
    obtain ⟨ha, hb⟩ := List.nodup_cons.1 hn'
    refine ⟨hb, fun s => ?_⟩
    rw [hperm.mem_iff, List.mem_cons]
    constructor
    · intro hs
      exact ⟨Or.inr hs, fun e => ha (e ▸ hs)⟩
    · rintro ⟨hs | hs, hne⟩
      · exact absurd hs hne
      · exact hs

theorem dropAt_length {P : List ByteArray} {k : Nat} {z : ByteArray} : (dropAt P k z).length = P.length - 1 := by
  unfold dropAt
  rw [List.length_take, List.length_set]
  omega

/-! ### a []bool that came in -/
structure BoolsAt (w : World) (a : Option Addr) (n b off : Nat) (bs : List Bool) : Prop where
  len : bs.length = n
  addr : 0 < n → a = some ⟨b, off, none⟩
  cell : ∀ (k : Nat) (x : Bool), bs[k]? = some x → w.cell? ⟨b, off + k, none⟩ = some (.bool x)

theorem BoolsAt.get {w : World} {a : Option Addr} {n b off : Nat} {bs : List Bool} (h : BoolsAt w a n b off bs) {k : Nat} (hk : k < n) : ∃ x, bs[k]? = some x :=
  ⟨bs[k]'(by rw [h.len]; exact hk), List.getElem?_eq_getElem _⟩
theorem BoolsAt.idx {w : World} {a : Option Addr} {n b off : Nat} {bs : List Bool} (h : BoolsAt w a n b off bs) (cap : Nat) {k : Nat} (hk : k < n) (w' : World) :
    (Instr.indexAt 35 (.slice a n cap) (.int .i64 (k : Int))).run Eaog.prog w' = .ok (.pointer (some ⟨b, off + k, none⟩)) w' := by
  have e : (sizeOf (Eaog.prog.elem 35)).run Eaog.prog w' = .ok 1 w' := by kernel_rfl
  rw [h.addr (by omega), run_indexAt_slice (h := by kernel_rfl), if_pos (by omega), e]
  simp [Result.andThen, Addr.add]
theorem BoolsAt.cells {w w' : World} {a : Option Addr} {n b off : Nat} {bs : List Bool} (h : BoolsAt w a n b off bs) (hc : Cells w w') : BoolsAt w' a n b off bs :=
  ⟨h.len, h.addr, fun k x hx => hc _ _ (h.cell k x hx)⟩

/-! ### the slice 'present' -/
/-- Block S is a row of its own; its first places hold the names P. -/
def Present (w : World) (S cap : Nat) (P : List ByteArray) : Prop := w.ownsRow 0 9 1 (.slice (some ⟨S, 0, none⟩) P.length cap) P.length (P.map Value.string)

theorem Present.strs {w : World} {S cap : Nat} {P : List ByteArray} (h : Present w S cap P) : StrsAt w (some ⟨S, 0, none⟩) P.length S 0 P := by
  refine ⟨rfl, fun _ => rfl, fun k x hx => ?_⟩
  have hk := (List.getElem?_eq_some_iff.1 hx).1
  rw [Nat.zero_add, World.ownsRow.cellAt h k (by omega), List.getElem?_map, hx]
  rfl

theorem Present.kept {w w' : World} {S cap : Nat} {P : List ByteArray} {row : Option Nat} (h : Present w S cap P) (hg : w.grownBy w' row) (hne : some S ≠ row) : Present w' S cap P := by
  obtain ⟨h1, h2⟩ := h
  refine ⟨h1, ?_⟩
  rcases h2 with h2 | ⟨g, c, cur, hv, hb, hh, r⟩
  · exact Or.inl h2
  · have hg0 : g = S := by
      have := Value.slice.inj hv
      have := Option.some.inj this.1
      exact (congrArg Addr.block this).symm
    subst hg0
    exact Or.inr ⟨g, c, cur, hv, hb, (hg.block g (Array.getElem?_eq_some_iff.1 hh).1 hne).trans hh, r⟩

theorem Present.lt {w : World} {S cap : Nat} {P : List ByteArray} (h : Present w S cap P) : S < w.heap.size := by
  rcases h.2 with ⟨h2, _⟩ | ⟨g, c, cur, hv, hb, hh, r⟩
  · cases h2
  · have hg0 : g = S := by
      have := Value.slice.inj hv
      have := Option.some.inj this.1
      exact (congrArg Addr.block this).symm
    subst hg0
    exact (Array.getElem?_eq_some_iff.1 hh).1

theorem Present.le {w : World} {S cap : Nat} {P : List ByteArray} (h : Present w S cap P) : P.length ≤ cap := by
  rcases h.2 with ⟨h2, _⟩ | ⟨g, c, cur, hv, hb, hh, hle, r⟩
  · cases h2
  · have := (Value.slice.inj hv).2.2
    omega

/-- zzDrop: the last one in the place of the k-th, one fewer. -/
theorem Present.dropped {w : World} {S cap k : Nat} {P : List ByteArray} {z : ByteArray} (h : Present w S cap P) (hp : 0 < P.length) :
    Present (w.setCell ⟨S, k, none⟩ (.string z)) S cap (dropAt P k z) ∧ w.grownBy (w.setCell ⟨S, k, none⟩ (.string z)) (some S) := by
  obtain ⟨h1, h2⟩ := World.ownsRow.stored h k (.string z)
  refine ⟨?_, h2⟩
  unfold Present
  rw [dropAt_length]
  have e : P.length = (P.length - 1) + 1 := by omega
  have hs : (P.map Value.string).set k (.string z) = (dropAt P k z).map Value.string ++ ((P.set k z).drop (P.length - 1)).map Value.string := by
    unfold dropAt
    rw [← List.map_set, ← List.map_append, List.take_append_drop]
  rw [hs] at h1
  rw [e] at h1
  have hl : ((dropAt P k z).map Value.string).length = (P.length - 1) * 1 := by rw [List.length_map, dropAt_length]; omega
  have := ownsRow_pop hl h1
  simpa using this

theorem idx22 (S n cap k : Nat) (i : Int) (hi : i = (k : Int)) (hk : k < n) (w' : World) :
    (Instr.indexAt 22 (.slice (some ⟨S, 0, none⟩) n cap) (.int .i64 i)).run Eaog.prog w' = .ok (.pointer (some ⟨S, k, none⟩)) w' := by
  subst hi
  have e : (sizeOf (Eaog.prog.elem 22)).run Eaog.prog w' = .ok 1 w' := by kernel_rfl
  rw [run_indexAt_slice (h := by kernel_rfl), if_pos (by omega), e]
  simp only [Result.andThen, Int.toNat_natCast, Nat.mul_one]
  rw [add_at0]

theorem drop_any {w : World} {S cap k : Nat} {P : List ByteArray} {n : ByteArray} (h : Present w S cap P) (hk : P[k]? = some n) (hcap : cap ≤ 1048576) :
    Calls Eaog.prog 22 #[.slice (some ⟨S, 0, none⟩) P.length cap, .int .i64 (k : Int)] w fun e w' => ∃ z, P[P.length - 1]? = some z ∧ e = .returned (.slice (some ⟨S, 0, none⟩) (P.length - 1) cap) ∧ Present w' S cap (dropAt P k z) ∧ w.grownBy w' (some S) := by
  have hkl := (List.getElem?_eq_some_iff.1 hk).1
  have hle := h.le
  obtain ⟨z, hz⟩ : ∃ z, P[P.length - 1]? = some z := ⟨P[P.length - 1]'(by omega), List.getElem?_eq_getElem _⟩
  have hs := h.strs
  have hc1 : w.cell? ⟨S, k, none⟩ = some (.string n) := by simpa using hs.cell k n hk
  have hc2 : w.cell? ⟨S, P.length - 1, none⟩ = some (.string z) := by simpa using hs.cell _ z hz
  have hf : w.frozen? ⟨S, k, none⟩ = false := World.ownsRow.frozenAt h k
  have hd := Present.dropped (k := k) (z := z) h (by omega)
  have HZ : Hid (P[P.length - 1]? = some z) := hz
  generalize hm : P.length = m at *
  have i1 := idx22 S m cap k (k : Int) rfl hkl
  have i2 := idx22 S m cap (m - 1) ((m : Int) - 1) (by omega) (by omega)
  clear hm hz hs hk
  go_enter Eaog.func22, Eaog.ntmps22
  go_wp2
  go_ret
  exact ⟨z, HZ.out, rfl, hd.1, hd.2⟩

theorem infoOf9 : (Eaog.prog.info? 9).map (fun i => (i.zero, i.size, i.bytes)) = some (some (.string ByteArray.empty), 1, 16) := by kernel_rfl

/-- 'make([]string, 0, n)' -/
theorem wpList_make_present (w : World) {ops : Array Oper} {rest : List Oper} {o : Oper} {a : Act} {Q : Exit → Act → World → Prop}
    (hg : o.guard = none) (l c : Operand) (hop : o.op = Op.makeSlice 22 l c) (n : Nat) (hl : a.eval l = .int .i64 0) (hc : a.eval c = .int .i64 (n : Int)) (hn : n ≤ 1048576)
    (hK : ∀ w' : World, Present w' w.heap.size n [] → w.grownBy w' none → wpList Eaog.prog ops Q rest (a.put o.dst (.slice (some ⟨w.heap.size, 0, none⟩) 0 n)) w') :
    wpList Eaog.prog ops Q (o :: rest) a w := by
  obtain ⟨i, hi, hz, hs, hb⟩ := info_parts infoOf9
  exact wpList_make_own w hg l c 22 hop 0 9 i (.string ByteArray.empty) 1 Eaog.underlying22 hi hz hs .i64 .i64 (n : Int) n hl hc rfl (by rw [hb]; omega) (by unfold maxLen; omega) (Nat.zero_le _) (fun w' h1 h2 => hK w' h1 h2)

/-- 'present = append(present, n)', within the capacity; the new name lies in a block of its own first. -/
theorem wpList_append_present (w : World) {ops : Array Oper} {rest : List Oper} {o : Oper} {a : Act} {Q : Exit → Act → World → Prop}
    (hg : o.guard = none) (s x : Operand) (hop : o.op = Op.call { callee := Callee.builtin Builtin.append, args := #[s, x], argTypes := #[22, 22] })
    (S cap b : Nat) (P : List ByteArray) (n : ByteArray) (hs : a.eval s = .slice (some ⟨S, 0, none⟩) P.length cap) (hx : a.eval x = .slice (some ⟨b, 0, none⟩) 1 1) (hp : Present w S cap P) (hc : w.cell? ⟨b, 0, none⟩ = some (.string n)) (hroom : P.length + 1 ≤ cap)
    (hK : ∀ w' : World, Present w' S cap (P ++ [n]) → w.grownBy w' (some S) → wpList Eaog.prog ops Q rest (a.put o.dst (.slice (some ⟨S, 0, none⟩) (P.length + 1) cap)) w') :
    wpList Eaog.prog ops Q (o :: rest) a w := by
  obtain ⟨i, hi, hz, hsz, hb⟩ := info_parts infoOf9
  refine wpList_append_fits w hg s x 22 hop 0 9 i 1 Eaog.underlying22 hi hsz S P.length cap (P.map Value.string) hs hp ⟨b, 0, none⟩ 1 1 [.string n] hx rfl ?_ ?_ hroom (fun w' h1 h2 => hK w' ?_ h2)
  · intro j u hj
    match j, hj with
    | 0, hj =>
      simp at hj
      subst hj
      rw [add_at0]
      exact hc
  · intro u hu
    simp at hu
    subst hu
    rfl
  · unfold Present
    simpa using h1

end Go.Proofs.Yoeaow
