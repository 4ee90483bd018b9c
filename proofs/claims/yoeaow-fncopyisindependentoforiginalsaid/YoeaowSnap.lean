/-
  Seat oeao: A []*SourceModule THAT THE LAW MAKES AND FILLS ('SnapAt': its whole block, as a list of values).
-/
import Derived.Test.YoeaowLawKit
namespace Go.Proofs.Yoeaow
open Go.RowKit
open Go.Proofs.Yoeaow.Pl

/-- BLOCK S HOLDS THE POINTERS L. -/
def SnapAt (w : World) (S : Nat) (L : List Value) : Prop := w.heap[S]? = some (.cells L.toArray 29 (0, 0))

theorem SnapAt.cell {w : World} {S : Nat} {L : List Value} (h : SnapAt w S L) (k : Nat) : w.cell? ⟨S, k, none⟩ = L[k]? := by
  unfold SnapAt at h
  simp [World.cell?, h]
theorem SnapAt.frozen {w : World} {S : Nat} {L : List Value} (h : SnapAt w S L) (k : Nat) : w.frozen? ⟨S, k, none⟩ = false := by
  unfold SnapAt at h
  simp [World.frozen?, h]
theorem SnapAt.lt {w : World} {S : Nat} {L : List Value} (h : SnapAt w S L) : S < w.heap.size := (Array.getElem?_eq_some_iff.1 h).1
theorem SnapAt.kept {w w' : World} {S : Nat} {L : List Value} {row : Option Nat} (h : SnapAt w S L) (hg : w.grownBy w' row) (hne : some S ≠ row) : SnapAt w' S L := (hg.block S h.lt hne).trans h
theorem SnapAt.calm {w w' : World} {S : Nat} {L : List Value} (h : SnapAt w S L) (hc : Calm w w') : SnapAt w' S L := by
  unfold SnapAt at h ⊢
  rw [hc.heap]; exact h

theorem SnapAt.set {w : World} {S : Nat} {L : List Value} (h : SnapAt w S L) (k : Nat) (v : Value) : SnapAt (w.setCell ⟨S, k, none⟩ v) S (L.set k v) := by
  unfold SnapAt at h ⊢
  unfold World.setCell
  simp only [Array.getElem?_modify, if_true]
  rw [h]
  simp

theorem grownBy_setCell {w : World} (a : Addr) (v : Value) : w.grownBy (w.setCell a v) (some a.block) :=
  ⟨rfl, rfl, rfl, by simp [World.setCell], fun i _ hne => Below.heap_setCell w a v i (fun e => hne (by rw [e]))⟩

theorem infoOf29 : (Eaog.prog.info? 29).map (fun i => (i.zero, i.size, i.bytes)) = some (some (.pointer none), 1, 8) := by kernel_rfl

/-- 'make([]*SourceModule, n)' -/
theorem wpList_make_snap (w : World) {ops : Array Oper} {rest : List Oper} {o : Oper} {a : Act} {Q : Exit → Act → World → Prop}
    (hg : o.guard = none) (l c : Operand) (hop : o.op = Op.makeSlice 43 l c) (I C : Int) (n : Nat) (hl : a.eval l = .int .i64 I) (hc : a.eval c = .int .i64 C) (hI : I = (n : Int)) (hC : C = (n : Int)) (hn : n ≤ 1048576)
    (hK : ∀ (L : List Value) (w' : World), L.length = n → SnapAt w' w.heap.size L → w.grownBy w' none → wpList Eaog.prog ops Q rest (a.put o.dst (.slice (some ⟨w.heap.size, 0, none⟩) n n)) w') :
    wpList Eaog.prog ops Q (o :: rest) a w := by
  refine wpList_plain hg fun K hK' => ?_
  obtain ⟨i, hi, hz, hs, hb⟩ := info_parts infoOf29
  have hrun := run_make (P := Eaog.prog) w 43 29 i (.pointer none) Eaog.underlying43 hi hz .i64 .i64 (n : Int) (n : Int) (by omega) (by omega) (by rw [hb]; omega) (by omega)
  rw [Int.toNat_natCast, hs] at hrun
  subst hI
  subst hC
  unfold Oper.wp
  simp [execOp, hop, hl, hc, hrun, Result.andThen]
  refine hK' _ _ (hK (madeCells #[Value.pointer none] n).toList _ (by rw [Array.length_toList, size_madeCells]) ?_ (World.grownBy_alloc _ _ _))
  exact (blk_new w _ _ rfl).trans (by simp [Value.cells])

theorem idx43 (S n k : Nat) (i : Int) (hi : i = (k : Int)) (hk : k < n) (w' : World) :
    (Instr.indexAt 43 (.slice (some ⟨S, 0, none⟩) n n) (.int .i64 i)).run Eaog.prog w' = .ok (.pointer (some ⟨S, k, none⟩)) w' := by
  subst hi
  have e : (sizeOf (Eaog.prog.elem 43)).run Eaog.prog w' = .ok 1 w' := by kernel_rfl
  rw [run_indexAt_slice (h := by kernel_rfl), if_pos (by omega), e]
  simp only [Result.andThen, Int.toNat_natCast, Nat.mul_one]
  rw [add_at0]

/-- GetSourceModule in a world after draws. -/
theorem get_hit_drewN {w : World} {p b n : Nat} {f : ByteArray → Option Nat} {s : ByteArray} {g : Nat} (h : IsMM w p b n f) (hs : s.size ≤ maxLen) (hf : f s = some g) (q : Nat) :
    Calls Eaog.prog 16 #[.pointer (some ⟨p, 0, none⟩), .string s] (w.drewN q) fun e w' => e = .returned (.pointer (some ⟨g, 0, none⟩)) ∧ w' = w.drewN q :=
  get_hit (h.calm ((Calm.refl w).drewN q)) hs hf

/-- THE SNAPSHOT: places from 'at' on hold the modules of the names. -/
def Snapped (L : List Value) (lo k : Nat) (names : List ByteArray) (F : ByteArray → Option Nat) : Prop :=
  ∀ (j : Nat) (x : ByteArray) (g : Nat), j < k → names[j]? = some x → F x = some g → L[lo + j]? = some (.pointer (some ⟨g, 0, none⟩))

theorem Snapped.start (L : List Value) (lo : Nat) (names : List ByteArray) (F : ByteArray → Option Nat) : Snapped L lo 0 names F := fun j _ _ hj => by omega
theorem Snapped.step {L : List Value} {lo k : Nat} {names : List ByteArray} {F : ByteArray → Option Nat} {x : ByteArray} {g : Nat} (h : Snapped L lo k names F) (hx : names[k]? = some x) (hF : F x = some g) (hl : lo + k < L.length) :
    Snapped (L.set (lo + k) (.pointer (some ⟨g, 0, none⟩))) lo (k + 1) names F := by
  intro j y g' hj hy hg'
  by_cases e : j = k
  · subst e
    rw [hx] at hy
    obtain rfl := Option.some.inj hy
    rw [hF] at hg'
    obtain rfl := Option.some.inj hg'
    rw [List.getElem?_set_self hl]
  · rw [List.getElem?_set_ne (by omega)]
    exact h j y g' (by omega) hy hg'
theorem Snapped.apart {L : List Value} {lo k i : Nat} {v : Value} {names : List ByteArray} {F : ByteArray → Option Nat} (h : Snapped L lo k names F) (hi : i < lo ∨ lo + k ≤ i) : Snapped (L.set i v) lo k names F := by
  intro j y g' hj hy hg'
  rw [List.getElem?_set_ne (by omega)]
  exact h j y g' hj hy hg'

end Go.Proofs.Yoeaow
