/-
  Seat oeao: THE TWO METHODS THAT RANGE OVER A MAP: AddMap, Copy.
-/
import Derived.Test.YoeaowMaps
namespace Go.Proofs.Yoeaow
open Go.RowKit
open Go.Proofs.Yoeaow.Pl

/-- WHAT STANDS IN THE TARGET WHILE THE SOURCE (fo) IS RANGED OVER: where the source has a name that is no longer to come: the source's; else what the target had (fm). -/
def Merged (fo fm : ByteArray → Option Nat) (left : Lit → Bool) (fc : ByteArray → Option Nat) : Prop := ∀ s, fc s = if (fo s).isSome = true ∧ left (key s) = false then fo s else fm s

theorem Merged.start {D : DataW Unit} {fo : ByteArray → Option Nat} (h : Holds D fo) (fm : ByteArray → Option Nat) : Merged fo fm (Maps.has D) fm := by
  intro s
  rw [if_neg]
  rintro ⟨h1, h2⟩
  rw [h.has, h1] at h2
  cases h2

theorem Merged.step {fo fm fc : ByteArray → Option Nat} {left : Lit → Bool} (h : Merged fo fm left fc) {x : ByteArray} {g : Nat} (hx : fo x = some g) :
    Merged fo fm (fun z => left z && !z.sameKey (key x)) (upd fc x (some g)) := by
  intro s
  by_cases e : s = x
  · subst e
    rw [upd_same, hx, if_pos ⟨rfl, by simp [WideAt.sameKey_self (key_lit s)]⟩]
  · have hk : (key s).sameKey (key x) = false := Maps.sameKey_ne (fun e' => e (key_inj e'))
    rw [upd_other _ _ e, h s]
    simp [hk]

/-- The source's where it has the name; else the target's. -/
def over (fo fm : ByteArray → Option Nat) (s : ByteArray) : Option Nat := if (fo s).isSome = true then fo s else fm s

theorem Merged.done {fo fm fc : ByteArray → Option Nat} {left : Lit → Bool} (h : Merged fo fm left fc) (hl : ∀ k, left k = false) : fc = over fo fm := by
  funext s
  rw [h s]
  unfold over
  by_cases e : (fo s).isSome = true
  · rw [if_pos ⟨e, hl _⟩, if_pos e]
  · rw [if_neg (fun h => e h.1), if_neg e]

theorem keyOf_string_inv {k : Value} {kl : Lit} (h : keyOf Eaog.prog 9 k = some kl) : ∃ x, k = .string x := by
  cases k <;> simp [keyOf, mapKey, Eaog.underlying9] at h
  exact ⟨_, rfl⟩

theorem keyOf_string_key {x : ByteArray} {kl : Lit} (h : keyOf Eaog.prog 9 (.string x) = some kl) : kl = key x := by
  simp [keyOf, mapKey, Eaog.underlying9] at h
  exact h.2.symm

/-- The entry that has come is the source's own. -/
theorem come_is {D : DataW Unit} {fo : ByteArray → Option Nat} (h : Holds D fo) {x : ByteArray} {c : Option Nat} (hat : ∀ zd, D.atKey (key x) zd = modD c) : ∃ g, fo x = some g ∧ c = some g := by
  have h1 := Maps.has_true_of_atKey hat
  rw [h.has] at h1
  obtain ⟨g, hg⟩ := Option.isSome_iff_exists.1 h1
  have h2 := h.at_ x g hg .nil
  rw [hat] at h2
  exact ⟨g, hg, modD_some h2⟩

/-- A range loop's step over such a map, the shapes written out. -/
theorem wpList_next_mod (w : World) {ops : Array Oper} {rest : List Oper} {o : Oper} {a : Act} {Q : Exit → Act → World → Prop} (hg : o.guard = none) (it : Operand) (hop : o.op = Op.next it false) (b r n : Nat) (D : DataW Unit) (f : ByteArray → Option Nat) (left : Lit → Bool) (cnt : Nat)
    (hit : a.eval it = .pointer (some ⟨r, 0, none⟩)) (h : w.ranges Eaog.prog 9 modElem b r n D left cnt) (hD : Holds D f)
    (hDone : cnt = 0 → (∀ kl, left kl = false) → wpList Eaog.prog ops Q rest (a.put o.dst (.tuple #[.bool false])) w)
    (hMore : ∀ (x : ByteArray) (g : Nat) (w' : World) (cnt' : Nat), keyOf Eaog.prog 9 (.string x) = some (key x) → Hid (f x = some g) → w'.ranges Eaog.prog 9 modElem b r n D (fun z => left z && !z.sameKey (key x)) cnt' → cnt' < cnt →
      w.grownBy w' (some r) → (Instr.entry (.pointer (some ⟨r, 0, none⟩))).run Eaog.prog w' = .ok (.tuple #[.string x, .iface 29 (.pointer (some ⟨g, 0, none⟩))]) w' →
      wpList Eaog.prog ops Q rest (a.put o.dst (.tuple #[.bool true, .string x, .iface 29 (.pointer (some ⟨g, 0, none⟩))])) w') :
    wpList Eaog.prog ops Q (o :: rest) a w :=
  wpList_next_ranges (α := ByteArray) (β := Option Nat) w hg it hop 9 law9 modElem Value.string modV (fun _ _ h => keyOf_string_inv h) (fun _ _ h => by obtain ⟨c, hc, _⟩ := modElem_inv h; exact ⟨c, hc⟩) b r n D left cnt hit h hDone
    (fun x c kl y w' cnt' hkey _ hv hat hrg hlt hgr _ hen => by
      obtain rfl := keyOf_string_key hkey
      have hy : y = (modD c, []) := by rw [modElem_mk] at hv; exact (Option.some.inj hv).symm
      subst hy
      obtain ⟨g, hfx, rfl⟩ := come_is hD hat
      exact hMore x g w' cnt' hkey hfx hrg hlt hgr hen)

set_option maxHeartbeats 400000 in
set_option maxRecDepth 100000 in
theorem addMap_any {w : World} {pm bm nm : Nat} {fm : ByteArray → Option Nat} {po bo no : Nat} {fo : ByteArray → Option Nat} (hm : IsMM w pm bm nm fm) (ho : IsMM w po bo no fo) (hne : bo ≠ bm) (hmax : nm + no < maxLen) :
    Calls Eaog.prog 28 #[.pointer (some ⟨pm, 0, none⟩), .pointer (some ⟨po, 0, none⟩)] w fun e w' => e = .returned (.tuple #[]) ∧ IsMM w' pm bm (nm + no) (over fo fm) ∧ w.grownBy w' (some bm) := by
  have hml := hm.blt
  have hpl := hm.plt
  have hpne := hm.ne
  have hcm := hm.cell
  have hco := ho.cell
  obtain ⟨hblk, Dm, hom, hhm⟩ := hm
  obtain ⟨_, Do, hoo, hho⟩ := ho
  have HB : Hid (w.heap[pm]? = some (.cells #[.map (some bm)] 51)) := hblk
  clear hblk
  have hsz := hoo.size_le
  have hol := hoo.lt
  go_enter Eaog.func28, Eaog.ntmps28
  go_wp2_with (first
    | (at_range; refine wpList_range_own _ rfl _ 49 rfl 9 54 law9 Eaog.underlying49 _ bo no _ rfl hoo ?_; intro w0 hrg0 hg0 hs0)
    | go_in)
  go_frame
  go_loopw [4] (fun _ wr => ∃ (left : Lit → Bool) (cnt : Nat) (D : DataW Unit) (fc : ByteArray → Option Nat), wr.ranges Eaog.prog 9 modElem bo w.heap.size no Do left cnt ∧ cnt ≤ Maps.size Do ∧
      wr.ownsMap Eaog.prog 9 modElem bm (nm + (Maps.size Do - cnt)) D ∧ Holds D fc ∧ Merged fo fm left fc ∧ wr.cell? ⟨pm, 0, none⟩ = some (.map (some bm)) ∧ w.grownBy wr (some bm))
    (fun _ wr => wr.rangeLeft bo w.heap.size)
  case atStart =>
    exact ⟨_, _, Dm, fm, hrg0, Nat.le_refl _, (hom.kept hg0 (by simp)).mono (Nat.le_add_right _ _), hhm, Merged.start hho fm, (World.cell?_of_block (w := w) (hg0.block pm hpl (by simp))).trans hcm, hg0.but _⟩
  case round =>
    obtain ⟨left, cnt, D, fc, hrg, hcs, hout, hD, hM, hcp, hgw⟩ := hrel
    go_wp2_with (first
      | (at_next; refine wpList_next_mod _ rfl _ rfl bo w.heap.size no _ _ _ _ rfl hrg hho ?_ ?_)
      | go_in)
    · intro hc0 hl0
      go_wp2
      go_end0
      subst hc0
      rw [← hM.done hl0]
      exact ⟨rfl, ⟨(hgw.block pm hpl (by simpa using hpne)).trans HB.out, D, hout.mono (by omega), hD⟩, hgw⟩
    · intro x g w1 cnt1 hkey HF hrg1 hlt hg1 hen
      have hwz := hgw.size
      have hout1 := hout.kept hg1 (by simpa using Nat.ne_of_lt hml)
      have hcp1 : w1.cell? ⟨pm, 0, none⟩ = some (.map (some bm)) := (World.cell?_of_block (w := wr) (hg1.block pm (by omega) (by simpa using Nat.ne_of_lt hpl))).trans hcp
      have hroom : nm + (Maps.size Do - cnt) < maxLen := by omega
      go_wp2_with (first
        | (at_mapUpdate; refine wpList_mapUpdate_own _ rfl _ _ _ 49 rfl 9 54 law9 Eaog.underlying49 _ bm _ _ rfl hout1 hroom _ _ _ rfl rfl hkey _ [] (modElem_mk (some g)) ?_; intro w2 hout2 hg2; go_frame)
        | go_in)
      have hrg2 := hrg1.kept hg2 (by simpa using hne) (by simpa using Nat.ne_of_gt hml)
      have hgw2 : w.grownBy w2 (some bm) := (hgw.andThen hg1 (fun j hj => by cases hj; exact Or.inl (Nat.le_refl _))).trans hg2
      go_roundw
      case rel =>
        refine ⟨_, cnt1, _, upd fc x (some g), hrg2, by omega, hout2.mono (by omega), ?_, hM.step HF.out, ?_, hgw2⟩
        · exact hD.put hout.isMap x g
        · exact (World.cell?_of_block (w := w) (hgw2.block pm hpl (by simpa using hpne))).trans hcm
      case measure => rw [hrg2.left_eq, hrg.left_eq]; exact hlt

set_option maxHeartbeats 400000 in
set_option maxRecDepth 100000 in
theorem copy_any {w : World} {po bo no : Nat} {fo : ByteArray → Option Nat} (ho : IsMM w po bo no fo) (hmax : no < maxLen) :
    Calls Eaog.prog 25 #[.pointer (some ⟨po, 0, none⟩)] w fun e w' => e = .returned (.pointer (some ⟨w.heap.size + 1, 0, none⟩)) ∧ IsMM w' (w.heap.size + 1) w.heap.size no fo ∧ w.grownBy w' none := by
  have hmm := @run_makeMap Eaog.prog
  have hpl : po < w.heap.size := ho.plt
  have hco := ho.cell
  obtain ⟨_, Do, hoo, hho⟩ := ho
  have hsz := hoo.size_le
  have hol := hoo.lt
  have e1 : ((w.alloc (.map #[] 0)).alloc (.cells #[.map (some w.heap.size)] 51)).heap.size = w.heap.size + 2 := by simp
  have hgn : w.grownBy ((w.alloc (.map #[] 0)).alloc (.cells #[.map (some w.heap.size)] 51)) none := (World.grownBy_alloc _ _ _).trans (World.grownBy_alloc _ _ _)
  have hco2 : ((w.alloc (.map #[] 0)).alloc (.cells #[.map (some w.heap.size)] 51)).cell? ⟨po, 0, none⟩ = some (.map (some bo)) := (World.cell?_of_block (w := w) (hgn.block po hpl (by simp))).trans hco
  go_enter Eaog.func25, Eaog.ntmps25
  go_wp2_with (first
    | (at_range; refine wpList_range_own _ rfl _ 49 rfl 9 54 law9 Eaog.underlying49 _ bo no _ rfl ((hoo.alloc _).alloc _) ?_; intro w0 hrg0 hg0 hs0)
    | go_in)
  go_frame
  rw [e1] at hrg0 hs0 ⊢
  have hgw0 : w.grownBy w0 none := hgn.trans hg0
  have hcc0 : Hid (w0.heap[w.heap.size + 1]? = some (.cells #[.map (some w.heap.size)] 51)) := (hg0.block (w.heap.size + 1) (by rw [e1]; omega) (by simp)).trans (blk_new _ _ _ (by simp))
  have hout0 : w0.ownsMap Eaog.prog 9 modElem w.heap.size 0 (.map []) := ((World.ownsMap_made w Eaog.prog 9 modElem).alloc _).kept hg0 (by simp)
  clear hco2 hgn hg0 e1
  go_loopw [4] (fun _ wr => ∃ (left : Lit → Bool) (cnt : Nat) (D : DataW Unit) (fc : ByteArray → Option Nat), wr.ranges Eaog.prog 9 modElem bo (w.heap.size + 2) no Do left cnt ∧ cnt ≤ Maps.size Do ∧
      wr.ownsMap Eaog.prog 9 modElem w.heap.size (Maps.size Do - cnt) D ∧ Holds D fc ∧ Merged fo (fun _ => none) left fc ∧ Hid (wr.heap[w.heap.size + 1]? = some (.cells #[.map (some w.heap.size)] 51)) ∧ w.grownBy wr none ∧ w.heap.size + 2 < wr.heap.size)
    (fun _ wr => wr.rangeLeft bo (w.heap.size + 2))
  case atStart =>
    exact ⟨_, _, .map [], fun _ => none, hrg0, Nat.le_refl _, hout0.mono (Nat.zero_le _), Holds.empty, Merged.start hho _, hcc0, hgw0, by rw [hs0]; omega⟩
  case round =>
    obtain ⟨left, cnt, D, fc, hrg, hcs, hout, hD, hM, hcp, hgw, hwz⟩ := hrel
    go_wp2_with (first
      | (at_next; refine wpList_next_mod _ rfl _ rfl bo (w.heap.size + 2) no _ _ _ _ rfl hrg hho ?_ ?_)
      | go_in)
    · intro hc0 hl0
      go_wp2
      go_ret
      subst hc0
      have e := hM.done hl0
      have e2 : over fo (fun _ => none) = fo := by
        funext s
        unfold over
        split
        · rfl
        · rename_i hn
          cases hs : fo s with
          | none => rfl
          | some g => rw [hs] at hn; exact absurd rfl hn
      rw [e2] at e
      subst e
      exact ⟨rfl, ⟨hcp.out, D, hout.mono (by omega), hD⟩, hgw⟩
    · intro x g w1 cnt1 hkey HF hrg1 hlt hg1 hen
      have hout1 := hout.kept hg1 (by simp)
      have hcp1' : Hid (w1.heap[w.heap.size + 1]? = some (.cells #[.map (some w.heap.size)] 51)) := (hg1.block (w.heap.size + 1) (by omega) (by simp)).trans hcp.out
      have hcp1 := cell_of_blk hcp1'.out
      have hroom : Maps.size Do - cnt < maxLen := by omega
      have hz1 := hg1.size
      go_wp2_with (first
        | (at_mapUpdate; refine wpList_mapUpdate_own _ rfl _ _ _ 49 rfl 9 54 law9 Eaog.underlying49 _ w.heap.size _ _ rfl hout1 hroom _ _ _ rfl rfl hkey _ [] (modElem_mk (some g)) ?_; intro w2 hout2 hg2; go_frame)
        | go_in)
      have hz2 := hg2.size
      have hrg2 := hrg1.kept hg2 (by simpa using Nat.ne_of_lt hol) (by simp)
      have hgw2 : w.grownBy w2 none := (hgw.andThen hg1 (fun j hj => by cases hj; exact Or.inl (by omega))).andThen hg2 (fun j hj => by cases hj; exact Or.inl (Nat.le_refl _))
      go_roundw
      case rel =>
        refine ⟨_, cnt1, _, upd fc x (some g), hrg2, by omega, hout2.mono (by omega), ?_, hM.step HF.out, ?_, hgw2, by omega⟩
        · exact hD.put hout.isMap x g
        · exact (hg2.block (w.heap.size + 1) (by omega) (by simp)).trans hcp1'.out
      case measure => rw [hrg2.left_eq, hrg.left_eq]; exact hlt

end Go.Proofs.Yoeaow
