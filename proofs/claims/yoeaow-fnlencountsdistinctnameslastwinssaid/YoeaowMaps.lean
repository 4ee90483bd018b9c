/-
  Seat oeao: A *ModuleMap ('IsMM': pointer p, its map's block b, at most n entries, names by f), AND THE CONTRACTS OF ITS METHODS: NewModuleMap, Len, GetSourceModule, Remove, AddSourceModule.
-/
import Derived.Test.YoeaowStrs
import Derived.Maps.RangeWalk
namespace Go.Proofs.Yoeaow
open Go.RowKit
open Go.Proofs.Yoeaow.Pl

/-! ### an element of the map: nil, or a *SourceModule, told by its block -/
def modV : Option Nat → Value
  | some g => .iface 29 (.pointer (some ⟨g, 0, none⟩))
  | none => .nilIface
def modD : Option Nat → DataW Unit
  | some g => .lit (.int .i64 (g : Int))
  | none => .nil

def modElem : Value → Option (DataW Unit × List MemPlace)
  | .iface t (.pointer (some ⟨g, o, none⟩)) => if t = 29 ∧ o = 0 then some (.lit (.int .i64 (g : Int)), []) else none
  | .nilIface => some (.nil, [])
  | _ => none

theorem modElem_mk (c : Option Nat) : modElem (modV c) = some (modD c, []) := by
  cases c <;> simp [modElem, modV, modD]

theorem modElem_inv {v : Value} {y : DataW Unit × List MemPlace} (h : modElem v = some y) : ∃ c, v = modV c ∧ y = (modD c, []) := by
  unfold modElem at h
  split at h
  · split at h
    · rename_i g o hc
      obtain ⟨rfl, rfl⟩ := hc
      exact ⟨some g, rfl, (Option.some.inj h).symm⟩
    · cases h
  · exact ⟨none, rfl, (Option.some.inj h).symm⟩
  · cases h

theorem modD_some {c : Option Nat} {g : Nat} (h : modD c = .lit (.int .i64 (g : Int))) : c = some g := by
  cases c with
  | none => simp [modD] at h
  | some g' =>
    simp [modD] at h
    exact congrArg some (by omega)

theorem modD_nil {c : Option Nat} (h : modD c = .nil) : c = none := by
  cases c with
  | none => rfl
  | some g' => simp [modD] at h

theorem law9 : Maps.Keyed Eaog.prog 9 := Maps.string_keyed Eaog.underlying9
theorem zero54 (w : World) : (zeroValue 54).run Eaog.prog w = .ok .nilIface w := by kernel_rfl
theorem assert_mod (v : Value) (w : World) : (Instr.typeAssert (.iface 29 v) 54 29 true).run Eaog.prog w = .ok (.tuple #[v, .bool true]) w := by kernel_rfl
theorem assert_nil (w : World) : (Instr.typeAssert .nilIface 54 29 true).run Eaog.prog w = .ok (.tuple #[.pointer none, .bool false]) w := by kernel_rfl

/-- A name as the map's datum has it. -/
def key (s : ByteArray) : Lit := .string s.data.toList
theorem key_lit (s : ByteArray) : WideAt.IsKeyLit (key s) := trivial
theorem key_inj {s t : ByteArray} (h : key s = key t) : s = t := by
  unfold key at h
  exact ByteArray.ext (Array.toList_inj.1 (Lit.string.inj h))
theorem keyOf_key {s : ByteArray} (h : s.size ≤ maxLen) : keyOf Eaog.prog 9 (.string s) = some (key s) := WideMaps.keyOf_string_mk Eaog.underlying9 h

/-! ### what the map holds, name by name -/
structure Holds (D : DataW Unit) (f : ByteArray → Option Nat) : Prop where
  has : ∀ s, Maps.has D (key s) = (f s).isSome
  at_ : ∀ s g, f s = some g → ∀ z, D.atKey (key s) z = .lit (.int .i64 (g : Int))
  keys : ∀ k, Maps.has D k = true → ∃ s, k = key s

def upd (f : ByteArray → Option Nat) (s : ByteArray) (v : Option Nat) (t : ByteArray) : Option Nat := if t = s then v else f t
theorem upd_same (f : ByteArray → Option Nat) (s : ByteArray) (v : Option Nat) : upd f s v s = v := if_pos rfl
theorem upd_other (f : ByteArray → Option Nat) {s t : ByteArray} (v : Option Nat) (h : t ≠ s) : upd f s v t = f t := if_neg h

theorem Holds.empty : Holds (.map []) (fun _ => none) := by
  refine ⟨fun _ => rfl, fun s g h z => ?_, fun k h => ?_⟩
  · cases h
  · cases h

theorem Holds.put {D : DataW Unit} {f : ByteArray → Option Nat} (h : Holds D f) (hD : Maps.IsMap D) (s : ByteArray) (g : Nat) : Holds (D.put (key s) (.lit (.int .i64 (g : Int)))) (upd f s (some g)) := by
  refine ⟨fun t => ?_, fun t g' ht z => ?_, fun k hk => ?_⟩
  · by_cases e : t = s
    · subst e
      rw [upd_same, Maps.has_put_same hD (key_lit _)]; rfl
    · rw [upd_other f _ e, Maps.has_put_other (fun e' => e (key_inj e')), h.has]
  · by_cases e : t = s
    · subst e
      rw [upd_same] at ht
      rw [Maps.atKey_put_same hD (key_lit _), Option.some.inj ht]
    · rw [upd_other f _ e] at ht
      rw [Maps.atKey_put_other (fun e' => e (key_inj e')), h.at_ t g' ht]
  · by_cases e : k = key s
    · exact ⟨s, e⟩
    · rw [Maps.has_put_other e] at hk
      exact h.keys k hk

theorem Holds.del {D : DataW Unit} {f : ByteArray → Option Nat} (h : Holds D f) (s : ByteArray) : Holds (D.del (key s)) (upd f s none) := by
  refine ⟨fun t => ?_, fun t g' ht z => ?_, fun k hk => ?_⟩
  · by_cases e : t = s
    · subst e
      rw [upd_same, Maps.has_del_same]; rfl
    · rw [upd_other f _ e, Maps.has_del_other (fun e' => e (key_inj e')), h.has]
  · by_cases e : t = s
    · subst e
      rw [upd_same] at ht
      cases ht
    · rw [upd_other f _ e] at ht
      rw [Maps.atKey_del_other (fun e' => e (key_inj e')), h.at_ t g' ht]
  · by_cases e : k = key s
    · exact ⟨s, e⟩
    · rw [Maps.has_del_other e] at hk
      exact h.keys k hk

/-- The name of a key. -/
def nameOf : Lit → ByteArray
  | .string l => ⟨l.toArray⟩
  | _ => ByteArray.empty
theorem nameOf_key (s : ByteArray) : nameOf (key s) = s := by simp [nameOf, key]

/-- How many entries: as many as different names. -/
theorem Holds.size {D : DataW Unit} {f : ByteArray → Option Nat} (h : Holds D f) (ht : ∃ es, D = .map es ∧ es.Pairwise (fun p q => p.1 ≠ q.1) ∧ ∀ p ∈ es, WideAt.IsKeyLit p.1) (L : List ByteArray) (hL : L.Nodup)
    (hm : ∀ s, s ∈ L ↔ (f s).isSome = true) : Maps.size D = L.length := by
  obtain ⟨es, rfl, hp, hl⟩ := ht
  have hin : ∀ p ∈ es, Maps.has (.map es) p.1 = true := fun p hpm => List.any_eq_true.2 ⟨p, hpm, WideAt.sameKey_self (hl p hpm)⟩
  rw [Maps.size_eq]
  have e : es.length = (es.map (fun p => nameOf p.1)).length := by simp
  rw [e]
  refine length_eq_of_mem ?_ hL (fun s => ?_)
  · rw [List.nodup_iff_pairwise_ne, List.pairwise_map]
    refine List.Pairwise.imp_of_mem ?_ hp
    intro a b ha hb hne he
    obtain ⟨s, hs⟩ := h.keys _ (hin a ha)
    obtain ⟨t, ht⟩ := h.keys _ (hin b hb)
    rw [hs, ht, nameOf_key, nameOf_key] at he
    exact hne (by rw [hs, ht, he])
  · rw [hm, ← h.has, List.mem_map]
    constructor
    · rintro ⟨p, hpm, rfl⟩
      obtain ⟨t, ht⟩ := h.keys _ (hin p hpm)
      rw [ht, nameOf_key, ← ht]
      exact hin p hpm
    · intro hh
      obtain ⟨p, hpm, hs⟩ := List.any_eq_true.1 hh
      exact ⟨p, hpm, by rw [WideAt.sameKey_eq hs, nameOf_key]⟩

/-! ### the *ModuleMap -/
/-- POINTER p LEADS TO A ModuleMap; ITS MAP IS BLOCK b, OF AT MOST n ENTRIES; IT HOLDS f. -/
structure IsMM (w : World) (p b n : Nat) (f : ByteArray → Option Nat) : Prop where
  blk : w.heap[p]? = some (.cells #[.map (some b)] 51)
  own : ∃ D : DataW Unit, w.ownsMap Eaog.prog 9 modElem b n D ∧ Holds D f

theorem cell_of_blk {w : World} {p b : Nat} (h : w.heap[p]? = some (.cells #[.map (some b)] 51)) : w.cell? ⟨p, 0, none⟩ = some (.map (some b)) := by
  simp [World.cell?, h]
theorem IsMM.cell {w : World} {p b n : Nat} {f : ByteArray → Option Nat} (h : IsMM w p b n f) : w.cell? ⟨p, 0, none⟩ = some (.map (some b)) := cell_of_blk h.blk

theorem IsMM.bmap {w : World} {p b n : Nat} {f : ByteArray → Option Nat} (h : IsMM w p b n f) : ∃ es clock, w.heap[b]? = some (.map es clock) := by
  obtain ⟨_, ⟨es, clock, hb, _⟩, _⟩ := h.own
  exact ⟨es, clock, hb⟩
theorem IsMM.blt {w : World} {p b n : Nat} {f : ByteArray → Option Nat} (h : IsMM w p b n f) : b < w.heap.size := by
  obtain ⟨_, ho, _⟩ := h.own
  exact ho.lt
theorem IsMM.plt {w : World} {p b n : Nat} {f : ByteArray → Option Nat} (h : IsMM w p b n f) : p < w.heap.size := lt_of_cell h.cell
/-- What is a row of cells is no map. -/
theorem ne_of_cell {w : World} {b : Nat} {es : Array MapEntry} {clock : Nat} (hb : w.heap[b]? = some (.map es clock)) {a : Addr} {v : Value} (hc : w.cell? a = some v) : a.block ≠ b := by
  intro e
  simp [World.cell?, e, hb] at hc
theorem IsMM.ne_cell {w : World} {p b n : Nat} {f : ByteArray → Option Nat} (h : IsMM w p b n f) {a : Addr} {v : Value} (hc : w.cell? a = some v) : a.block ≠ b := by
  obtain ⟨es, clock, hb⟩ := h.bmap
  exact ne_of_cell hb hc
theorem IsMM.ne {w : World} {p b n : Nat} {f : ByteArray → Option Nat} (h : IsMM w p b n f) : p ≠ b := h.ne_cell h.cell

theorem IsMM.mono {w : World} {p b n m : Nat} {f : ByteArray → Option Nat} (h : IsMM w p b n f) (hn : n ≤ m) : IsMM w p b m f := by
  obtain ⟨hc, D, ho, hh⟩ := h
  exact ⟨hc, D, ho.mono hn, hh⟩

/-- It stays while other blocks are written and new ones are made. -/
theorem IsMM.kept {w w' : World} {p b n : Nat} {f : ByteArray → Option Nat} {row : Option Nat} (h : IsMM w p b n f) (hg : w.grownBy w' row) (hp : some p ≠ row) (hb : some b ≠ row) : IsMM w' p b n f := by
  have hpl := h.plt
  obtain ⟨hc, D, ho, hh⟩ := h
  exact ⟨(hg.block p hpl hp).trans hc, D, ho.kept hg hb, hh⟩

/-! ### GetSourceModule -/
theorem look_hit {w : World} {p b n : Nat} {f : ByteArray → Option Nat} (h : IsMM w p b n f) {s : ByteArray} (hs : s.size ≤ maxLen) {g : Nat} (hf : f s = some g) :
    (Instr.lookup 49 (.map (some b)) (.string s) false).run Eaog.prog w = .ok (.iface 29 (.pointer (some ⟨g, 0, none⟩))) w := by
  obtain ⟨hc, D, ho, hh⟩ := h
  obtain ⟨v, ps, hrun, hv⟩ := ho.lookup law9 Eaog.underlying49 (zero54 w) (modElem_mk none) (keyOf_key hs)
  rw [hh.at_ s g hf] at hv
  obtain ⟨c, rfl, hy⟩ := modElem_inv hv
  obtain rfl := modD_some (congrArg Prod.fst hy).symm
  exact hrun

theorem look_miss {w : World} {p b n : Nat} {f : ByteArray → Option Nat} (h : IsMM w p b n f) {s : ByteArray} (hs : s.size ≤ maxLen) (hf : f s = none) :
    (Instr.lookup 49 (.map (some b)) (.string s) false).run Eaog.prog w = .ok .nilIface w := by
  obtain ⟨hc, D, ho, hh⟩ := h
  obtain ⟨v, ps, hrun, hv⟩ := ho.lookup law9 Eaog.underlying49 (zero54 w) (modElem_mk none) (keyOf_key hs)
  have h0 := hh.has s
  rw [hf] at h0
  rw [Maps.atKey_of_not_has h0] at hv
  obtain ⟨c, rfl, hy⟩ := modElem_inv hv
  obtain rfl := modD_nil (congrArg Prod.fst hy).symm
  exact hrun

theorem get_hit {w : World} {p b n : Nat} {f : ByteArray → Option Nat} {s : ByteArray} {g : Nat} (h : IsMM w p b n f) (hs : s.size ≤ maxLen) (hf : f s = some g) :
    Calls Eaog.prog 16 #[.pointer (some ⟨p, 0, none⟩), .string s] w fun e w' => e = .returned (.pointer (some ⟨g, 0, none⟩)) ∧ w' = w := by
  have hl := look_hit h hs hf
  have hc := h.cell
  have ha := assert_mod (.pointer (some ⟨g, 0, none⟩)) w
  clear h hf
  go_enter Eaog.func16, Eaog.ntmps16
  go_wp2
  go_ret
  exact ⟨rfl, rfl⟩

theorem get_miss {w : World} {p b n : Nat} {f : ByteArray → Option Nat} {s : ByteArray} (h : IsMM w p b n f) (hs : s.size ≤ maxLen) (hf : f s = none) :
    Calls Eaog.prog 16 #[.pointer (some ⟨p, 0, none⟩), .string s] w fun e w' => e = .returned (.pointer none) ∧ w' = w := by
  have hl := look_miss h hs hf
  have hc := h.cell
  have ha := assert_nil w
  clear h hf
  go_enter Eaog.func16, Eaog.ntmps16
  go_wp2
  go_ret
  exact ⟨rfl, rfl⟩

/-! ### Len -/
theorem len_any {w : World} {p b n : Nat} {f : ByteArray → Option Nat} (L : List ByteArray) (h : IsMM w p b n f) (hL : L.Nodup) (hm : ∀ s, s ∈ L ↔ (f s).isSome = true) :
    Calls Eaog.prog 13 #[.pointer (some ⟨p, 0, none⟩)] w fun e w' => e = .returned (.int .i64 (L.length : Nat)) ∧ w' = w := by
  have hc := h.cell
  obtain ⟨_, D, ho, hh⟩ := h
  have hsz := hh.size (ho.entries law9) L hL hm
  rw [← hsz]
  clear hsz hm hL hh
  go_enter Eaog.func13, Eaog.ntmps13
  go_wp2_with (first
    | (at_len; refine wpList_len_own _ rfl _ 49 rfl 9 54 Eaog.underlying49 _ b n D rfl ho ?_)
    | go_in)
  go_ret
  exact ⟨rfl, rfl⟩

/-! ### Remove -/
theorem remove_any {w : World} {p b n : Nat} {f : ByteArray → Option Nat} {s : ByteArray} (h : IsMM w p b n f) (hs : s.size ≤ maxLen) :
    Calls Eaog.prog 21 #[.pointer (some ⟨p, 0, none⟩), .string s] w fun e w' => e = .returned (.tuple #[]) ∧ IsMM w' p b n (upd f s none) ∧ w.grownBy w' (some b) := by
  have hne := h.ne
  have hpl := h.plt
  have hblk := h.blk
  have hc := h.cell
  obtain ⟨_, D, ho, hh⟩ := h
  have HB : Hid (w.heap[p]? = some (.cells #[.map (some b)] 51)) := hblk
  clear hblk
  have hkey := keyOf_key hs
  go_enter Eaog.func21, Eaog.ntmps21
  go_wp2_with (first
    | (at_delete; refine wpList_delete_own _ rfl _ _ 49 9 rfl 54 law9 Eaog.underlying49 _ b n D rfl ho _ _ rfl hkey ?_; intro w1 hown1 hturn1)
    | go_in)
  go_end0
  exact ⟨rfl, ⟨(hturn1.grown.block p hpl (by simpa using hne)).trans HB.out, _, hown1, hh.del s⟩, hturn1.grown⟩

/-! ### AddSourceModule -/
theorem add_any {w : World} {p b n : Nat} {f : ByteArray → Option Nat} {s : ByteArray} {a : Option Addr} {l c : Nat} (h : IsMM w p b n f) (hs : s.size ≤ maxLen) (hn : n < maxLen) :
    Calls Eaog.prog 23 #[.pointer (some ⟨p, 0, none⟩), .string s, .slice a l c] w fun e w' => e = .returned (.tuple #[]) ∧ IsMM w' p b (n + 1) (upd f s (some w.heap.size)) ∧
      w'.cell? ⟨w.heap.size, 0, none⟩ = some (.slice a l c) ∧ w.grownBy w' (some b) := by
  have hne := h.ne
  have hpl := h.plt
  have hbl := h.blt
  have hblk := h.blk
  have hc := h.cell
  obtain ⟨_, D, ho, hh⟩ := h
  have HB : Hid (w.heap[p]? = some (.cells #[.map (some b)] 51)) := hblk
  clear hblk
  have hkey := keyOf_key hs
  go_enter Eaog.func23, Eaog.ntmps23
  go_wp2_with (first
    | (at_mapUpdate; refine wpList_mapUpdate_own _ rfl _ _ _ 49 rfl 9 54 law9 Eaog.underlying49 _ b n D rfl (ho.alloc _) hn _ _ _ rfl rfl hkey _ [] (modElem_mk (some w.heap.size)) ?_; intro w1 hown1 hgrow1)
    | go_in)
  go_end0
  have hgr : w.grownBy w1 (some b) := (World.grownBy_alloc w _ _).trans hgrow1
  refine ⟨rfl, ⟨(hgr.block p hpl (by simpa using hne)).trans HB.out, _, hown1, hh.put ho.isMap s w.heap.size⟩, ?_, hgr⟩
  rw [World.cell?_of_block (w := w.alloc (.cells #[.slice a l c] 33)) (hgrow1.block w.heap.size (by simp) (by simpa using Nat.ne_of_gt hbl))]
  simp

/-! ### NewModuleMap -/
theorem blk_new (w : World) (o : Obj) (i : Nat) (h : i = w.heap.size) : (w.alloc o).heap[i]? = some o := by
  subst h
  show (w.heap.push o)[w.heap.size]? = _
  simp

theorem new_any (w : World) :
    Calls Eaog.prog 19 #[] w fun e w' => e = .returned (.pointer (some ⟨w.heap.size + 1, 0, none⟩)) ∧ IsMM w' (w.heap.size + 1) w.heap.size 0 (fun _ => none) ∧ w.grownBy w' none ∧ w'.heap.size = w.heap.size + 2 := by
  have hmm := @run_makeMap Eaog.prog
  go_enter Eaog.func19, Eaog.ntmps19
  go_wp2
  go_ret
  refine ⟨rfl, ⟨?_, .map [], (World.ownsMap_made _ _ _ _).alloc _, Holds.empty⟩, (World.grownBy_alloc _ _ _).trans (World.grownBy_alloc _ _ _), by simp⟩
  exact blk_new _ _ _ (by simp)

end Go.Proofs.Yoeaow
