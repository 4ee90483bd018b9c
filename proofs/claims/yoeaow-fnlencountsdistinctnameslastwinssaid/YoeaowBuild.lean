/-
  Seat oeao: zzBuild: A ModuleMap OF THE NAMES, EACH WITH THE SOURCE OF ITS LAST ADDITION ('Built').
-/
import Derived.Test.YoeaowMaps
import Derived.Deep.RegionWith
namespace Go.Proofs.Yoeaow
open Go.RowKit
open Go.Proofs.Yoeaow.Pl

/-- BLOCK g IS A SourceModule WHOSE Src HOLDS THE BYTES OF s. -/
def IsSrc (w : World) (g : Nat) (s : ByteArray) : Prop :=
  ∃ h cap, w.cell? ⟨g, 0, none⟩ = some (.slice (some ⟨h, 0, none⟩) s.size cap) ∧ ∀ (j : Nat) (hj : j < s.data.size), w.cell? ⟨h, j, none⟩ = some (.int .u8 (s.data[j].toNat : Int))

/-- Every cell that was there holds what it held. -/
def Cells (w w' : World) : Prop := ∀ a v, w.cell? a = some v → w'.cell? a = some v
theorem Cells.refl (w : World) : Cells w w := fun _ _ h => h
theorem Cells.trans {a b c : World} (h : Cells a b) (k : Cells b c) : Cells a c := fun x v hv => k x v (h x v hv)
theorem Cells.heap {w w' : World} (h : w'.heap = w.heap) : Cells w w' := fun a v hv => by
  unfold World.cell? at hv ⊢
  rw [h]; exact hv
theorem Cells.grown {w w' : World} (h : w.grownBy w' none) : Cells w w' := fun a v hv => (World.cell?_of_block (w := w) (h.block a.block (lt_of_cell hv) (by simp))).trans hv
theorem Cells.grownMap {w w' : World} {b : Nat} (h : w.grownBy w' (some b)) (hb : ∃ es clock, w.heap[b]? = some (.map es clock)) : Cells w w' := fun a v hv => by
  obtain ⟨es, clock, hb⟩ := hb
  exact (World.cell?_of_block (w := w) (h.block a.block (lt_of_cell hv) (by simpa using ne_of_cell hb hv))).trans hv

theorem IsSrc.carry {w w' : World} {g : Nat} {s : ByteArray} (h : IsSrc w g s) (hc : Cells w w') : IsSrc w' g s := by
  obtain ⟨b, cap, h1, h2⟩ := h
  exact ⟨b, cap, hc _ _ h1, fun j hj => hc _ _ (h2 j hj)⟩
theorem StrsAt.cells {w w' : World} {a : Option Addr} {n b off : Nat} {ss : List ByteArray} (h : StrsAt w a n b off ss) (hc : Cells w w') : StrsAt w' a n b off ss :=
  ⟨h.len, h.addr, fun k x hx => hc _ _ (h.cell k x hx)⟩

/-- f HOLDS JUST THE NAMES, each with a module whose source is that of the name's last addition; the modules lie from block B on. -/
structure Built (w : World) (B : Nat) (names srcs : List ByteArray) (f : ByteArray → Option Nat) : Prop where
  no : ∀ s, s ∉ names → f s = none
  yes : ∀ s, s ∈ names → ∃ g, f s = some g ∧ B ≤ g ∧ IsSrc w g (srcAt srcs (lastIx names s))

theorem Built.carry {w w' : World} {B : Nat} {names srcs : List ByteArray} {f : ByteArray → Option Nat} (h : Built w B names srcs f) (hc : Cells w w') : Built w' B names srcs f :=
  ⟨h.no, fun s hs => by obtain ⟨g, h1, h2, h3⟩ := h.yes s hs; exact ⟨g, h1, h2, h3.carry hc⟩⟩

theorem Built.step {w w' : World} {B : Nat} {names srcs : List ByteArray} {f : ByteArray → Option Nat} {k : Nat} {x : ByteArray} {g : Nat} (h : Built w B (names.take k) srcs f) (hc : Cells w w') (hx : names[k]? = some x) (hB : B ≤ g) (hs : IsSrc w' g (srcAt srcs (k : Int))) :
    Built w' B (names.take (k + 1)) srcs (upd f x (some g)) := by
  have e : names.take (k + 1) = names.take k ++ [x] := by rw [List.take_add_one, hx]; rfl
  refine ⟨fun s hn => ?_, fun s hm => ?_⟩
  · rw [e, List.mem_append, List.mem_singleton, not_or] at hn
    rw [upd_other _ _ hn.2, h.no s hn.1]
  · by_cases hxs : s = x
    · subst hxs
      rw [upd_same, lastIx_take_succ names s k s hx, if_pos rfl]
      exact ⟨g, rfl, hB, hs⟩
    · rw [e, List.mem_append, List.mem_singleton] at hm
      obtain ⟨g', h1, h2, h3⟩ := h.yes s (hm.resolve_right hxs)
      rw [upd_other _ _ hxs, lastIx_take_succ names s k x hx, if_neg (fun e => hxs e.symm)]
      exact ⟨g', h1, h2, h3.carry hc⟩

theorem IsMM.heap {w w' : World} {p b n : Nat} {f : ByteArray → Option Nat} (hh : w'.heap = w.heap) (h : IsMM w p b n f) : IsMM w' p b n f := by
  obtain ⟨hc, D, ⟨es, clock, hb, r⟩, hD⟩ := h
  exact ⟨by rw [hh]; exact hc, D, ⟨es, clock, by rw [hh]; exact hb, r⟩, hD⟩
theorem IsMM.alloc {w : World} {p b n : Nat} {f : ByteArray → Option Nat} (h : IsMM w p b n f) (o : Obj) : IsMM (w.alloc o) p b n f := h.kept (World.grownBy_alloc w o none) (by simp) (by simp)

theorem conv_bytes (w : World) (s : ByteArray) : (convert 9 31 (.string s)).run Eaog.prog w = .ok (.slice (some ⟨w.heap.size, 0, none⟩) s.size (grownCap w s.size 0 5))
      (w.drew.alloc (.cells (bytesRow s (grownCap w s.size 0 5)) 5 ((bytesRow s (grownCap w s.size 0 5)).size, (bytesRow s (grownCap w s.size 0 5)).size + 1))) :=
  run_bytes_of_string w 9 31 5 s Eaog.underlying9 Eaog.underlying31 Eaog.underlying5

theorem grownBy_drew {w w' : World} {r : Option Nat} (h : w.grownBy w' r) : w.grownBy w'.drew r := ⟨h.os, h.tape, h.output, h.size, h.block⟩

/-- The bytes that '[]byte(s)' has laid. -/
theorem bytes_new (w : World) (s : ByteArray) (cap : Nat) (fr : Nat × Nat) (j : Nat) (hj : j < s.data.size) : (w.alloc (.cells (bytesRow s cap) 5 fr)).cell? ⟨w.heap.size, j, none⟩ = some (.int .u8 (s.data[j].toNat : Int)) := by
  rw [World.cell?_alloc_mark, bytesRow_at s cap j hj]

/-- AddSourceModule, behind it: the new module's source. -/
theorem src_new {W w3 : World} {g h cap : Nat} {s : ByteArray} (hWc : ∀ (j : Nat) (hj : j < s.data.size), W.cell? ⟨h, j, none⟩ = some (.int .u8 (s.data[j].toNat : Int))) (hc : Cells W w3)
    (hc3 : w3.cell? ⟨g, 0, none⟩ = some (.slice (some ⟨h, 0, none⟩) s.size cap)) : IsSrc w3 g s :=
  ⟨h, cap, hc3, fun j hj => hc _ _ (hWc j hj)⟩

/-- One round of zzBuild. -/
theorem build_step {w wr w3 : World} {p k cap : Nat} {fr : Nat × Nat} {f : ByteArray → Option Nat} {names srcs : List ByteArray} {x : ByteArray} (hmm : IsMM wr p w.heap.size k f) (hbt : Built wr w.heap.size (names.take k) srcs f) (hgw : w.grownBy wr none) (hx : names[k]? = some x)
    (hc3 : w3.cell? ⟨(wr.alloc (.cells (bytesRow (srcAt srcs (k : Int)) cap) 5 fr)).drew.drew.heap.size, 0, none⟩ = some (.slice (some ⟨wr.heap.size, 0, none⟩) (srcAt srcs (k : Int)).size cap))
    (hg3 : (wr.alloc (.cells (bytesRow (srcAt srcs (k : Int)) cap) 5 fr)).drew.drew.grownBy w3 (some w.heap.size)) :
    Built w3 w.heap.size (names.take (k + 1)) srcs (upd f x (some (wr.alloc (.cells (bytesRow (srcAt srcs (k : Int)) cap) 5 fr)).drew.drew.heap.size)) ∧ w.grownBy w3 none := by
  have hgW : wr.grownBy (wr.alloc (.cells (bytesRow (srcAt srcs (k : Int)) cap) 5 fr)).drew.drew none := grownBy_drew (grownBy_drew (World.grownBy_alloc wr _ none))
  have hmW : IsMM (wr.alloc (.cells (bytesRow (srcAt srcs (k : Int)) cap) 5 fr)).drew.drew p w.heap.size k f := hmm.kept hgW (by simp) (by simp)
  have hcW : Cells (wr.alloc (.cells (bytesRow (srcAt srcs (k : Int)) cap) 5 fr)).drew.drew w3 := Cells.grownMap hg3 hmW.bmap
  refine ⟨hbt.step ((Cells.grown hgW).trans hcW) hx ?_ (src_new (fun j hj => bytes_new wr _ cap fr j hj) hcW hc3), (hgw.trans hgW).andThen hg3 (fun j hj => by cases hj; exact Or.inl (Nat.le_refl _))⟩
  have := hgw.size
  have := hgW.size
  omega


set_option maxHeartbeats 400000 in
theorem build_any (a0 : Option Addr) (n0 cap0 b0 off0 : Nat) (names : List ByteArray) (a1 : Option Addr) (n1 cap1 b1 off1 : Nat) (srcs : List ByteArray) (w : World) (h0 : StrsAt w a0 n0 b0 off0 names) (h1 : StrsAt w a1 n1 b1 off1 srcs)
    (hn0 : n0 ≤ 1048576) (hn1 : n1 ≤ 1048576) (hsz : ∀ s ∈ names, s.size ≤ maxLen) :
    Calls Eaog.prog 12 #[.slice a0 n0 cap0, .slice a1 n1 cap1] w fun e w' => e = .returned (.pointer (some ⟨w.heap.size + 1, 0, none⟩)) ∧
      ∃ f, IsMM w' (w.heap.size + 1) w.heap.size n0 f ∧ Built w' w.heap.size names srcs f ∧ w.grownBy w' none := by
  go_enter Eaog.func12, Eaog.ntmps12
  go_wp2_with (go_at_call 19; refine (new_any _).mono ?_; rintro e w1 ⟨rfl, hmm1, hg1, hz1⟩)
  go_loopw [6] (fun i wr => ∃ (k : Nat) (f : ByteArray → Option Nat), k ≤ n0 ∧ i = .int .i64 k ∧ IsMM wr (w.heap.size + 1) w.heap.size k f ∧ Built wr w.heap.size (names.take k) srcs f ∧ w.grownBy wr none) (fun i _ => n0 - (intOf i).toNat)
  case atStart => exact ⟨0, _, Nat.zero_le _, rfl, hmm1, ⟨fun _ _ => rfl, fun s hs => by simp at hs⟩, hg1⟩
  case round =>
    obtain ⟨k, f, hk, rfl, hmm, hbt, hgw⟩ := hrel
    have hcw := Cells.grown hgw
    by_cases hlt : k < n0
    · obtain ⟨x, hx⟩ := h0.get hlt
      have hi := h0.idx cap0 hlt
      have hc := (h0.cells hcw).cell k x hx
      have h1r := h1.cells hcw
      have hxs := hsz x (List.mem_of_getElem? hx)
      have hcv := conv_bytes
      have hcA : ∀ o : Obj, (wr.alloc o).cell? ⟨b0, off0 + k, none⟩ = some (.string x) := fun o => Cells.grown (World.grownBy_alloc wr o none) _ _ hc
      have hkm : k < maxLen := by unfold maxLen; omega
      have HX : Hid (names[k]? = some x) := hx
      clear hx hsz
      go_wp2_with fail
      go_region_with (first
        | (go_at_call 17; refine (srcAt_any a1 n1 cap1 b1 off1 srcs _ _ ?_ hn1).mono ?_; exact h1r.cells (Cells.heap rfl); rintro e w' ⟨rfl, rfl⟩)
        | (go_at_call 23; refine (add_any (p := w.heap.size + 1) (b := w.heap.size) (n := k) (f := f) ?_ hxs hkm).mono ?_; exact IsMM.heap (w := wr.alloc _) rfl (hmm.alloc _); rintro e w3 ⟨rfl, hmm3, hc3, hg3⟩))
      all_goals
        have R := build_step hmm hbt hgw HX.out hc3 hg3
        clear hc3 hg3 hcA hcv hi hc
        go_wp2
        go_roundw
        case rel => exact ⟨k + 1, _, by omega, by go_num, hmm3, R.1, R.2⟩
        case measure => simp [intOf]; omega
    · go_wp2
      go_ret
      have e : k = n0 := by omega
      subst e
      refine ⟨rfl, f, hmm, ?_, hgw⟩
      rw [List.take_of_length_le (by rw [h0.len]; omega)] at hbt
      exact hbt

end Go.Proofs.Yoeaow
