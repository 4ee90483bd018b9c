/-
  Seat oeao: THE PLAIN MATHEMATICS: lists of strings, the last place of a string, counts of different names. No Go in sight.
-/
namespace Go.Proofs.Yoeaow.Pl

/-- Bytes of all strings together. -/
def total : List ByteArray → Nat
  | [] => 0
  | x :: r => x.size + total r

theorem total_append (a b : List ByteArray) : total (a ++ b) = total a + total b := by
  induction a with
  | nil => simp [total]
  | cons x r ih => simp [total, ih]; omega

theorem total_take_succ (l : List ByteArray) (k : Nat) (x : ByteArray) (h : l[k]? = some x) : total (l.take (k + 1)) = total (l.take k) + x.size := by
  rw [List.take_add_one, h, total_append]
  simp [total]

theorem size_le_total {l : List ByteArray} {x : ByteArray} (h : x ∈ l) : x.size ≤ total l := by
  induction l with
  | nil => cases h
  | cons y r ih =>
    simp only [total]
    rcases List.mem_cons.1 h with rfl | h
    · omega
    · have := ih h; omega

/-- The last place of s, counted from i on; acc where there is none. -/
def lastGo (s : ByteArray) : List ByteArray → Nat → Int → Int
  | [], _, acc => acc
  | x :: r, i, acc => lastGo s r (i + 1) (if x = s then (i : Int) else acc)

def lastIx (l : List ByteArray) (s : ByteArray) : Int := lastGo s l 0 (-1)

theorem lastGo_snoc (s x : ByteArray) : ∀ (l : List ByteArray) (i : Nat) (acc : Int), lastGo s (l ++ [x]) i acc = if x = s then ((i + l.length : Nat) : Int) else lastGo s l i acc
  | [], i, acc => by simp [lastGo]
  | y :: r, i, acc => by
    simp only [List.cons_append, lastGo, lastGo_snoc s x r, List.length_cons]
    split
    · congr 1; omega
    · rfl

theorem lastIx_take_succ (l : List ByteArray) (s : ByteArray) (k : Nat) (x : ByteArray) (h : l[k]? = some x) : lastIx (l.take (k + 1)) s = if x = s then (k : Int) else lastIx (l.take k) s := by
  have hk : k < l.length := (List.getElem?_eq_some_iff.1 h).1
  unfold lastIx
  rw [List.take_add_one, h]
  simp only [Option.toList_some]
  rw [lastGo_snoc]
  simp only [List.length_take, Nat.zero_add]
  rw [Nat.min_eq_left (by omega)]

theorem lastGo_absent (s : ByteArray) : ∀ (l : List ByteArray) (i : Nat) (acc : Int), s ∉ l → lastGo s l i acc = acc
  | [], _, _, _ => rfl
  | x :: r, i, acc, h => by
    simp only [List.mem_cons, not_or] at h
    simp only [lastGo]
    rw [if_neg (fun e => h.1 e.symm), lastGo_absent s r _ _ h.2]

theorem lastGo_present (s : ByteArray) : ∀ (l : List ByteArray) (i : Nat) (acc : Int), s ∈ l → ∃ j, lastGo s l i acc = ((i + j : Nat) : Int) ∧ l[j]? = some s ∧ s ∉ l.drop (j + 1)
  | [], _, _, h => by cases h
  | x :: r, i, acc, h => by
    simp only [lastGo]
    by_cases hr : s ∈ r
    · obtain ⟨j, h1, h2, h3⟩ := lastGo_present s r (i + 1) (if x = s then (i : Int) else acc) hr
      exact ⟨j + 1, by rw [h1]; congr 1; omega, by simpa using h2, by simpa using h3⟩
    · have hx : x = s := by
        rcases List.mem_cons.1 h with e | e
        · exact e.symm
        · exact absurd e hr
      rw [lastGo_absent s r _ _ hr, if_pos hx]
      exact ⟨0, by simp, by simp [hx], by simpa using hr⟩

theorem lastIx_absent {l : List ByteArray} {s : ByteArray} (h : s ∉ l) : lastIx l s = -1 := lastGo_absent s l 0 (-1) h

theorem lastIx_present {l : List ByteArray} {s : ByteArray} (h : s ∈ l) : ∃ j : Nat, lastIx l s = (j : Int) ∧ l[j]? = some s ∧ s ∉ l.drop (j + 1) := by
  obtain ⟨j, h1, h2⟩ := lastGo_present s l 0 (-1) h
  exact ⟨j, by unfold lastIx; rw [h1]; simp, h2⟩

theorem lastIx_neg {l : List ByteArray} {s : ByteArray} : lastIx l s < 0 ↔ s ∉ l := by
  constructor
  · intro h hm
    obtain ⟨j, h1, _⟩ := lastIx_present hm
    omega
  · intro h
    rw [lastIx_absent h]; omega

theorem lastIx_ge (l : List ByteArray) (s : ByteArray) : -1 ≤ lastIx l s := by
  by_cases h : s ∈ l
  · obtain ⟨j, h1, _⟩ := lastIx_present h; omega
  · rw [lastIx_absent h]; omega

theorem lastIx_lt (l : List ByteArray) (s : ByteArray) : lastIx l s < (l.length : Int) := by
  by_cases h : s ∈ l
  · obtain ⟨j, h1, h2, _⟩ := lastIx_present h
    have := (List.getElem?_eq_some_iff.1 h2).1
    omega
  · rw [lastIx_absent h]; omega

/-- The place k is the last one of the string that lies there, just if that string does not come again. -/
theorem lastIx_self {l : List ByteArray} {k : Nat} {x : ByteArray} (h : l[k]? = some x) : lastIx l x = (k : Int) ↔ x ∉ l.drop (k + 1) := by
  have hm : x ∈ l := List.mem_of_getElem? h
  obtain ⟨j, h1, h2, h3⟩ := lastIx_present hm
  have hk := (List.getElem?_eq_some_iff.1 h).1
  constructor
  · intro e
    have : j = k := by omega
    subst this
    exact h3
  · intro hn
    rw [h1]
    congr 1
    rcases Nat.lt_trichotomy j k with hl | hl | hl
    · exact absurd (List.mem_iff_getElem?.2 ⟨k - (j + 1), by rw [List.getElem?_drop, ← h]; congr 1; omega⟩) h3
    · exact hl
    · exact absurd (List.mem_iff_getElem?.2 ⟨j - (k + 1), by rw [List.getElem?_drop, ← h2]; congr 1; omega⟩) hn

/-- The first place of s, or -1. -/
def firstIx : List ByteArray → ByteArray → Int
  | [], _ => -1
  | x :: r, s => if x = s then 0 else if firstIx r s < 0 then -1 else firstIx r s + 1

theorem firstIx_absent {s : ByteArray} : ∀ {l : List ByteArray}, s ∉ l → firstIx l s = -1
  | [], _ => rfl
  | x :: r, h => by
    simp only [List.mem_cons, not_or] at h
    simp only [firstIx]
    rw [if_neg (fun e => h.1 e.symm), firstIx_absent h.2]
    rfl

theorem firstIx_at {s : ByteArray} : ∀ {l : List ByteArray} {k : Nat}, (∀ j, j < k → l[j]? ≠ some s) → l[k]? = some s → firstIx l s = (k : Int)
  | [], _, _, h => by simp at h
  | x :: r, 0, _, h => by
    simp at h
    simp [firstIx, h]
  | x :: r, k + 1, h0, h => by
    have hx : x ≠ s := fun e => h0 0 (by omega) (by simp [e])
    have ih := firstIx_at (l := r) (k := k) (fun j hj => by simpa using h0 (j + 1) (by omega)) (by simpa using h)
    simp only [firstIx]
    rw [if_neg hx, ih, if_neg (by omega)]
    omega

theorem firstIx_present {l : List ByteArray} {s : ByteArray} (h : s ∈ l) : ∃ k : Nat, firstIx l s = (k : Int) ∧ l[k]? = some s := by
  induction l with
  | nil => cases h
  | cons x r ih =>
    by_cases hx : x = s
    · exact ⟨0, by simp [firstIx, hx], by simp [hx]⟩
    · have hr : s ∈ r := by
        rcases List.mem_cons.1 h with e | e
        · exact absurd e.symm hx
        · exact e
      obtain ⟨k, h1, h2⟩ := ih hr
      exact ⟨k + 1, by simp only [firstIx]; rw [if_neg hx, h1, if_neg (by omega)]; omega, by simpa using h2⟩

/-- How many of the first k places pass the test. -/
def cntF (f : Nat → Bool) : Nat → Nat
  | 0 => 0
  | k + 1 => cntF f k + (if f k then 1 else 0)

theorem cntF_le (f : Nat → Bool) : ∀ k, cntF f k ≤ k
  | 0 => Nat.le_refl _
  | k + 1 => by
    have := cntF_le f k
    simp only [cntF]
    split <;> omega

theorem cntF_shift (f : Nat → Bool) : ∀ k, cntF f (k + 1) = (if f 0 then 1 else 0) + cntF (fun i => f (i + 1)) k
  | 0 => by simp [cntF]
  | k + 1 => by
    rw [cntF, cntF_shift f k]
    simp only [cntF]
    omega

theorem cntF_congr {f g : Nat → Bool} : ∀ k, (∀ i, i < k → f i = g i) → cntF f k = cntF g k
  | 0, _ => rfl
  | k + 1, h => by
    simp only [cntF]
    rw [cntF_congr k (fun i hi => h i (by omega)), h k (by omega)]

/-- Is x among them? -/
def hasB (l : List ByteArray) (x : ByteArray) : Bool := l.any (fun y => decide (y = x))
theorem hasB_iff {l : List ByteArray} {x : ByteArray} : hasB l x = true ↔ x ∈ l := by
  unfold hasB
  rw [List.any_eq_true]
  constructor
  · rintro ⟨y, hy, e⟩
    rw [decide_eq_true_iff] at e
    exact e ▸ hy
  · intro h
    exact ⟨x, h, decide_eq_true rfl⟩
theorem hasB_false {l : List ByteArray} {x : ByteArray} : hasB l x = false ↔ x ∉ l := by
  rw [← hasB_iff]
  cases hasB l x <;> simp

/-- The different strings of a list that pass q, each once: where it lies last. -/
def lasts (q : ByteArray → Bool) : List ByteArray → List ByteArray
  | [] => []
  | x :: r => if (!hasB r x && q x) = true then x :: lasts q r else lasts q r

theorem cond_iff {q : ByteArray → Bool} {x : ByteArray} {r : List ByteArray} : (!hasB r x && q x) = true ↔ x ∉ r ∧ q x = true := by
  rw [Bool.and_eq_true, Bool.not_eq_true', hasB_false]

theorem mem_lasts (q : ByteArray → Bool) (s : ByteArray) : ∀ l : List ByteArray, s ∈ lasts q l ↔ s ∈ l ∧ q s = true
  | [] => by simp [lasts]
  | x :: r => by
    simp only [lasts]
    split
    · rename_i h
      rw [cond_iff] at h
      rw [List.mem_cons, mem_lasts q s r, List.mem_cons]
      constructor
      · rintro (rfl | ⟨a, b⟩)
        · exact ⟨Or.inl rfl, h.2⟩
        · exact ⟨Or.inr a, b⟩
      · rintro ⟨rfl | a, b⟩
        · exact Or.inl rfl
        · exact Or.inr ⟨a, b⟩
    · rename_i h
      rw [cond_iff] at h
      rw [mem_lasts q s r, List.mem_cons]
      constructor
      · rintro ⟨a, b⟩; exact ⟨Or.inr a, b⟩
      · rintro ⟨rfl | a, b⟩
        · by_cases hr : s ∈ r
          · exact ⟨hr, b⟩
          · exact absurd ⟨hr, b⟩ h
        · exact ⟨a, b⟩

theorem nodup_lasts (q : ByteArray → Bool) : ∀ l : List ByteArray, (lasts q l).Nodup
  | [] => by simp [lasts]
  | x :: r => by
    simp only [lasts]
    split
    · rename_i h
      rw [cond_iff] at h
      exact List.nodup_cons.2 ⟨fun hm => h.1 ((mem_lasts q x r).1 hm).1, nodup_lasts q r⟩
    · exact nodup_lasts q r

/-- What the loops count. -/
def isLast (l : List ByteArray) (q : ByteArray → Bool) (i : Nat) : Bool := decide (lastIx l (l.getD i ByteArray.empty) = (i : Int)) && q (l.getD i ByteArray.empty)

theorem cnt_lasts_aux (q : ByteArray → Bool) : ∀ l : List ByteArray, cntF (fun i => !hasB (l.drop (i + 1)) (l.getD i ByteArray.empty) && q (l.getD i ByteArray.empty)) l.length = (lasts q l).length
  | [] => rfl
  | x :: r => by
    rw [List.length_cons, cntF_shift]
    have ih := cnt_lasts_aux q r
    have e : cntF (fun i => !hasB ((x :: r).drop (i + 1 + 1)) ((x :: r).getD (i + 1) ByteArray.empty) && q ((x :: r).getD (i + 1) ByteArray.empty)) r.length = (lasts q r).length := by
      rw [← ih]
      refine cntF_congr _ (fun i _ => ?_)
      simp
    rw [e]
    simp only [lasts, List.getD_cons_zero, List.drop_succ_cons, List.drop_zero]
    cases (!hasB r x && q x)
    · simp
    · simp; omega

theorem cnt_lasts (q : ByteArray → Bool) (l : List ByteArray) : cntF (isLast l q) l.length = (lasts q l).length := by
  rw [← cnt_lasts_aux q l]
  refine cntF_congr _ (fun i hi => ?_)
  have h : l[i]? = some (l.getD i ByteArray.empty) := by rw [List.getD_eq_getElem?_getD, List.getElem?_eq_getElem hi]; rfl
  unfold isLast
  congr 1
  have e := lastIx_self h
  cases hb : hasB (l.drop (i + 1)) (l.getD i ByteArray.empty)
  · exact decide_eq_true (e.2 (hasB_false.1 hb))
  · exact decide_eq_false (fun h' => e.1 h' (hasB_iff.1 hb))

def yes (_ : ByteArray) : Bool := true

/-- What zzDistinct gives. -/
def distinctN (l : List ByteArray) : Nat := cntF (isLast l yes) l.length
theorem distinctN_eq (l : List ByteArray) : distinctN l = (lasts yes l).length := cnt_lasts yes l

/-- Is s none of a's? -/
def notIn (a : List ByteArray) (s : ByteArray) : Bool := decide (lastIx a s < 0)
theorem notIn_iff (a : List ByteArray) (s : ByteArray) : notIn a s = true ↔ s ∉ a := by
  unfold notIn; rw [decide_eq_true_iff]; exact lastIx_neg

/-- What zzUnion gives. -/
def unionN (a b : List ByteArray) : Nat := distinctN a + cntF (isLast b (notIn a)) b.length
theorem unionN_eq (a b : List ByteArray) : unionN a b = (lasts yes a ++ lasts (notIn a) b).length := by
  unfold unionN; rw [distinctN_eq, cnt_lasts, List.length_append]

theorem nodup_union (a b : List ByteArray) : (lasts yes a ++ lasts (notIn a) b).Nodup := by
  refine List.nodup_append.2 ⟨nodup_lasts _ _, nodup_lasts _ _, fun x hx y hy e => ?_⟩
  subst e
  exact ((notIn_iff a x).1 ((mem_lasts _ _ _).1 hy).2) ((mem_lasts _ _ _).1 hx).1

theorem mem_union (a b : List ByteArray) (s : ByteArray) : s ∈ lasts yes a ++ lasts (notIn a) b ↔ s ∈ a ∨ s ∈ b := by
  rw [List.mem_append, mem_lasts, mem_lasts, notIn_iff]
  by_cases h : s ∈ a <;> simp [h, yes]

/-- What zzSrcAt gives. -/
def srcAt (srcs : List ByteArray) (i : Int) : ByteArray := if i < 0 then ByteArray.empty else srcs.getD i.toNat ByteArray.empty

/-- A list without repeats that lies in another is no longer than it. -/
theorem length_le_of_subset {α : Type} [DecidableEq α] : ∀ {l m : List α}, l.Nodup → (∀ x, x ∈ l → x ∈ m) → l.length ≤ m.length
  | [], _, _, _ => Nat.zero_le _
  | x :: r, m, hn, hs => by
    obtain ⟨h1, h2⟩ := List.nodup_cons.1 hn
    have hx : x ∈ m := hs x (by simp)
    have ih := length_le_of_subset (m := m.erase x) h2 (fun y hy => (List.mem_erase_of_ne (fun e => h1 (by rw [← e]; exact hy))).2 (hs y (by simp [hy])))
    rw [List.length_erase_of_mem hx] at ih
    have := List.length_pos_of_mem hx
    simp only [List.length_cons]
    omega

theorem length_eq_of_mem {α : Type} [DecidableEq α] {l m : List α} (hl : l.Nodup) (hm : m.Nodup) (h : ∀ x, x ∈ l ↔ x ∈ m) : l.length = m.length :=
  Nat.le_antisymm (length_le_of_subset hl (fun x hx => (h x).1 hx)) (length_le_of_subset hm (fun x hx => (h x).2 hx))

end Go.Proofs.Yoeaow.Pl
