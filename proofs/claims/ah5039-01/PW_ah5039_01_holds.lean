import PyProof.Rows.All
import Wide.All
import OpenK.AllK
import Wide.FinOn
import PyProof.Rows.SetFrom
import KE.KStar
import KE.KBoundM
import KE.LcTurns
import KE.KLcFree
import PyProof.ZipIter
import PyProof.Draws
import PyProof.SumWalkG
import PyProof.MinMaxWalk
import PyProof.SeqI3
import KE.RegKCallOwn
import PyProof.TupleKey
import KE.KPop
import PyProof.Rows.StrNews2
import PyProof.Rows.ListMul
import PyProof.Rows.ListMulCarried
import PyProof.ListNew
import PyProof.EnumMake
import KE.KMinBuiltin
import KE.KStateDown
import PyProof.Rows.StrSigns2
import PyProof.Rows.StrWeight2
import PyProof.Rows.ReprOcc
import PyProof.Rows.StrFin3
import KE.KSlice
import Lean
import PySem.Challenge.RW_ah5039_01
set_option Elab.async false
set_option linter.unusedVariables false
section
set_option autoImplicit false
namespace Mine
/-- a text as the list of its signs -/
abbrev Tx := List Nat

/-- the length of the longest common front -/
def lcp : Tx → Tx → Nat
  | a :: as, b :: bs => if a = b then lcp as bs + 1 else 0
  | _, _ => 0

theorem lcp_le_left : ∀ (xs ys : Tx), lcp xs ys ≤ xs.length
  | [], _ => by simp [lcp]
  | _ :: _, [] => by simp [lcp]
  | a :: as, b :: bs => by
    unfold lcp; split
    · have := lcp_le_left as bs; simp; omega
    · simp
theorem lcp_le_right : ∀ (xs ys : Tx), lcp xs ys ≤ ys.length
  | [], _ => by simp [lcp]
  | _ :: _, [] => by simp [lcp]
  | a :: as, b :: bs => by
    unfold lcp; split
    · have := lcp_le_right as bs; simp; omega
    · simp
/-- signs agree below it -/
theorem lcp_agree : ∀ (xs ys : Tx) (k : Nat), k < lcp xs ys → xs[k]? = ys[k]?
  | [], _, k, h => by simp [lcp] at h
  | _ :: _, [], k, h => by simp [lcp] at h
  | a :: as, b :: bs, k, h => by
    unfold lcp at h; split at h
    · rename_i e
      cases k with
      | zero => simp [e]
      | succ k => simpa using lcp_agree as bs k (by omega)
    · omega
/-- so far the signs agree, and here they part or one of the two ends: that is the length -/
theorem lcp_stop : ∀ (xs ys : Tx) (k : Nat), k ≤ xs.length → k ≤ ys.length → (∀ q, q < k → xs[q]? = ys[q]?) → (k = xs.length ∨ k = ys.length ∨ xs[k]? ≠ ys[k]?) → lcp xs ys = k
  | [], ys, k, h1, _, _, _ => by simp at h1; simp [lcp, h1]
  | a :: as, [], k, _, h2, _, _ => by simp at h2; simp [lcp, h2]
  | a :: as, b :: bs, k, h1, h2, h3, h4 => by
    cases k with
    | zero =>
      have : a ≠ b := by simpa using h4
      simp [lcp, this]
    | succ k =>
      have e : a = b := by simpa using h3 0 (by omega)
      have := lcp_stop as bs k (by simpa using h1) (by simpa using h2) (fun q hq => by simpa using h3 (q + 1) (by omega)) (by simpa using h4)
      simp [lcp, e, this]

/-! the pair of nested loops that keeps the first place of the greatest common run -/
def stIn (xs ys : Tx) (a : Nat) (acc : Nat × Nat) (b : Nat) : Nat × Nat :=
  if acc.2 < lcp (xs.drop a) (ys.drop b) then (a, lcp (xs.drop a) (ys.drop b)) else acc
def stRow (xs ys : Tx) (a : Nat) (j : Nat) (acc : Nat × Nat) : Nat × Nat := (List.range j).foldl (stIn xs ys a) acc
def stAll (xs ys : Tx) (i : Nat) : Nat × Nat := (List.range i).foldl (fun acc a => stRow xs ys a ys.length acc) (0, 0)
theorem stRow_zero (xs ys : Tx) (a : Nat) (acc : Nat × Nat) : stRow xs ys a 0 acc = acc := rfl
theorem stRow_succ (xs ys : Tx) (a j : Nat) (acc : Nat × Nat) : stRow xs ys a (j + 1) acc = stIn xs ys a (stRow xs ys a j acc) j := by simp [stRow, List.range_succ]
theorem stAll_succ (xs ys : Tx) (i : Nat) : stAll xs ys (i + 1) = stRow xs ys i ys.length (stAll xs ys i) := by simp [stAll, List.range_succ]
def standart (xs ys : Tx) : Tx := (xs.drop (stAll xs ys xs.length).1).take (stAll xs ys xs.length).2
end Mine
namespace Mine
/-- p stands in t at i -/
abbrev At (p t : Tx) (i : Nat) : Prop := i + p.length ≤ t.length ∧ (t.drop i).take p.length = p
theorem at_infix {p t : Tx} {i : Nat} (h : At p t i) : p <:+: t :=
  ⟨t.take i, t.drop (i + p.length), by rw [List.append_assoc, ← h.2, List.length_take, List.length_drop]
                                       have h1 := h.1
                                       rw [show min p.length (t.length - i) = p.length by omega, ← List.drop_drop, List.take_append_drop, List.take_append_drop]⟩
theorem infix_at {p t : Tx} (h : p <:+: t) : ∃ i, At p t i := by
  obtain ⟨a, b, rfl⟩ := h
  exact ⟨a.length, by simp, by rw [List.append_assoc, List.drop_left, List.take_left]⟩
theorem infix_iff_at (p t : Tx) : p <:+: t ↔ ∃ i, At p t i := ⟨infix_at, fun ⟨_, h⟩ => at_infix h⟩
/-- the first place of p in t -/
def firstAt (p t : Tx) : Nat := ((List.range (t.length + 1)).find? fun i => decide (At p t i)).getD 0
theorem firstAt_spec {p t : Tx} (h : p <:+: t) : At p t (firstAt p t) ∧ ∀ k, k < firstAt p t → ¬ At p t k := by
  obtain ⟨i, hi⟩ := infix_at h
  unfold firstAt
  cases hf : (List.range (t.length + 1)).find? fun i => decide (At p t i) with
  | none =>
    rw [List.find?_eq_none] at hf
    exact absurd (decide_eq_true hi) (hf i (List.mem_range.mpr (by have := hi.1; omega)))
  | some k =>
    rw [List.find?_range_eq_some] at hf
    refine ⟨of_decide_eq_true hf.1, fun j hj hc => ?_⟩
    have := hf.2.2 j hj
    rw [decide_eq_true hc] at this
    cases this
theorem firstAt_eq {p t : Tx} {i : Nat} (h : At p t i) (hn : ∀ k, k < i → ¬ At p t k) : firstAt p t = i := by
  obtain ⟨h1, h2⟩ := firstAt_spec (at_infix h)
  rcases Nat.lt_trichotomy (firstAt p t) i with h3 | h3 | h3
  · exact absurd h1 (hn _ h3)
  · exact h3
  · exact absurd h (h2 _ h3)
def bef (p t : Tx) : Tx := t.take (firstAt p t)
def aft (p t : Tx) : Tx := t.drop (firstAt p t + p.length)
theorem cut_eq {p t : Tx} (h : p <:+: t) : t = bef p t ++ (p ++ aft p t) := by
  obtain ⟨⟨h1, h2⟩, _⟩ := firstAt_spec h
  unfold bef aft
  conv => lhs; rw [← List.take_append_drop (firstAt p t) t, ← List.take_append_drop p.length (t.drop (firstAt p t)), h2, List.drop_drop]
end Mine
namespace Mine
theorem stIn_bound {xs ys : Tx} {a b : Nat} {acc : Nat × Nat} (ha : a < xs.length) (h : acc.1 + acc.2 ≤ xs.length) : (stIn xs ys a acc b).1 + (stIn xs ys a acc b).2 ≤ xs.length := by
  unfold stIn
  split
  · have := lcp_le_left (xs.drop a) (ys.drop b)
    simp at this
    simp; omega
  · exact h
theorem stRow_bound {xs ys : Tx} {a : Nat} (ha : a < xs.length) : ∀ (j : Nat) {acc : Nat × Nat}, acc.1 + acc.2 ≤ xs.length → (stRow xs ys a j acc).1 + (stRow xs ys a j acc).2 ≤ xs.length
  | 0, _, h => h
  | j + 1, acc, h => by rw [stRow_succ]; exact stIn_bound ha (stRow_bound ha j h)
theorem stAll_bound (xs ys : Tx) : ∀ i, i ≤ xs.length → (stAll xs ys i).1 + (stAll xs ys i).2 ≤ xs.length
  | 0, _ => by simp [stAll]
  | i + 1, h => by rw [stAll_succ]; exact stRow_bound (by omega) _ (stAll_bound xs ys i (by omega))
end Mine

end

section
set_option autoImplicit false
namespace Mine
/-! what LCSStr._custom computes -/
/-- the first of the shortest -/
def shortest : List Tx → Tx
  | [] => []
  | t :: r => r.foldl (fun m x => if x.length < m.length then x else m) t
/-- the pieces of a text, the longer first, of like length by place -/
def cands (s : Tx) : List Tx := ((List.range s.length).map fun k => s.length - k).flatMap fun n => (List.range (s.length - n + 1)).map fun a => (s.drop a).take n
def inAll (ts : List Tx) (p : Tx) : Bool := ts.all fun t => decide (p <:+: t)
def customOf (ts : List Tx) : Tx := ((cands (shortest ts)).find? (inAll ts)).getD []
/-- what LCSStr tells of two texts and more -/
def lcsOf (ts : List Tx) : Tx := if ts.length = 2 then standart (ts.getD 0 []) (ts.getD 1 []) else customOf ts
/-- the letters of all pieces -/
def lettersOf : Nat → List Tx → Nat
  | 0, _ => 0
  | f + 1, ts => if lcsOf ts = [] then 0 else lettersOf f (ts.map (bef (lcsOf ts))) + (lcsOf ts).length + lettersOf f (ts.map (aft (lcsOf ts)))
end Mine

end

section
set_option autoImplicit false
namespace Mine
theorem shortest_fold (r : List Tx) (t : Tx) : (r.foldl (fun m x => if x.length < m.length then x else m) t).length ≤ t.length ∧ ∀ x ∈ r, (r.foldl (fun m x => if x.length < m.length then x else m) t).length ≤ x.length := by
  induction r generalizing t with
  | nil => simp
  | cons y r ih =>
    simp only [List.foldl_cons]
    obtain ⟨h1, h2⟩ := ih (if y.length < t.length then y else t)
    have h3 : (if y.length < t.length then y else t).length ≤ t.length ∧ (if y.length < t.length then y else t).length ≤ y.length := by split <;> omega
    refine ⟨by omega, fun x hx => ?_⟩
    rcases List.mem_cons.mp hx with rfl | hx
    · omega
    · exact h2 x hx
theorem shortest_le (ts : List Tx) : ∀ t ∈ ts, (shortest ts).length ≤ t.length := by
  cases ts with
  | nil => simp
  | cons t r =>
    intro x hx
    obtain ⟨h1, h2⟩ := shortest_fold r t
    rcases List.mem_cons.mp hx with rfl | hx
    · exact h1
    · exact h2 x hx
theorem shortest_fold_mem (r : List Tx) (t : Tx) : r.foldl (fun m x => if x.length < m.length then x else m) t ∈ t :: r := by
  induction r generalizing t with
  | nil => simp
  | cons y r ih =>
    simp only [List.foldl_cons]
    have := ih (if y.length < t.length then y else t)
    rcases List.mem_cons.mp this with h | h
    · rw [h]; split <;> simp
    · exact .tail _ (.tail _ h)
theorem shortest_mem {ts : List Tx} (h : ts ≠ []) : shortest ts ∈ ts := by
  cases ts with
  | nil => exact absurd rfl h
  | cons t r => exact shortest_fold_mem r t
theorem lcp_nil_left (ys : Tx) : lcp [] ys = 0 := by unfold lcp; rfl
theorem lcp_nil_right (xs : Tx) : lcp xs [] = 0 := by cases xs <;> rfl
theorem stAll_right_nil (xs : Tx) : ∀ i, stAll xs [] i = (0, 0)
  | 0 => rfl
  | i + 1 => by rw [stAll_succ, stAll_right_nil xs i]; rfl
theorem standart_empty {xs ys : Tx} (h : xs = [] ∨ ys = []) : standart xs ys = [] := by
  rcases h with rfl | rfl
  · simp [standart]
  · simp [standart, stAll_right_nil]
theorem lcsOf_empty {ts : List Tx} (h : ∃ t ∈ ts, t = []) : lcsOf ts = [] := by
  obtain ⟨t, ht, rfl⟩ := h
  unfold lcsOf
  split
  · rename_i h2
    match ts, h2 with
    | [a, b], _ =>
      apply standart_empty
      simp at ht
      rcases ht with h | h <;> simp [← h]
  · have : (shortest ts).length ≤ 0 := by simpa using shortest_le ts [] ht
    have e : shortest ts = [] := List.eq_nil_of_length_eq_zero (by omega)
    simp [customOf, e, cands]
end Mine
namespace Mine
theorem take_eq_of_agree {xs ys : Tx} {k : Nat} (h1 : k ≤ xs.length) (h2 : k ≤ ys.length) (h : ∀ q, q < k → xs[q]? = ys[q]?) : xs.take k = ys.take k := by
  apply List.ext_getElem?
  intro q
  rw [List.getElem?_take, List.getElem?_take]
  split
  · exact h q (by assumption)
  · rfl
theorem lcp_take (xs ys : Tx) : xs.take (lcp xs ys) = ys.take (lcp xs ys) := take_eq_of_agree (lcp_le_left xs ys) (lcp_le_right xs ys) (lcp_agree xs ys)
/-- the pair kept by the loops: a place and a size of a common run -/
def Good (xs ys : Tx) (acc : Nat × Nat) : Prop := ∃ b, (xs.drop acc.1).take acc.2 = (ys.drop b).take acc.2 ∧ acc.1 + acc.2 ≤ xs.length ∧ b + acc.2 ≤ ys.length
theorem good_in {xs ys : Tx} {a b : Nat} {acc : Nat × Nat} (ha : a < xs.length) (hb : b < ys.length) (h : Good xs ys acc) : Good xs ys (stIn xs ys a acc b) := by
  unfold stIn
  split
  · refine ⟨b, lcp_take _ _, ?_, ?_⟩
    · have := lcp_le_left (xs.drop a) (ys.drop b); simp at this; dsimp only; omega
    · have := lcp_le_right (xs.drop a) (ys.drop b); simp at this; dsimp only; omega
  · exact h
theorem good_row {xs ys : Tx} {a : Nat} (ha : a < xs.length) : ∀ (j : Nat) {acc : Nat × Nat}, j ≤ ys.length → Good xs ys acc → Good xs ys (stRow xs ys a j acc)
  | 0, _, _, h => h
  | j + 1, acc, hj, h => by rw [stRow_succ]; exact good_in ha (by omega) (good_row ha j (by omega) h)
theorem good_all (xs ys : Tx) : ∀ i, i ≤ xs.length → Good xs ys (stAll xs ys i)
  | 0, _ => ⟨0, by simp [stAll], by simp [stAll], by simp [stAll]⟩
  | i + 1, h => by rw [stAll_succ]; exact good_row (by omega) _ (Nat.le_refl _) (good_all xs ys i (by omega))
theorem seg_infix (xs : Tx) (a n : Nat) : (xs.drop a).take n <:+: xs := (List.take_prefix _ _).isInfix.trans (List.drop_suffix _ _).isInfix
theorem standart_infix (xs ys : Tx) : standart xs ys <:+: xs ∧ standart xs ys <:+: ys := by
  unfold standart
  refine ⟨seg_infix _ _ _, ?_⟩
  obtain ⟨b, h, _⟩ := good_all xs ys xs.length (Nat.le_refl _)
  rw [h]; exact seg_infix _ _ _
theorem customOf_infix (ts : List Tx) : ∀ t ∈ ts, customOf ts <:+: t := by
  intro t ht
  unfold customOf
  cases h : (cands (shortest ts)).find? (inAll ts) with
  | none => exact ⟨[], t, by simp⟩
  | some p =>
    have := List.find?_some h
    unfold inAll at this
    rw [List.all_eq_true] at this
    simpa using this t ht
theorem lcsOf_infix (ts : List Tx) : ∀ t ∈ ts, lcsOf ts <:+: t := by
  unfold lcsOf
  split
  · rename_i h2
    match ts, h2 with
    | [a, b], _ =>
      intro t ht
      simp at ht
      obtain ⟨h3, h4⟩ := standart_infix a b
      rcases ht with rfl | rfl
      · exact h3
      · exact h4
  · exact customOf_infix ts
theorem firstAt_le {p t : Tx} (h : p <:+: t) : firstAt p t + p.length ≤ t.length := (firstAt_spec h).1.1
theorem bef_le {p t : Tx} (h : p <:+: t) : (bef p t).length + p.length ≤ t.length := by
  have := firstAt_le h
  simp [bef]; omega
theorem aft_le {p t : Tx} (h : p <:+: t) : (aft p t).length + p.length ≤ t.length := by
  have := firstAt_le h
  simp [aft]; omega
end Mine

end

section
set_option autoImplicit false
namespace Mine
theorem lettersOf_le : ∀ (f : Nat) (ts : List Tx), ∀ t ∈ ts, lettersOf f ts ≤ t.length
  | 0, _, _, _ => by simp [lettersOf]
  | f + 1, ts, t, ht => by
    unfold lettersOf
    split
    · omega
    · have hP := lcsOf_infix ts t ht
      have h1 := lettersOf_le f (ts.map (bef (lcsOf ts))) (bef (lcsOf ts) t) (List.mem_map_of_mem ht)
      have h2 := lettersOf_le f (ts.map (aft (lcsOf ts))) (aft (lcsOf ts) t) (List.mem_map_of_mem ht)
      have h3 := congrArg List.length (cut_eq hP)
      simp only [List.length_append] at h3
      omega
end Mine

end

section
set_option autoImplicit false
namespace Mine
abbrev pairGt (a b : Int × Int) : Bool := decide (a.1 > b.1 ∨ (a.1 = b.1 ∧ a.2 > b.2))
/-- the greatest of a list of pairs, the first of like ones -/
def topPair : Int × Int → List (Int × Int) → Int × Int
  | b, [] => b
  | b, p :: r => topPair (if pairGt p b then p else b) r
/-- the pairs that the law's helper finds at one place, for sizes up to n -/
def rowPairs (lead : Tx) (ts : List Tx) (at' n : Nat) : List (Int × Int) := ((List.range n).filter fun k => inAll ts ((lead.drop at').take (k + 1))).map fun k => (((k + 1 : Nat) : Int), -(at' : Int))
def foundTo (lead : Tx) (ts : List Tx) (i : Nat) : List (Int × Int) := (List.range i).flatMap fun a => rowPairs lead ts a (lead.length - a)
theorem rowPairs_succ (lead : Tx) (ts : List Tx) (a n : Nat) : rowPairs lead ts a (n + 1) = rowPairs lead ts a n ++ (if inAll ts ((lead.drop a).take (n + 1)) then [(((n + 1 : Nat) : Int), -(a : Int))] else []) := by
  unfold rowPairs
  rw [List.range_succ, List.filter_append, List.map_append]
  congr 1
  by_cases h : inAll ts ((lead.drop a).take (n + 1)) = true
  · simp [List.filter, h]
  · simp [List.filter, h]
theorem foundTo_succ (lead : Tx) (ts : List Tx) (i : Nat) : foundTo lead ts (i + 1) = foundTo lead ts i ++ rowPairs lead ts i (lead.length - i) := by
  unfold foundTo
  rw [List.range_succ, List.flatMap_append]
  simp
def leadOf (ts : List Tx) : Tx := if ts.length = 2 then ts.getD 0 [] else shortest ts
/-- what the law's helper computes -/
def pieceOf (ts : List Tx) : Tx :=
  ((leadOf ts).drop (-(topPair (0, 0) (foundTo (leadOf ts) ts (leadOf ts).length)).2).toNat).take (topPair (0, 0) (foundTo (leadOf ts) ts (leadOf ts).length)).1.toNat
end Mine

end

section
set_option autoImplicit false
namespace Mine
theorem topPair_mem (b : Int × Int) (ps : List (Int × Int)) : topPair b ps ∈ b :: ps := by
  induction ps generalizing b with
  | nil => simp [topPair]
  | cons p r ih =>
    unfold topPair
    have := ih (if pairGt p b then p else b)
    rcases List.mem_cons.mp this with h | h
    · rw [h]; split <;> simp
    · exact .tail _ (.tail _ h)
theorem foundTo_mem {lead : Tx} {ts : List Tx} {i : Nat} (hi : i ≤ lead.length) {q : Int × Int} (h : q ∈ foundTo lead ts i) :
    ∃ a k : Nat, q = ((k : Int), -(a : Int)) ∧ 1 ≤ k ∧ a < i ∧ a + k ≤ lead.length ∧ inAll ts ((lead.drop a).take k) = true := by
  unfold foundTo at h
  obtain ⟨a, ha, hq⟩ := List.mem_flatMap.mp h
  unfold rowPairs at hq
  obtain ⟨k, hk, rfl⟩ := List.mem_map.mp hq
  rw [List.mem_filter] at hk
  have h1 := List.mem_range.mp ha
  have h2 := List.mem_range.mp hk.1
  exact ⟨a, k + 1, rfl, by omega, h1, by omega, hk.2⟩
theorem topFound {lead : Tx} {ts : List Tx} : ∃ a k : Nat, topPair (0, 0) (foundTo lead ts lead.length) = ((k : Int), -(a : Int)) ∧ a + k ≤ lead.length := by
  rcases List.mem_cons.mp (topPair_mem (0, 0) (foundTo lead ts lead.length)) with h | h
  · exact ⟨0, 0, by rw [h]; rfl, by omega⟩
  · obtain ⟨a, k, e, _, _, h2, _⟩ := foundTo_mem (Nat.le_refl _) h
    exact ⟨a, k, e, h2⟩
end Mine

end

section
set_option autoImplicit false
namespace Mine
theorem letters_step (f : Nat) (ts : List Tx) : lettersOf (f + 1) ts = if lcsOf ts = [] then 0 else lettersOf f (ts.map (bef (lcsOf ts))) + (lcsOf ts).length + lettersOf f (ts.map (aft (lcsOf ts))) := rfl
theorem lettersOf_fuel : ∀ (f : Nat) (ts : List Tx), 2 ≤ ts.length → (ts.getD 0 []).length < f → lettersOf (f + 1) ts = lettersOf f ts
  | 0, _, _, h => absurd h (Nat.not_lt_zero _)
  | f + 1, ts, h2, h => by
    rw [letters_step (f + 1) ts, letters_step f ts]
    split
    · rfl
    · rename_i hP
      have hm : ts.getD 0 [] ∈ ts := by
        cases ts with
        | nil => simp at h2
        | cons a r => simp
      have hg : ∀ g : Tx → Tx, (ts.map g).getD 0 [] = g (ts.getD 0 []) := fun g => by
        cases ts with
        | nil => simp at h2
        | cons a r => rfl
      have hi := lcsOf_infix ts _ hm
      have h3 := bef_le hi
      have h4 := aft_le hi
      have hp : 0 < (lcsOf ts).length := List.length_pos_iff.mpr hP
      rw [lettersOf_fuel f (ts.map (bef (lcsOf ts))) (by simpa using h2) (by rw [hg]; omega), lettersOf_fuel f (ts.map (aft (lcsOf ts))) (by simpa using h2) (by rw [hg]; omega)]

/-! one piece: the greatest size, the least place -/
def Valid (lead : Tx) (ts : List Tx) (a k : Nat) : Prop := a + k ≤ lead.length ∧ inAll ts ((lead.drop a).take k) = true
def Pick (lead : Tx) (ts : List Tx) (r : Tx) : Prop := ∃ a k, r = (lead.drop a).take k ∧
  ((k = 0 ∧ ∀ a' k', 1 ≤ k' → ¬ Valid lead ts a' k') ∨ (1 ≤ k ∧ Valid lead ts a k ∧ (∀ a' k', Valid lead ts a' k' → k' ≤ k) ∧ ∀ a', a' < a → ¬ Valid lead ts a' k))
theorem Pick.same {lead : Tx} {ts : List Tx} {r r' : Tx} (h : Pick lead ts r) (h' : Pick lead ts r') : r = r' := by
  obtain ⟨a, k, rfl, h⟩ := h
  obtain ⟨a', k', rfl, h'⟩ := h'
  rcases h with ⟨rfl, h⟩ | ⟨h1, h2, h3, h4⟩ <;> rcases h' with ⟨rfl, h'⟩ | ⟨h1', h2', h3', h4'⟩
  · simp
  · exact absurd h2' (h _ _ h1')
  · exact absurd h2 (h' _ _ h1)
  · have e : k = k' := Nat.le_antisymm (h3' _ _ h2) (h3 _ _ h2')
    subst e
    rcases Nat.lt_trichotomy a a' with l | l | l
    · exact absurd h2 (h4' _ l)
    · rw [l]
    · exact absurd h2' (h4 _ l)

theorem topPair_ge (ps : List (Int × Int)) : ∀ b, ∀ q ∈ b :: ps, q.1 < (topPair b ps).1 ∨ (q.1 = (topPair b ps).1 ∧ q.2 ≤ (topPair b ps).2) := by
  induction ps with
  | nil =>
    intro b q hq
    rw [List.mem_singleton.mp hq]
    exact .inr ⟨rfl, Int.le_refl _⟩
  | cons p r ih =>
    intro b q hq
    unfold topPair
    have h0 := ih (if pairGt p b then p else b) (if pairGt p b then p else b) (.head _)
    have hb : b.1 < (if pairGt p b then p else b).1 ∨ (b.1 = (if pairGt p b then p else b).1 ∧ b.2 ≤ (if pairGt p b then p else b).2) := by
      split
      · rename_i h; rw [decide_eq_true_iff] at h; omega
      · exact .inr ⟨rfl, Int.le_refl _⟩
    have hp : p.1 < (if pairGt p b then p else b).1 ∨ (p.1 = (if pairGt p b then p else b).1 ∧ p.2 ≤ (if pairGt p b then p else b).2) := by
      split
      · exact .inr ⟨rfl, Int.le_refl _⟩
      · rename_i h; rw [decide_eq_true_iff] at h; omega
    generalize (if pairGt p b then p else b) = c at *
    rcases List.mem_cons.mp hq with rfl | hq
    · omega
    · rcases List.mem_cons.mp hq with rfl | hq
      · omega
      · exact ih c q (.tail _ hq)
theorem valid_found {lead : Tx} {ts : List Tx} {a k : Nat} (h : Valid lead ts a k) (hk : 1 ≤ k) : ((k : Int), -(a : Int)) ∈ foundTo lead ts lead.length := by
  unfold foundTo
  refine List.mem_flatMap.mpr ⟨a, List.mem_range.mpr (by have := h.1; omega), ?_⟩
  unfold rowPairs
  refine List.mem_map.mpr ⟨k - 1, ?_, ?_⟩
  · rw [List.mem_filter]
    refine ⟨List.mem_range.mpr (by have := h.1; omega), ?_⟩
    rw [show k - 1 + 1 = k by omega]
    exact h.2
  · rw [show k - 1 + 1 = k by omega]
theorem pick_found (lead : Tx) (ts : List Tx) : Pick lead ts ((lead.drop (-(topPair (0, 0) (foundTo lead ts lead.length)).2).toNat).take (topPair (0, 0) (foundTo lead ts lead.length)).1.toNat) := by
  have hge := topPair_ge (foundTo lead ts lead.length) (0, 0)
  have hge' : ∀ a k, 1 ≤ k → Valid lead ts a k → (k : Int) < (topPair (0, 0) (foundTo lead ts lead.length)).1 ∨ ((k : Int) = (topPair (0, 0) (foundTo lead ts lead.length)).1 ∧ -(a : Int) ≤ (topPair (0, 0) (foundTo lead ts lead.length)).2) :=
    fun a k hk hv => hge _ (.tail _ (valid_found hv hk))
  rcases List.mem_cons.mp (topPair_mem (0, 0) (foundTo lead ts lead.length)) with h | h
  · rw [h] at hge' ⊢
    refine ⟨0, 0, rfl, .inl ⟨rfl, fun a' k' hk hv => ?_⟩⟩
    have := hge' a' k' hk hv
    simp at this
    omega
  · obtain ⟨a, k, e, hk1, _, hb, hv⟩ := foundTo_mem (Nat.le_refl _) h
    rw [e] at hge' ⊢
    refine ⟨a, k, by simp, .inr ⟨hk1, ⟨hb, hv⟩, fun a' k' hv' => ?_, fun a' ha' hv' => ?_⟩⟩
    · rcases Nat.eq_zero_or_pos k' with h0 | h0
      · omega
      · have := hge' a' k' h0 hv'
        simp at this
        omega
    · have := hge' a' k hk1 hv'
      simp at this
      omega
end Mine

end

section
set_option autoImplicit false
namespace Mine
theorem findSome_range {α : Type} (f : Nat → Option α) : ∀ (m : Nat), (∃ k r, k < m ∧ (List.range m).findSome? f = some r ∧ f k = some r ∧ ∀ j, j < k → f j = none) ∨ ((List.range m).findSome? f = none ∧ ∀ k, k < m → f k = none)
  | 0 => .inr ⟨rfl, fun k hk => absurd hk (Nat.not_lt_zero _)⟩
  | m + 1 => by
    rw [List.range_succ, List.findSome?_append]
    rcases findSome_range f m with ⟨k, r, hk, e, h1, h2⟩ | ⟨e, h⟩
    · exact .inl ⟨k, r, by omega, by rw [e]; rfl, h1, h2⟩
    · rw [e]
      cases hf : f m with
      | none =>
        refine .inr ⟨by simp [hf], fun k hk => ?_⟩
        rcases Nat.lt_succ_iff_lt_or_eq.mp hk with h1 | rfl
        · exact h k h1
        · exact hf
      | some r => exact .inl ⟨m, r, by omega, by simp [hf], hf, fun j hj => h j hj⟩
theorem pick_custom (ts : List Tx) : Pick (shortest ts) ts (customOf ts) := by
  unfold customOf cands
  generalize shortest ts = s
  rw [List.find?_flatMap, List.findSome?_map]
  rcases findSome_range ((fun n => List.find? (inAll ts) ((List.range (s.length - n + 1)).map fun a => (s.drop a).take n)) ∘ fun k => s.length - k) s.length with ⟨k, r, hk, e, h1, h2⟩ | ⟨e, h⟩
  · rw [e]
    simp only [Function.comp_apply, List.find?_map] at h1 h2
    cases hq : (List.range (s.length - (s.length - k) + 1)).find? (inAll ts ∘ fun a => (s.drop a).take (s.length - k)) with
    | none => rw [hq] at h1; cases h1
    | some a =>
      rw [hq] at h1
      simp only [Option.map_some, Option.some.injEq] at h1
      rw [List.find?_range_eq_some] at hq
      obtain ⟨g1, g2, g3⟩ := hq
      have g2 := List.mem_range.mp g2
      refine ⟨a, s.length - k, h1.symm, .inr ⟨by omega, ⟨by omega, g1⟩, fun a' k' hv => ?_, fun a' ha' hv => ?_⟩⟩
      · rcases Nat.lt_or_ge (s.length - k) k' with hlt | hge
        · exfalso
          have hb := hv.1
          have h3 := h2 (s.length - k') (by omega)
          rw [Option.map_eq_none_iff, List.find?_eq_none] at h3
          have h4 := h3 a' (List.mem_range.mpr (by omega))
          simp only [Function.comp_apply] at h4
          rw [show s.length - (s.length - k') = k' by omega] at h4
          exact h4 hv.2
        · exact hge
      · have := g3 a' ha'
        simp only [Function.comp_apply] at this
        rw [hv.2] at this
        cases this
  · rw [e]
    refine ⟨0, 0, rfl, .inl ⟨rfl, fun a' k' hk' hv => ?_⟩⟩
    have hb := hv.1
    have h3 := h (s.length - k') (by omega)
    simp only [Function.comp_apply, List.find?_map] at h3
    rw [Option.map_eq_none_iff, List.find?_eq_none] at h3
    have h4 := h3 a' (List.mem_range.mpr (by omega))
    simp only [Function.comp_apply] at h4
    rw [show s.length - (s.length - k') = k' by omega] at h4
    exact h4 hv.2

theorem lcp_ge {xs ys : Tx} {k : Nat} (h1 : k ≤ xs.length) (h2 : k ≤ ys.length) (h : xs.take k = ys.take k) : k ≤ lcp xs ys := by
  induction k generalizing xs ys with
  | zero => omega
  | succ k ih =>
    cases xs with
    | nil => simp at h1
    | cons a as =>
      cases ys with
      | nil => simp at h2
      | cons b bs =>
        simp only [List.take_succ_cons, List.cons.injEq] at h
        unfold lcp
        rw [if_pos h.1]
        have := ih (by simpa using h1) (by simpa using h2) h.2
        omega
theorem valid_two {xs ys : Tx} {a k : Nat} (hk : 1 ≤ k) : Valid xs [xs, ys] a k ↔ ∃ b, b < ys.length ∧ k ≤ lcp (xs.drop a) (ys.drop b) := by
  unfold Valid inAll
  simp only [List.all_cons, List.all_nil, Bool.and_true, Bool.and_eq_true, decide_eq_true_iff]
  constructor
  · rintro ⟨h1, _, h2⟩
    obtain ⟨b, hb1, hb2⟩ := infix_at h2
    have hl : ((xs.drop a).take k).length = k := by simp; omega
    rw [hl] at hb1 hb2
    exact ⟨b, by omega, lcp_ge (by simp; omega) (by simp; omega) hb2.symm⟩
  · rintro ⟨b, hb, h⟩
    have h1 := lcp_le_left (xs.drop a) (ys.drop b)
    have h2 := lcp_le_right (xs.drop a) (ys.drop b)
    simp only [List.length_drop] at h1 h2
    have h3 := lcp_take (xs.drop a) (ys.drop b)
    refine ⟨by omega, seg_infix _ _ _, ?_⟩
    have h4 : (xs.drop a).take k = (ys.drop b).take k := by
      have := congrArg (List.take k) h3
      rwa [List.take_take, List.take_take, Nat.min_eq_left h] at this
    rw [h4]; exact seg_infix _ _ _

/-- what the loops keep: processed rows below i, and of row i the places below j -/
structure Kept (xs ys : Tx) (i j : Nat) (acc : Nat × Nat) : Prop where
  le : ∀ a' b', (a' < i ∧ b' < ys.length) ∨ (a' = i ∧ b' < j) → lcp (xs.drop a') (ys.drop b') ≤ acc.2
  at_ : 1 ≤ acc.2 → ∃ b, b < ys.length ∧ acc.2 = lcp (xs.drop acc.1) (ys.drop b)
  first : 1 ≤ acc.2 → ∀ a', a' < acc.1 → ∀ b', b' < ys.length → lcp (xs.drop a') (ys.drop b') < acc.2
  low : acc.1 ≤ i
theorem kept_in {xs ys : Tx} {i j : Nat} {acc : Nat × Nat} (hj : j < ys.length) (h : Kept xs ys i j acc) : Kept xs ys i (j + 1) (stIn xs ys i acc j) := by
  unfold stIn
  split
  · rename_i hlt
    refine ⟨fun a' b' hc => ?_, fun _ => ⟨j, hj, rfl⟩, fun _ a' ha' b' hb' => ?_, Nat.le_refl _⟩
    · rcases hc with ⟨h1, h2⟩ | ⟨h1, h2⟩
      · have := h.le a' b' (.inl ⟨h1, h2⟩); dsimp only; omega
      · rcases Nat.lt_succ_iff_lt_or_eq.mp h2 with h3 | rfl
        · have := h.le a' b' (.inr ⟨h1, h3⟩); dsimp only; omega
        · rw [h1]; exact Nat.le_refl _
    · have := h.le a' b' (.inl ⟨ha', hb'⟩); dsimp only; omega
  · rename_i hlt
    refine ⟨fun a' b' hc => ?_, h.at_, h.first, h.low⟩
    rcases hc with ⟨h1, h2⟩ | ⟨h1, h2⟩
    · exact h.le a' b' (.inl ⟨h1, h2⟩)
    · rcases Nat.lt_succ_iff_lt_or_eq.mp h2 with h3 | rfl
      · exact h.le a' b' (.inr ⟨h1, h3⟩)
      · rw [h1]; omega
theorem kept_row {xs ys : Tx} {i : Nat} {acc : Nat × Nat} (h : Kept xs ys i 0 acc) : ∀ j, j ≤ ys.length → Kept xs ys i j (stRow xs ys i j acc)
  | 0, _ => h
  | j + 1, hj => by rw [stRow_succ]; exact kept_in (by omega) (kept_row h j (by omega))
theorem kept_all (xs ys : Tx) : ∀ i, Kept xs ys i 0 (stAll xs ys i)
  | 0 => ⟨fun a' b' hc => by omega, fun h => by simp [stAll] at h, fun h => by simp [stAll] at h, Nat.le_refl _⟩
  | i + 1 => by
    rw [stAll_succ]
    have h := kept_row (kept_all xs ys i) ys.length (Nat.le_refl _)
    refine ⟨fun a' b' hc => ?_, h.at_, h.first, Nat.le_succ_of_le h.low⟩
    rcases hc with ⟨h1, h2⟩ | ⟨h1, h2⟩
    · rcases Nat.lt_succ_iff_lt_or_eq.mp h1 with h3 | rfl
      · exact h.le a' b' (.inl ⟨h3, h2⟩)
      · exact h.le a' b' (.inr ⟨rfl, h2⟩)
    · omega
theorem pick_standart (xs ys : Tx) : Pick xs [xs, ys] (standart xs ys) := by
  have h := kept_all xs ys xs.length
  unfold standart
  generalize stAll xs ys xs.length = acc at h
  refine ⟨acc.1, acc.2, rfl, ?_⟩
  rcases Nat.eq_zero_or_pos acc.2 with h0 | h0
  · refine .inl ⟨h0, fun a' k' hk hv => ?_⟩
    obtain ⟨b, hb, hle⟩ := (valid_two hk).mp hv
    have hl := hv.1
    have := h.le a' b (.inl ⟨by omega, hb⟩)
    omega
  · obtain ⟨b, hb, e⟩ := h.at_ h0
    refine .inr ⟨h0, (valid_two h0).mpr ⟨b, hb, by omega⟩, fun a' k' hv => ?_, fun a' ha' hv => ?_⟩
    · rcases Nat.eq_zero_or_pos k' with h1 | h1
      · omega
      · obtain ⟨b', hb', hle⟩ := (valid_two h1).mp hv
        have hl := hv.1
        have := h.le a' b' (.inl ⟨by omega, hb'⟩)
        omega
    · obtain ⟨b', hb', hle⟩ := (valid_two h0).mp hv
      have := h.first h0 a' ha' b' hb'
      omega
/-- the law's helper finds LCSStr's piece -/
theorem pieceOf_eq {ts : List Tx} (h : 2 ≤ ts.length) : pieceOf ts = lcsOf ts := by
  have h1 := pick_found (leadOf ts) ts
  change Pick (leadOf ts) ts (pieceOf ts) at h1
  refine h1.same ?_
  unfold leadOf lcsOf
  split
  · rename_i h2
    match ts, h2 with
    | [a, b], _ => exact pick_standart a b
  · exact pick_custom ts
end Mine

end

section
set_option autoImplicit false
namespace Mine
/-- the table of the longest common subsequence's lengths -/
def lcsT (xs ys : Tx) : Nat → Nat → Nat
  | 0, _ => 0
  | _ + 1, 0 => 0
  | i + 1, j + 1 => if xs[i]? = ys[j]? then lcsT xs ys i j + 1 else max (lcsT xs ys (i + 1) j) (lcsT xs ys i (j + 1))
theorem lcsT_zero_right (xs ys : Tx) (i : Nat) : lcsT xs ys i 0 = 0 := by cases i <;> simp [lcsT]
theorem sub_take_succ {p : Tx} {x : Nat} {A : Tx} {p' : Tx} {z : Nat} (h : p.Sublist (A ++ [x])) (e : p = p' ++ [z]) : p'.Sublist A ∧ (z = x ∨ p.Sublist A) := by
  subst e
  have h1 := (List.reverse_sublist.mpr h)
  rw [List.reverse_append, List.reverse_append] at h1
  simp only [List.reverse_cons, List.reverse_nil, List.nil_append, List.singleton_append] at h1
  cases h1 with
  | cons _ h2 =>
    have h3 : (p' ++ [z]).Sublist A := by
      have := List.reverse_sublist.mpr h2
      simpa using this
    exact ⟨(List.sublist_append_left p' [z]).trans h3, .inr h3⟩
  | cons_cons _ h2 => exact ⟨List.reverse_sublist.mp h2, .inl rfl⟩
theorem lcsT_bound (xs ys : Tx) : ∀ (i j : Nat) (p : Tx), i ≤ xs.length → j ≤ ys.length → p.Sublist (xs.take i) → p.Sublist (ys.take j) → p.length ≤ lcsT xs ys i j
  | 0, j, p, _, _, h1, _ => by
    have := h1.length_le
    simp at this
    simp [this]
  | i + 1, 0, p, _, _, _, h2 => by
    have := h2.length_le
    simp at this
    simp [this]
  | i + 1, j + 1, p, hi, hj, h1, h2 => by
    have e1 : xs.take (i + 1) = xs.take i ++ [xs[i]'(by omega)] := by rw [List.take_add_one, List.getElem?_eq_getElem (by omega)]; rfl
    have e2 : ys.take (j + 1) = ys.take j ++ [ys[j]'(by omega)] := by rw [List.take_add_one, List.getElem?_eq_getElem (by omega)]; rfl
    unfold lcsT
    rw [List.getElem?_eq_getElem (show i < xs.length by omega), List.getElem?_eq_getElem (show j < ys.length by omega)]
    rcases List.eq_nil_or_concat p with rfl | ⟨p', z, ep⟩
    · simp
    · have ep : p = p' ++ [z] := by simpa using ep
      obtain ⟨a1, a2⟩ := sub_take_succ (e1 ▸ h1) ep
      obtain ⟨b1, b2⟩ := sub_take_succ (e2 ▸ h2) ep
      split
      · have := lcsT_bound xs ys i j p' (by omega) (by omega) a1 b1
        rw [ep]; simp; omega
      · rename_i hne
        have hne : xs[i]'(by omega) ≠ ys[j]'(by omega) := fun e => hne (by rw [e])
        rcases a2 with rfl | a3
        · rcases b2 with b3 | b3
          · exact absurd b3 hne
          · have := lcsT_bound xs ys (i + 1) j p (by omega) (by omega) h1 b3
            omega
        · have := lcsT_bound xs ys i (j + 1) p (by omega) (by omega) a3 h2
          omega
termination_by i j => i + j
theorem letters_sub : ∀ (f : Nat) (ts : List Tx), ∃ p : Tx, p.length = lettersOf f ts ∧ ∀ t ∈ ts, p.Sublist t
  | 0, _ => ⟨[], rfl, fun _ _ => List.nil_sublist _⟩
  | f + 1, ts => by
    rw [letters_step]
    split
    · exact ⟨[], rfl, fun _ _ => List.nil_sublist _⟩
    · obtain ⟨pb, e1, h1⟩ := letters_sub f (ts.map (bef (lcsOf ts)))
      obtain ⟨pa, e2, h2⟩ := letters_sub f (ts.map (aft (lcsOf ts)))
      refine ⟨pb ++ (lcsOf ts ++ pa), by simp [e1, e2]; omega, fun t ht => ?_⟩
      rw [cut_eq (lcsOf_infix ts t ht)]
      exact (h1 _ (List.mem_map_of_mem ht)).append ((List.Sublist.refl _).append (h2 _ (List.mem_map_of_mem ht)))
/-- the letters of all pieces are never more than the longest common subsequence of any two of the texts -/
theorem letters_le (f : Nat) (ts : List Tx) (x y : Tx) (hx : x ∈ ts) (hy : y ∈ ts) : lettersOf f ts ≤ lcsT x y x.length y.length := by
  obtain ⟨p, e, h⟩ := letters_sub f ts
  rw [← e]
  exact lcsT_bound x y _ _ p (Nat.le_refl _) (Nat.le_refl _) (by rw [List.take_length]; exact h x hx) (by rw [List.take_length]; exact h y hy)
end Mine

end

section
set_option autoImplicit false
namespace Mine
theorem rows_eq {T : Nat → Nat → Nat} {i j a b : Nat} (hT : T (i + 1) (j + 1) = T i j + 1) :
    (if a = i + 1 ∧ b = j + 1 then (if i ≤ i then ((T i j : Nat) : Int) else if i = i + 1 ∧ j ≤ j then ((T i j : Nat) : Int) else 0) + 1 else if a ≤ i then ((T a b : Nat) : Int) else if a = i + 1 ∧ b ≤ j then ((T a b : Nat) : Int) else 0)
      = if a ≤ i then ((T a b : Nat) : Int) else if a = i + 1 ∧ b ≤ j + 1 then ((T a b : Nat) : Int) else 0 := by
  rw [if_pos (Nat.le_refl i)]
  by_cases h1 : a = i + 1 ∧ b = j + 1
  · obtain ⟨rfl, rfl⟩ := h1
    rw [if_pos ⟨rfl, rfl⟩, if_neg (by omega), if_pos ⟨rfl, Nat.le_refl _⟩, hT]
    simp
  · rw [if_neg h1]
    by_cases h2 : a ≤ i
    · rw [if_pos h2, if_pos h2]
    · rw [if_neg h2, if_neg h2]
      by_cases h3 : a = i + 1 ∧ b ≤ j
      · rw [if_pos h3, if_pos ⟨h3.1, by omega⟩]
      · rw [if_neg h3, if_neg (by omega)]
theorem rows_ne {T : Nat → Nat → Nat} {i j a b : Nat} (hT : T (i + 1) (j + 1) = max (T (i + 1) j) (T i (j + 1))) :
    (if a = i + 1 ∧ b = j + 1 then
      (if (if i ≤ i then ((T i (j + 1) : Nat) : Int) else if i = i + 1 ∧ j + 1 ≤ j then ((T i (j + 1) : Nat) : Int) else 0) > (if i + 1 ≤ i then ((T (i + 1) j : Nat) : Int) else if True ∧ j ≤ j then ((T (i + 1) j : Nat) : Int) else 0) then
        (if i ≤ i then ((T i (j + 1) : Nat) : Int) else if i = i + 1 ∧ j + 1 ≤ j then ((T i (j + 1) : Nat) : Int) else 0) else (if i + 1 ≤ i then ((T (i + 1) j : Nat) : Int) else if True ∧ j ≤ j then ((T (i + 1) j : Nat) : Int) else 0))
      else if a ≤ i then ((T a b : Nat) : Int) else if a = i + 1 ∧ b ≤ j then ((T a b : Nat) : Int) else 0)
      = if a ≤ i then ((T a b : Nat) : Int) else if a = i + 1 ∧ b ≤ j + 1 then ((T a b : Nat) : Int) else 0 := by
  rw [if_pos (Nat.le_refl i), if_neg (by omega : ¬ i + 1 ≤ i), if_pos (⟨trivial, Nat.le_refl j⟩ : True ∧ j ≤ j)]
  by_cases h1 : a = i + 1 ∧ b = j + 1
  · obtain ⟨rfl, rfl⟩ := h1
    rw [if_pos (show i + 1 = i + 1 ∧ j + 1 = j + 1 from ⟨rfl, rfl⟩), if_neg (show ¬ (i + 1 ≤ i) by omega), if_pos (show i + 1 = i + 1 ∧ j + 1 ≤ j + 1 from ⟨rfl, Nat.le_refl _⟩), hT]
    split <;> omega
  · rw [if_neg h1]
    by_cases h2 : a ≤ i
    · rw [if_pos h2, if_pos h2]
    · rw [if_neg h2, if_neg h2]
      by_cases h3 : a = i + 1 ∧ b ≤ j
      · rw [if_pos h3, if_pos ⟨h3.1, by omega⟩]
      · rw [if_neg h3, if_neg (by omega)]
end Mine
namespace Mine
theorem lcsT_le (xs ys : Tx) : ∀ i j, lcsT xs ys i j ≤ i
  | 0, j => by simp [lcsT]
  | i + 1, 0 => by simp [lcsT]
  | i + 1, j + 1 => by
    have h1 := lcsT_le xs ys i j
    have h2 := lcsT_le xs ys (i + 1) j
    have h3 := lcsT_le xs ys i (j + 1)
    rw [lcsT]
    split <;> omega
end Mine
namespace Mine
theorem lcsT_zero_left (xs ys : Tx) (j : Nat) : lcsT xs ys 0 j = 0 := by simp [lcsT]
theorem lcsT_step (xs ys : Tx) {i j : Nat} (hi : 0 < i) (hj : 0 < j) : lcsT xs ys i j = if xs[i - 1]? = ys[j - 1]? then lcsT xs ys (i - 1) (j - 1) + 1 else max (lcsT xs ys i (j - 1)) (lcsT xs ys (i - 1) j) := by
  obtain ⟨a, rfl⟩ : ∃ a, i = a + 1 := ⟨i - 1, by omega⟩
  obtain ⟨b, rfl⟩ : ∃ b, j = b + 1 := ⟨j - 1, by omega⟩
  rw [lcsT]; rfl
end Mine
namespace Mine
theorem rows_ne2 {T : Nat → Nat → Nat} {i j a b : Nat} (hT : T (i + 1) (j + 1) = max (T (i + 1) j) (T i (j + 1))) :
    (if a = i + 1 ∧ b = j + 1 then
      (if (if i ≤ i then ((T i (j + 1) : Nat) : Int) else if i = i + 1 ∧ j + 1 ≤ j then ((T i (j + 1) : Nat) : Int) else 0) > (if i + 1 ≤ i then ((T (i + 1) j : Nat) : Int) else if i + 1 = i + 1 ∧ j ≤ j then ((T (i + 1) j : Nat) : Int) else 0) then
        (if i ≤ i then ((T i (j + 1) : Nat) : Int) else if i = i + 1 ∧ j + 1 ≤ j then ((T i (j + 1) : Nat) : Int) else 0) else (if i + 1 ≤ i then ((T (i + 1) j : Nat) : Int) else if i + 1 = i + 1 ∧ j ≤ j then ((T (i + 1) j : Nat) : Int) else 0))
      else if a ≤ i then ((T a b : Nat) : Int) else if a = i + 1 ∧ b ≤ j then ((T a b : Nat) : Int) else 0)
      = if a ≤ i then ((T a b : Nat) : Int) else if a = i + 1 ∧ b ≤ j + 1 then ((T a b : Nat) : Int) else 0 := by
  have h := rows_ne (a := a) (b := b) hT
  rw [if_pos (⟨trivial, Nat.le_refl j⟩ : True ∧ j ≤ j)] at h
  rw [if_pos (⟨rfl, Nat.le_refl j⟩ : i + 1 = i + 1 ∧ j ≤ j)]
  exact h
end Mine

end

section
set_option autoImplicit false
namespace Mine
theorem range_split (i m : Nat) : List.range (i + (m + 1)) = List.range i ++ i :: (List.range m).map (fun q => i + (q + 1)) := by
  rw [List.range_add]
  congr 1
  rw [List.range_succ_eq_map]
  simp [Function.comp_def]
theorem find_mid {α : Type} {p : α → Bool} {A B C D : List α} {x : α} (hA : ∀ a ∈ A, p a = false) (hB : ∀ a ∈ B, p a = false) (h : p x = true) : (A ++ ((B ++ x :: C) ++ D)).find? p = some x := by
  rw [List.find?_eq_some_iff_append]
  refine ⟨h, A ++ B, C ++ D, by simp, fun a ha => ?_⟩
  rcases List.mem_append.mp ha with ha | ha
  · rw [hA a ha]; rfl
  · rw [hB a ha]; rfl
theorem custom_found {ts : List Tx} {s : Tx} (hs : s = shortest ts) {i j : Nat} (hi : i < s.length) (hj : j ≤ i) (h1 : ∀ k, k < i → ∀ a, a ≤ k → inAll ts ((s.drop a).take (s.length - k)) = false)
    (h2 : ∀ a, a < j → inAll ts ((s.drop a).take (s.length - i)) = false) (h : inAll ts ((s.drop j).take (s.length - i)) = true) : customOf ts = (s.drop j).take (s.length - i) := by
  unfold customOf
  rw [← hs]
  have : (cands s).find? (inAll ts) = some ((s.drop j).take (s.length - i)) := by
    unfold cands
    obtain ⟨m, hm⟩ : ∃ m, s.length = i + (m + 1) := ⟨s.length - i - 1, by omega⟩
    obtain ⟨q, hq⟩ : ∃ q, s.length - (s.length - i) + 1 = j + (q + 1) := ⟨i - j, by omega⟩
    rw [show List.range s.length = List.range i ++ i :: (List.range m).map (fun q => i + (q + 1)) from by rw [hm]; exact range_split i m, List.map_append, List.map_cons, List.flatMap_append, List.flatMap_cons, hq, range_split, List.map_append, List.map_cons]
    refine find_mid (fun p hp => ?_) (fun p hp => ?_) h
    · obtain ⟨n, hn, hp⟩ := List.mem_flatMap.mp hp
      obtain ⟨k, hk, rfl⟩ := List.mem_map.mp hn
      obtain ⟨a, ha, rfl⟩ := List.mem_map.mp hp
      rw [List.mem_range] at hk ha
      exact h1 k hk a (by omega)
    · obtain ⟨a, ha, rfl⟩ := List.mem_map.mp hp
      rw [List.mem_range] at ha
      exact h2 a ha
  rw [this]; rfl
theorem custom_none {ts : List Tx} {s : Tx} (hs : s = shortest ts) (h1 : ∀ k, k < s.length → ∀ a, a ≤ k → inAll ts ((s.drop a).take (s.length - k)) = false) : customOf ts = [] := by
  unfold customOf
  rw [← hs]
  have : (cands s).find? (inAll ts) = none := by
    rw [List.find?_eq_none]
    intro p hp
    unfold cands at hp
    obtain ⟨n, hn, hp⟩ := List.mem_flatMap.mp hp
    obtain ⟨k, hk, rfl⟩ := List.mem_map.mp hn
    obtain ⟨a, ha, rfl⟩ := List.mem_map.mp hp
    rw [List.mem_range] at hk ha
    rw [h1 k hk a (by omega)]; simp
  rw [this]; rfl
end Mine

end

section
open PySem
set_option maxRecDepth 100000
namespace Mine
theorem noInf : ∀ p, p < 21 → ∀ q, q < 21 → Float64.isInf (Float64.ofFrac false p (q + 1)) = false := by decide +kernel
end Mine

end

section
open PySem PySem.W PySem.Calls PyProof.Rows
namespace Mine
open Builtin Builtin.Str

/-- a text's signs -/
def tx (s : Str) : Tx := s.cps.toList
def st (l : Tx) : Str := ⟨l.toArray⟩
theorem st_tx (s : Str) : st (tx s) = s := by obtain ⟨⟨l⟩⟩ := s; rfl
theorem tx_st (l : Tx) : tx (st l) = l := rfl
theorem tx_len (s : Str) : (tx s).length = s.length := by simp [tx, Str.length]
theorem st_len (l : Tx) : (st l).length = l.length := by simp [st, Str.length]
theorem st_inj {a b : Tx} (h : st a = st b) : a = b := by have := congrArg tx h; simpa [tx_st] using this
theorem tx_inj {a b : Str} (h : tx a = tx b) : a = b := by have := congrArg st h; simpa [st_tx] using this
theorem st_eq {a : Str} {l : Tx} (h : tx a = l) : a = st l := by rw [← h, st_tx]
theorem st_append (a b : Tx) : st a ++ st b = st (a ++ b) := tx_inj (by simp [tx, st, Str.cps_append])
theorem tx_append (a b : Str) : tx (a ++ b) = tx a ++ tx b := by simp [tx, Str.cps_append]
theorem st_beq (a b : Tx) : (st a == st b) = (a == b) := by
  rw [Bool.eq_iff_iff, beq_iff_eq, beq_iff_eq]
  exact ⟨st_inj, fun h => by rw [h]⟩

theorem slice_idx_none_some (x : Str) {b : Nat} : strSliceIndices none (some (b : Int)) 1 x.length = strSliceIndices (some ((0 : Nat) : Int)) (some (b : Int)) 1 x.length := by
  have e0 : max (0 : Int) (min 0 (x.length : Int)) = 0 := by omega
  have e1 : max (0 : Int) (min ((0 : Nat) : Int) (x.length : Int)) = 0 := by omega
  simp only [strSliceIndices, sliceRange, e0, e1, show ((1 : Int) > 0) = True from by simp, if_true, show ¬ (((0 : Nat) : Int) < 0) by omega, if_false]
theorem slice_idx_some_none (x : Str) {a : Nat} (ha : a ≤ x.length) : strSliceIndices (some (a : Int)) none 1 x.length = strSliceIndices (some (a : Int)) (some (x.length : Int)) 1 x.length := by
  have h2 : ¬ ((x.length : Int) < 0) := by omega
  have e2 : max (0 : Int) (min (x.length : Int) (x.length : Int)) = x.length := by omega
  simp [strSliceIndices, sliceRange, h2, e2]
theorem slice_core (x : Str) {a b : Nat} (hab : a ≤ b) (hb : b ≤ x.length) : Txt.slice x (some (a : Int)) (some (b : Int)) = st (((tx x).drop a).take (b - a)) := by
  unfold Txt.slice
  have h := StrLaws.sliced_plain x hab hb
  have hl : (strSliceIndices (some (a : Int)) (some (b : Int)) 1 x.length).length = b - a := by rw [StrLaws.strSliceIndices_plain hab hb]; simp
  split
  · rename_i c
    have c' : b - a = x.length := by simpa [hl] using c
    have ha : a = 0 := by omega
    have hb' : b = x.length := by omega
    subst ha
    have : ((tx x).drop 0).take (b - 0) = tx x := by
      rw [List.drop_zero, Nat.sub_zero, hb', List.take_of_length_le (by rw [tx_len]; exact Nat.le_refl _)]
    rw [this, st_tx]
  · refine tx_inj ?_
    exact h
theorem slice_ss (x : Str) {a b : Nat} (hab : a ≤ b) (hb : b ≤ x.length) : Txt.slice x (some (a : Int)) (some (b : Int)) = st (((tx x).drop a).take (b - a)) := slice_core x hab hb
theorem slice_ns (x : Str) {b : Nat} (hb : b ≤ x.length) : Txt.slice x none (some (b : Int)) = st ((tx x).take b) := by
  have := slice_core x (a := 0) (Nat.zero_le _) hb
  unfold Txt.slice at this ⊢
  rw [slice_idx_none_some x]
  simpa using this
theorem slice_sn (x : Str) {a : Nat} (ha : a ≤ x.length) : Txt.slice x (some (a : Int)) none = st ((tx x).drop a) := by
  have := slice_core x (a := a) ha (Nat.le_refl _)
  unfold Txt.slice at this ⊢
  rw [slice_idx_some_none x ha, this, List.take_of_length_le (by simp [tx_len])]

theorem item_at (x : Str) {i : Nat} (hi : i < x.length) : Txt.item x (i : Int) = st [(tx x)[i]'(by rw [tx_len]; exact hi)] := by
  unfold Txt.item Txt.charAt
  have e : seqIndex? (i : Int) x.length = some i := by
    unfold seqIndex?
    split <;> (try split) <;> (try omega) <;> simp_all <;> omega
  rw [e]
  have : x.cps[i]? = some (x.cps[i]'hi) := Array.getElem?_eq_getElem hi
  show (⟨#[((x.cps[i]?).getD 0)]⟩ : Str) = _
  rw [this]
  rfl

/-- a piece stands in a text -/
theorem contains_iff (x y : Str) : Txt.contains x y = true ↔ tx y <:+: tx x := by
  unfold Txt.contains
  rw [StrLaws.found_iff]
  constructor
  · rintro ⟨i, h1, h2⟩
    rw [StrLaws.subAt_eq] at h2
    have h2 : (((tx x).drop i).take y.length) = tx y := by simpa [tx] using h2
    exact ⟨(tx x).take i, (tx x).drop (i + y.length), by
      rw [← h2, List.append_assoc, ← List.drop_drop, List.take_append_drop, List.take_append_drop]⟩
  · rintro ⟨a, b, h⟩
    have hx : (tx x).length = x.length := tx_len x
    have hy : (tx y).length = y.length := tx_len y
    refine ⟨a.length, ?_, ?_⟩
    · rw [← hx, ← h]; simp [hy]
    · rw [StrLaws.subAt_eq]
      show (((tx x).drop a.length).take y.length == tx y) = true
      rw [← h, List.append_assoc, List.drop_left, ← hy, List.take_left]
      simp

theorem at_iff (x y : Str) (i : Nat) : StrLaws.At x y x.length i ↔ At (tx y) (tx x) i := by
  unfold StrLaws.At At
  rw [StrLaws.subAt_eq, tx_len, tx_len]
  show _ ∧ (((tx x).drop i).take y.length == tx y) = true ↔ _
  rw [beq_iff_eq]
/-- where the piece stands in the text: find gives its first place -/
theorem find_eq (x y : Str) (h : tx y <:+: tx x) : Txt.find x y = (firstAt (tx y) (tx x) : Int) := by
  unfold Txt.find
  rcases StrLaws.occ_head x y 1 (Nat.le_refl _) with ⟨_, hn⟩ | ⟨i, r, e, hi, hk⟩
  · obtain ⟨i, hi⟩ := infix_at h
    exact absurd ((at_iff x y i).mpr hi) (hn i)
  · rw [e, firstAt_eq ((at_iff x y i).mp hi) fun k hk' hc => hk k hk' ((at_iff x y k).mpr hc)]
theorem partition_eq (x y : Str) (h : tx y <:+: tx x) : (Txt.partition x y).1 = st (bef (tx y) (tx x)) ∧ (Txt.partition x y).2.2 = st (aft (tx y) (tx x)) := by
  unfold Txt.partition
  rcases StrLaws.occ_head x y 1 (Nat.le_refl _) with ⟨_, hn⟩ | ⟨i, r, e, hi, hk⟩
  · obtain ⟨i, hi⟩ := infix_at h
    exact absurd ((at_iff x y i).mpr hi) (hn i)
  · rw [e]
    have hf := firstAt_eq ((at_iff x y i).mp hi) fun k hk' hc => hk k hk' ((at_iff x y k).mpr hc)
    refine ⟨st_eq ?_, st_eq ?_⟩
    · show tx (strSub x 0 i) = _
      unfold tx; rw [StrLaws.strSub_toList, List.drop_zero, Nat.sub_zero]
      unfold bef; rw [← hf]; rfl
    · unfold aft
      rw [hf, tx_len]
      show (strSub x (i + y.length) x.length).cps.toList = x.cps.toList.drop (i + y.length)
      rw [StrLaws.strSub_toList]
      refine List.take_of_length_le ?_
      have : x.cps.toList.length = x.length := tx_len x
      simp [this]
end Mine
namespace Mine
open Builtin Builtin.Str
theorem item_eq_iff {x y : Str} {i j k : Nat} (hx : i + k < x.length) (hy : j + k < y.length) : (Txt.item x ((i : Int) + (k : Int)) == Txt.item y ((j : Int) + (k : Int))) = true ↔ ((tx x).drop i)[k]? = ((tx y).drop j)[k]? := by
  have e1 : (i : Int) + (k : Int) = ((i + k : Nat) : Int) := by omega
  have e2 : (j : Int) + (k : Int) = ((j + k : Nat) : Int) := by omega
  have h1 : i + k < (tx x).length := by rw [tx_len]; exact hx
  have h2 : j + k < (tx y).length := by rw [tx_len]; exact hy
  rw [e1, e2, item_at x hx, item_at y hy, st_beq, beq_iff_eq, List.getElem?_drop, List.getElem?_drop, List.getElem?_eq_getElem h1, List.getElem?_eq_getElem h2]
  simp
end Mine

end

section
open PySem PySem.W PySem.Calls PyProof.Rows
set_option autoImplicit false
namespace Mine
theorem bef_slice {x : Str} {P : Tx} (h : P <:+: tx x) : Txt.slice x none (some (Txt.find x (st P))) = st (bef P (tx x)) := by
  have hf := find_eq x (st P) (by rw [tx_st]; exact h)
  have hl := firstAt_le h
  rw [tx_len] at hl
  rw [hf, tx_st, slice_ns x (by omega)]
  rfl
theorem aft_slice {x : Str} {P : Tx} (h : P <:+: tx x) : Txt.slice x (some (Txt.find x (st P) + (P.length : Int))) none = st (aft P (tx x)) := by
  have hf := find_eq x (st P) (by rw [tx_st]; exact h)
  have hl := firstAt_le h
  rw [tx_len] at hl
  rw [hf, tx_st, show ((firstAt P (tx x) : Nat) : Int) + (P.length : Int) = ((firstAt P (tx x) + P.length : Nat) : Int) by omega, slice_sn x (by omega)]
  rfl
theorem getD_le {ts : List Str} {k : Nat} (hb : ∀ t ∈ ts, t.length ≤ k) (i : Nat) : (ts.getD i Str.empty).length ≤ k := by
  rw [List.getD_eq_getElem?_getD]
  cases e : ts[i]? with
  | none => simp [Str.empty, Str.length]
  | some t => exact hb t (List.mem_of_getElem? e)
theorem getD_mem {ts : List Str} {i : Nat} (h : i < ts.length) : ts.getD i Str.empty ∈ ts := by
  rw [List.getD_eq_getElem?_getD, List.getElem?_eq_getElem h]; exact List.getElem_mem h
theorem strs_of : ∀ {ys : List Value} {xs : List Str}, ys.length = xs.length → (∀ i v, ys[i]? = some v → ∃ t, v = Value.str (xs.getD i Str.empty) t) → StrsAre ys xs
  | [], [], _, _ => .nil
  | [], _ :: _, h, _ => by simp at h
  | _ :: _, [], h, _ => by simp at h
  | y :: ys, x :: xs, h, g => by
    obtain ⟨t, e⟩ := g 0 y rfl
    have e : y = Value.str x t := e
    subst e
    exact .cons x t (strs_of (by simpa using h) fun i v hv => g (i + 1) v (by simpa using hv))
theorem getD_map' {ts : List Str} {i : Nat} (g : Str → Str) (h : i < ts.length) : (ts.map g).getD i Str.empty = g (ts.getD i Str.empty) := by
  simp [List.getD_eq_getElem?_getD, List.getElem?_eq_getElem h]
end Mine

end

section
open PySem PySem.W PyProof.Rows
set_option Elab.async false
set_option maxRecDepth 100000
set_option maxHeartbeats 8000000
namespace Mine
open_top hd for PySem.Challenge.rw_ah5039_01

end Mine
end

section
open PySem PySem.W PySem.Calls PyProof.Rows
set_option Elab.async false
set_option maxRecDepth 100000
namespace Mine

/-- entering a def of the top with plain local names: the state at the call is the new base -/
theorem enter {prog : Program} {w : World} {A : Around} {s : Shared} {K : Frag} {p : Program} {loose : List Str} {mean : ExcName → Option Value} {mg mb : Str → Option Value}
    {R : Result → Shared → Prop} {name qual : Str} {params : Arguments} {body : List Stmt} {scope : Scope} {dV kV doc pm cdv ct oc : Value} {an od : Option Addr} {osl : Array (Option Value)} {f : Addr} {args : Args} {binds : List (Str × Value)}
    (X : K.In s.heap) (T : Top p loose mean mg mb s.heap)
    (ho : K.lookup f = some ⟨oc, od, .func (fnOf name qual params body scope dV kV doc pm an cdv ct), osl⟩) (hcd : codeIn K cdv qual = true) (hroom : A.depth < recursionLimit)
    (hbind : BindsTo s (fnOf name qual params body scope dV kV doc pm an cdv ct) args binds) (hloc : ∀ y ∈ binds, scope.names.lookup y.1 = some .local)
    (h : ∀ L h₁, Fr s.heap L h₁ (fun y => binds.reverse.lookup y) → News s.heap L h₁ [] →
      wpAny (model prog w) (A.deeper (envOf qual scope L f cdv)) (execs body (envOf qual scope L f cdv))
        (fun fl s' => R (.ok (.ret (match fl with | .ret v => v | _ => .none))) s')
        (fun e s' => wpAny (model prog w) (A.deeper (envOf qual scope L f cdv)) (leaving (envOf qual scope L f cdv) e) (fun _ s'' => R (.error e) s'') (fun e' s'' => R (.error e') s'') s')
        { s with heap := h₁, toks := s.toks + binds.length })
    (hco : scope.isCoroutine = false) (hgen : scope.isGenerator = false) (hk : scope.kind = .function)
    (hcell : ∀ x ∈ scope.names, x.2 ≠ .cell) : codeAny (model prog w) A (.call (.ref f) args) R s :=
  codeAny_call_def (fd := fnOf name qual params body scope dV kV doc pm an cdv ct) (body := body) (binds := binds) hroom (X _ _ ho) rfl T.nolimit (codeRec_of X hcd) rfl hbind hcell hloc
    (fun h₁ hns hk₁ => h s.heap.objs.size h₁ ⟨hns, hk₁, Nat.le_refl _⟩ News.nil) hco hgen hk

/-- a loop over any iterator, by what holds of the names between the turns; new objects stay -/
theorem walks_inv {prog : Program} {w : World} {A : Around} {E : Value → Shared → Prop} {s : Shared} {env : Env} {h₀ : Heap} {x : Str} {body : List Stmt} {Q : Flow → Shared → Prop}
    {I : Addr} {fp wr : List Addr} {n : Nat} {P : Nat → Value → Prop} {St : Nat → Heap → Prop} {m₀ : Str → Option Value} {news : List (Addr × Obj)}
    (J : Nat → (Str → Option Value) → Prop)
    (W : Walks prog w A I fp wr n P St) (hLf : env.locals ∉ fp) (hwr : ∀ b ∈ wr, h₀.get? b = none) (hnw : ∀ p ∈ news, p.1 ∉ wr) (hst : St 0 s.heap)
    (F : Fr h₀ env.locals s.heap m₀) (N : News h₀ env.locals s.heap news) (hj : J 0 m₀)
    (turn : ∀ i v m₁ h tk own, i < n → P i v → J i m₁ → Fr h₀ env.locals h (fun y => if y = x then some v else m₁ y) → News h₀ env.locals h (own ++ news) →
      wpAny (model prog w) A (execs body env) (InvPost h₀ env.locals (J (i + 1)) (own ++ news) { s with heap := h, toks := tk } Q) E { s with heap := h, toks := tk })
    (done : ∀ m₁ h tk, J n m₁ → Fr h₀ env.locals h m₁ → News h₀ env.locals h news → Q .next { s with heap := h, toks := tk }) :
    LoopAtV prog w A h₀ env x body Q E (.ref I) s := by
  refine ⟨I, fp, wr, n, P, St, m₀, news, fun i m₁ news₁ => news₁ = news ∧ J i m₁, rfl, W, hLf, hwr, hnw, hst, F, N, ⟨rfl, hj⟩, ?_, ?_⟩
  · rintro i v m₁ news₁ s₁ own ⟨hh', tk', rfl⟩ hin hP ⟨rfl, hJ⟩ hoff _ _ _ _ F₁ N₁
    refine wpAny_mono (turn i v m₁ hh' tk' own hin hP hJ F₁ N₁) (fun f s₂ p => ?_) fun _ _ e => e
    have fin : InvEnd h₀ env.locals (J (i + 1)) (own ++ news₁) { s with heap := hh', toks := tk' } s₂ → LoopStepU h₀ env.locals wr own (fun m₂ news₂ => news₂ = news₁ ∧ J (i + 1) m₂) { s with heap := hh', toks := tk' } .next s₂ := by
      rintro ⟨h', tk, m', news', e, F', N', hn, hm⟩
      exact ⟨rfl, h', tk, m', news₁, e, F', fun p hp => N' p (hn p hp), hoff, rfl, hm⟩
    cases f with
    | ret v => exact .ret p
    | brk => exact .brk p
    | next => exact .next (fin p)
    | cont => exact .cont (fin p)
  · rintro h' tk m' news' F' N' _ ⟨rfl, hJ⟩
    exact done m' h' tk hJ F' N'

theorem range_inv {prog : Program} {w : World} {A : Around} {E : Value → Shared → Prop} {s : Shared} {env : Env} {h₀ : Heap} {x : Str} {body : List Stmt} {Q : Flow → Shared → Prop}
    {r : Addr} {a₀ b₀ : Int} {t₀ u₀ v₀ : Tok} {n : Nat} {m₀ : Str → Option Value} {news : List (Addr × Obj)}
    (J : Nat → (Str → Option Value) → Prop)
    (hh : A.handled = none) (hr : IsRange s.heap r a₀ b₀ 1 t₀ u₀ v₀) (hsmall : Builtin.Range.small a₀ b₀ 1 = true) (hn : Builtin.Range.rangeSize a₀ b₀ 1 = (n : Int))
    (F : Fr h₀ env.locals s.heap m₀) (N : News h₀ env.locals s.heap news) (hj : J 0 m₀)
    (turn : ∀ i t m₁ h tk own, i < n → J i m₁ → Fr h₀ env.locals h (fun y => if y = x then some (.int (a₀ + (i : Int)) t) else m₁ y) → News h₀ env.locals h (own ++ news) →
      wpAny (model prog w) A (execs body env) (InvPost h₀ env.locals (J (i + 1)) (own ++ news) { s with heap := h, toks := tk } Q) E { s with heap := h, toks := tk })
    (done : ∀ m₁ h tk, J n m₁ → Fr h₀ env.locals h m₁ → News h₀ env.locals h news → Q .next { s with heap := h, toks := tk }) :
    wpAny (model prog w) A (pyIter (.ref r)) (fun it s₂ => LoopAtV prog w A h₀ env x body Q E it s₂) E s := by
  refine wpAny_pyIter_range hr hsmall ?_
  have W : Walks prog w A s.heap.objs.size [s.heap.objs.size] [s.heap.objs.size] n (fun i v => i < n ∧ ∃ t, v = .int (a₀ + i * 1) t)
      (fun i h => IsRangeIter h s.heap.objs.size (a₀ + (i : Nat) * 1) ((n : Int) - (i : Nat)) 1) := (Walks.range hh _ a₀ 1 n).bound
  refine walks_inv J W ?_ ?_ ?_ (by show IsRangeIter _ _ _ _ _; rw [hn]; simpa using Heap.get?_push_size _ rfl) (F.push _) (fun p hp => ⟨Heap.get?_push_of_some _ (N p hp).1, (N p hp).2⟩) hj ?_ done
  · intro hm
    exact absurd F.ns.lt ((List.mem_singleton.mp hm) ▸ Nat.lt_irrefl _)
  · intro b hb
    rw [List.mem_singleton.mp hb]
    exact next_is_new F
  · intro p hp hI
    exact absurd (Heap.lt_size (N p hp).1) ((List.mem_singleton.mp hI) ▸ Nat.lt_irrefl _)
  · rintro i v m₁ h tk own hi ⟨_, t, rfl⟩ hJ F₁ N₁
    rw [Int.mul_one] at F₁
    exact turn i t m₁ h tk own hi hJ F₁ N₁

theorem Fr.name {h₀ h : Heap} {L : Addr} {m : Str → Option Value} (a : Str) (v : Value) (F : Fr h₀ L h m) (e : m a = some v) : Fr h₀ L h (fun y => if y = a then some v else m y) := by
  have : (fun y => if y = a then some v else m y) = m := funext fun y => by split <;> simp_all
  rw [this]; exact F
end Mine
namespace Mine
/-- what stands behind a statement: the frame and the ledger, the names by P -/
def After (h₀ : Heap) (L : Addr) (s : Shared) (news : List (Addr × Obj)) (P : (Str → Option Value) → Prop) (f : Flow) (s' : Shared) : Prop :=
  f = .next ∧ ∃ h' tk m', s' = { s with heap := h', toks := tk } ∧ Fr h₀ L h' m' ∧ News h₀ L h' news ∧ P m'
theorem mid_after {M : Model} {A : Around} {E : Value → Shared → Prop} {s : Shared} {t : Sem Flow} {Q : Flow → Shared → Prop} {h₀ : Heap} {L : Addr} {m : Str → Option Value} {news : List (Addr × Obj)}
    (_F : Fr h₀ L s.heap m) (_N : News h₀ L s.heap news) (P : (Str → Option Value) → Prop) (hw : wpAny M A t (After h₀ L s news P) E s)
    (k : ∀ h' tk m', Fr h₀ L h' m' → News h₀ L h' news → P m' → Q .next { s with heap := h', toks := tk }) : wpAny M A t Q E s :=
  wpAny_mono hw (fun f s' h => by obtain ⟨rfl, h', tk, m', rfl, F, N, p⟩ := h; exact k h' tk m' F N p) fun _ _ e => e
end Mine
namespace Mine
theorem small_up {a b : Int} (h1 : -1000000 ≤ a) (h2 : a ≤ 1000000) (h3 : -1000000 ≤ b) (h4 : b ≤ 1000000) : Builtin.Range.small a b 1 = true := by
  have hs : Builtin.Range.rangeSize a b 1 = if a < b then b - a else 0 := rangeSize_one a b
  unfold Builtin.Range.small Builtin.Range.rangeFitsLong
  rw [hs]
  have h5 : -1000000 ≤ (if a < b then b - a else 0) ∧ (if a < b then b - a else 0) ≤ 2000000 := by split <;> omega
  generalize (if a < b then b - a else 0) = z at h5
  simp only [Bool.and_eq_true, Bool.or_eq_true, decide_eq_true_eq, if_pos (show (1 : Int) > 0 by decide)]
  refine ⟨⟨⟨⟨⟨?_, ?_⟩, ⟨?_, ?_⟩⟩, ⟨by decide, by decide⟩⟩, ⟨?_, ?_⟩⟩, Or.inr ⟨?_, ?_⟩⟩ <;> omega

theorem range0_inv {prog : Program} {w : World} {A : Around} {E : Value → Shared → Prop} {s : Shared} {env : Env} {h₀ : Heap} {x : Str} {body : List Stmt} {Q : Flow → Shared → Prop}
    {r : Addr} {b₀ : Int} {t₀ u₀ v₀ : Tok} {n : Nat} {m₀ : Str → Option Value} {news : List (Addr × Obj)}
    (J : Nat → (Str → Option Value) → Prop)
    (hh : A.handled = none) (hr : IsRange s.heap r 0 b₀ 1 t₀ u₀ v₀) (hb : b₀ = (n : Int)) (hn : n ≤ 1000000)
    (F : Fr h₀ env.locals s.heap m₀) (N : News h₀ env.locals s.heap news) (hj : J 0 m₀)
    (turn : ∀ i t m₁ h tk own, i < n → J i m₁ → Fr h₀ env.locals h (fun y => if y = x then some (.int (i : Int) t) else m₁ y) → News h₀ env.locals h (own ++ news) →
      wpAny (model prog w) A (execs body env) (InvPost h₀ env.locals (J (i + 1)) (own ++ news) { s with heap := h, toks := tk } Q) E { s with heap := h, toks := tk })
    (done : ∀ m₁ h tk, J n m₁ → Fr h₀ env.locals h m₁ → News h₀ env.locals h news → Q .next { s with heap := h, toks := tk }) :
    wpAny (model prog w) A (pyIter (.ref r)) (fun it s₂ => LoopAtV prog w A h₀ env x body Q E it s₂) E s := by
  subst hb
  refine range_inv J hh hr (small_up (by omega) (by omega) (by omega) (by omega)) (by rw [rangeSize_one]; split <;> omega) F N hj (fun i t m₁ h tk own hi hJ F₁ N₁ => turn i t m₁ h tk own hi hJ ?_ N₁) done
  rw [Int.zero_add] at F₁
  exact F₁
theorem sub_refl {news : List (Addr × Obj)} : ∀ p ∈ news, p ∈ news := fun _ h => h
theorem sub_tail {p : Addr × Obj} {news : List (Addr × Obj)} : ∀ q ∈ news, q ∈ p :: news := fun _ h => .tail _ h
theorem sub_tail2 {p q : Addr × Obj} {news : List (Addr × Obj)} : ∀ r ∈ news, r ∈ p :: q :: news := fun _ h => .tail _ (.tail _ h)
end Mine

end

section
open PySem PySem.W PySem.Calls PyProof.Rows PySem.Spec
set_option maxRecDepth 100000
namespace Mine

/-- what a set keeps of a row of texts, in the order of the first meetings -/
def met (l : List Str) : List Str := l.foldl (fun σ v => if σ.any (· == v) then σ else σ ++ [v]) []
def metAt (val : Nat → Str) (i : Nat) : List Str := met ((List.range i).map val)
theorem met_snoc (l : List Str) (v : Str) : met (l ++ [v]) = if (met l).any (· == v) then met l else met l ++ [v] := by simp [met, List.foldl_append]
theorem metAt_succ (val : Nat → Str) (i : Nat) : metAt val (i + 1) = if (metAt val i).any (· == val i) then metAt val i else metAt val i ++ [val i] := by
  unfold metAt; rw [List.range_succ, List.map_append]; exact met_snoc _ _
theorem metAt_le (val : Nat → Str) : ∀ i, (metAt val i).length ≤ i
  | 0 => by simp [metAt, met]
  | i + 1 => by
    rw [metAt_succ]
    have := metAt_le val i
    split
    · omega
    · simp; omega
theorem any_snoc (σ : List Str) (v k : Str) : ((if σ.any (· == v) then σ else σ ++ [v]).any (· == k)) = (σ.any (· == k) || decide (k = v)) := by
  by_cases h : σ.any (· == v) = true
  · rw [if_pos h]
    by_cases e : k = v
    · subst e; rw [h]; simp
    · simp [e]
  · rw [if_neg h, List.any_append]
    by_cases e : k = v
    · subst e; simp
    · have hb : (v == k) = false := by simpa [beq_iff_eq] using fun h' : v = k => e h'.symm
      simp [hb, e]
theorem len_snoc (σ : List Str) (v : Str) : (if σ.any (· == v) then σ else σ ++ [v]).length = if σ.any (· == v) then σ.length else σ.length + 1 := by split <;> simp

theorem met_grow (l : List Str) : ∀ (r : List Str), (met l).length ≤ (met (l ++ r)).length
  | [] => by simp
  | v :: r => by
    have h1 := met_grow (l ++ [v]) r
    rw [List.append_assoc, List.singleton_append] at h1
    refine Nat.le_trans ?_ h1
    rw [met_snoc]; split <;> simp
theorem met_one (x : Str) (l : List Str) (h : ∀ y ∈ l, y = x) : met (x :: l) = [x] := by
  suffices H : ∀ l : List Str, (∀ y ∈ l, y = x) → l.foldl (fun σ v => if σ.any (· == v) then σ else σ ++ [v]) [x] = [x] by
    unfold met; rw [List.foldl_cons]; exact H l h
  intro l
  induction l with
  | nil => intro _; rfl
  | cons y r ih =>
    intro hy
    have : y = x := hy y (.head _)
    subst this
    simp only [List.foldl_cons, List.any_cons, beq_self_eq_true, Bool.true_or, if_true]
    exact ih fun z hz => hy z (.tail _ hz)
theorem met_two (x : Str) : ∀ (l : List Str) (y : Str), y ∈ l → y ≠ x → 2 ≤ (met (x :: l)).length := by
  intro l y hy hne
  obtain ⟨a, b, rfl⟩ := List.append_of_mem hy
  have h1 := met_grow (x :: (a ++ [y])) b
  have e : x :: (a ++ [y]) ++ b = x :: (a ++ y :: b) := by simp
  rw [e] at h1
  refine Nat.le_trans ?_ h1
  have h2 := met_grow [x] a
  have h3 : (met [x]) = [x] := by simp [met]
  have e2 : x :: (a ++ [y]) = ([x] ++ a) ++ [y] := by simp
  rw [e2, met_snoc]
  rw [h3] at h2
  split
  · rename_i hm
    -- y was met before: then two of them are kept
    have hx : x ∈ met ([x] ++ a) := by
      suffices H : ∀ (r : List Str) (σ : List Str), x ∈ σ → x ∈ r.foldl (fun σ v => if σ.any (· == v) then σ else σ ++ [v]) σ by
        unfold met
        rw [List.foldl_append]
        exact H a _ (by simp)
      intro r
      induction r with
      | nil => exact fun _ h => h
      | cons z r ih => intro σ h; rw [List.foldl_cons]; exact ih _ (by split; exact h; exact List.mem_append_left _ h)
    have hy' : y ∈ met ([x] ++ a) := by
      obtain ⟨z, hz, e⟩ := List.any_eq_true.mp hm
      rw [← beq_iff_eq.mp e]; exact hz
    match h : met ([x] ++ a) with
    | [] => rw [h] at hx; cases hx
    | [z] =>
      rw [h] at hx hy'
      rw [List.mem_singleton] at hx hy'
      exact absurd (hy'.trans hx.symm) hne
    | _ :: _ :: _ => simp
  · simp at h2 ⊢; omega
/-- one text in it, just where all are the first -/
theorem met_len (x : Str) (l : List Str) : decide (((met (x :: l)).length : Int) = 1) = (x :: l).all (· == x) := by
  rw [Bool.eq_iff_iff, decide_eq_true_eq]
  constructor
  · intro h
    rw [List.all_eq_true]
    intro y hy
    rcases List.mem_cons.mp hy with rfl | hy
    · simp
    · by_cases e : y = x
      · simp [e]
      · have := met_two x l y hy e
        omega
  · intro h
    rw [met_one x l fun y hy => by have := List.all_eq_true.mp h y (.tail _ hy); simpa using this]
    rfl

namespace SetStr
theorem sub_tuple_set : isSubtype (.type "tuple") (.type "set") = pure false := by rw [isSubtype_type]; kernel_rfl
theorem sub_tuple_frozenset : isSubtype (.type "tuple") (.type "frozenset") = pure false := by rw [isSubtype_type]; kernel_rfl

theorem strs_at : ∀ {vs : List Value} {ts : List Str}, StrsAre vs ts → ∀ (i : Nat) (v : Value), vs[i]? = some v → ∃ t, v = .str (ts.getD i Str.empty) t
  | _, _, .nil, i, v, h => by simp at h
  | _, _, .cons n t hr, 0, v, h => by simp at h; exact ⟨t, by rw [← h]; rfl⟩
  | _, _, .cons n t hr, i + 1, v, h => by
    simp only [List.getElem?_cons_succ] at h
    obtain ⟨t', e⟩ := strs_at hr i v h
    exact ⟨t', by rw [e]; rfl⟩

section
variable {prog : Program} {w : World} {A : Around} {R : Result → Shared → Prop} {I : Addr} {fp wr : List Addr} {G : Array GenState → Array GenState → Prop} {n : Nat} {P : Nat → Value → Prop} {St : Nat → Shared → Prop}

/-- a set's filling by texts that an iterator hands on -/
theorem loop (W : WalksS prog w A.in1 I fp wr G n P St) (S : Addr) (hSf : S ∉ fp)
    (val : Nat → Str) (hval : ∀ i v, P i v → ∃ t, v = .str (val i) t) (hb : n + 1 < scanBound) :
    ∀ (k i : Nat) (s : Shared), n - i = k → i ≤ n → St i s →
      s.heap.SetOf (strKind prog w) S (fun k' => (metAt val i).any (· == k')) (metAt val i).length →
      (∀ s', Moved (S :: wr) G s s' → s'.heap.SetOf (strKind prog w) S (fun k' => (metAt val n).any (· == k')) (metAt val n).length → R (.ok (.ret .none)) s') →
      codeAny (model prog w) A (.builtin "set.update.loop" ⟨[.ref S, .ref I], []⟩) R s := by
  have hSw : S ∉ wr := fun h => hSf (W.sub _ h)
  have hsub : ∀ b ∈ wr, b ∈ S :: wr := fun b hb => List.mem_cons_of_mem _ hb
  intro k
  induction k with
  | zero =>
    intro i s hk hi hst hS hR
    obtain rfl : i = n := by omega
    refine codeAny_builtin PyProof.Rows.F.entry_set_update_loop ?_
    rw [Around.under_plainId PyProof.Rows.F.plain_set_update_loop _]
    show wpAny _ A.in1 (pyNext (.ref I) >>= _) _ _ s
    refine wpAny_bind (W.done s _ _ hst fun s' hm => ?_)
    show wpAny _ A.in1 (ret Value.none) _ _ s'
    exact wpAny_pure (hR s' (hm.mono hsub) (by
      obtain ⟨o, es, ep, t, ho, rest⟩ := hS
      exact ⟨o, es, ep, t, hm.heap S _ hSw ho, rest⟩))
  | succ k ih =>
    intro i s hk hi hst hS hR
    have hlt : i < n := by omega
    refine codeAny_builtin PyProof.Rows.F.entry_set_update_loop ?_
    rw [Around.under_plainId PyProof.Rows.F.plain_set_update_loop _]
    show wpAny _ A.in1 (pyNext (.ref I) >>= _) _ _ s
    refine wpAny_bind (W.item i s _ _ hlt hst fun v s' hP hst' hm => ?_)
    obtain ⟨t, rfl⟩ := hval i v hP
    have hS' : s'.heap.SetOf (strKind prog w) S (fun k' => (metAt val i).any (· == k')) (metAt val i).length := by
      obtain ⟨o, es, ep, tb, ho, rest⟩ := hS
      exact ⟨o, es, ep, tb, hm.heap S _ hSw ho, rest⟩
    show wpAny _ A.in1 (holding [Value.str (val i) t] (setAdd S (.str (val i) t)) >>= _) _ _ s'
    refine wpAny_bind (wpAny_holding ?_)
    unfold setAdd
    refine wpAny_holding ?_
    refine wpAny_bind ((strKind prog w).pyHash (k := val i) (strKind_is _ _ _ _) ?_)
    have hroom : (metAt val i).length + 1 < scanBound := by have := metAt_le val i; omega
    refine wpAny_setAddHashed_of (knd := strKind prog w) (s := { s' with toks := s'.toks + 1 }) (strKind_is _ _ _ _) rfl hS' hroom fun h' hsb hS2 => ?_
    have hSi : h'.SetOf (strKind prog w) S (fun k' => (metAt val (i + 1)).any (· == k')) (metAt val (i + 1)).length :=
      SetOf_congr hS2 (fun k' => by rw [metAt_succ, any_snoc]) (by rw [metAt_succ, len_snoc])
    refine wpAny_pure ⟨plainId_quiet PyProof.Rows.F.plain_set_update_loop _, ih (i + 1) _ (by omega) hlt (W.frame _ s' _ _ hst' (Nat.le_succ _) fun b hb o e => ?_) hSi fun s'' hm'' hS'' => ?_⟩
    · rw [hsb.2 b (fun h : b = S => hSf (by rw [← h]; exact hb))]; exact e
    · refine hR s'' (Moved.trans W.gtrans ((hm.mono hsub).then_heap (Nat.le_succ _) fun b o hb e => ?_) hm'') hS''
      rw [hsb.2 b (fun h : b = S => hb (by rw [h]; exact List.mem_cons_self))]; exact e
end

section
variable {prog : Program} {w : World} {A : Around} {E : Value → Shared → Prop} {s : Shared}
set_option maxHeartbeats 3200000 in
theorem call_set_tuple {l : Addr} {items : Array Value} {ts : List Str} {Q : Value → Shared → Prop}
    (hh : A.handled = none) (hl : s.heap.IsTuple l items) (hi : StrsAre items.toList ts) (hb : items.size + 1 < scanBound)
    (h : ∀ (h' : Heap) (tk : Nat), h'.SetOf (strKind prog w) s.heap.objs.size (fun k' => (metAt (fun i => ts.getD i Str.empty) items.size).any (· == k')) (metAt (fun i => ts.getD i Str.empty) items.size).length →
      (∀ b o, b < s.heap.objs.size → s.heap.get? b = some o → h'.get? b = some o) → Q (.ref s.heap.objs.size) { s with heap := h', toks := tk }) :
    wpAny (model prog w) A (call (.type "set") [.ref l]) Q E s := by
  obtain ⟨c, tl, hmro⟩ := PySem.F.called_set.mro
  have hmade := PySem.F.called_set.made
  have hsub := PySem.F.called_set.sub
  refine wpAny_call (codeAny_of_tree ?_)
  show wpAny _ _ (callAny (.type "set") _) _ _ _
  refine wpAny_pure ⟨Code.quiet_builtin _ (by decide +kernel), codeAny_builtin PySem.F.entry_type_call ?_⟩
  rw [Around.under_plain (weight_type_call_type "set" [.ref l] []) rfl]
  have h1 := PySem.F.called_set.notType
  have h2 := PySem.F.called_set.canCreate
  have hct := PySem.F.typeCall_set_1 (.ref l)
  repeat (any_goals (first | assumption | wp_step))
  refine codeAny_mono (code_set_new_1 (.ref l) (E := E) (Q₁ := fun obj s₁ => ∃ led : Bool, obj = .ref s.heap.objs.size ∧ s₁ = { s with heap := s.heap.push { cls := .type "set", dict := none, data := .set #[] 0 (.fresh 0 0 led) } }) fun led => ⟨led, rfl, rfl⟩) fun r s₁ hr => ?_
  cases r with
  | error e => exact hr
  | ok fl =>
    cases fl with
    | ret obj =>
      obtain ⟨led, rfl, rfl⟩ := hr
      have hS : (s.heap.push { cls := .type "set", dict := none, data := .set #[] 0 (.fresh 0 0 led) }).get? s.heap.objs.size = some { cls := .type "set", dict := none, data := .set #[] 0 (.fresh 0 0 led) } := Heap.get?_push_size _ rfl
      have hT : Shared.TypeIs { s with heap := s.heap.push { cls := .type "set", dict := none, data := .set #[] 0 (.fresh 0 0 led) } } (.ref s.heap.objs.size) "set" := ⟨_, hS, rfl⟩
      have hli := PySem.F.called_set.init.lookup
      have hbi := PySem.F.called_set.init.bind (.ref s.heap.objs.size)
      repeat (any_goals (first | assumption | wp_step))
      refine codeAny_mono (codeAny_call_builtin (R := wants (fun r s₂ => r = .none ∧ ∃ h' tk, s₂ = { s with heap := h', toks := tk } ∧
          h'.SetOf (strKind prog w) s.heap.objs.size (fun k' => (metAt (fun i => ts.getD i Str.empty) items.size).any (· == k')) (metAt (fun i => ts.getD i Str.empty) items.size).length ∧
          (∀ b o, b < s.heap.objs.size → s.heap.get? b = some o → h'.get? b = some o)) E) PySem.F.called_set.init.plain PySem.F.entry_set_init (check_set_init_1 hT ?_)) fun r₂ s₂ hr₂ => ?_
      · obtain ⟨ol, hol, hcl, nl, hdl⟩ := hl
        obtain ⟨ocls, odict, odata, oslots⟩ := ol
        simp only at hcl hdl
        subst hcl; subst hdl
        have hol' : (s.heap.push { cls := .type "set", dict := none, data := .set #[] 0 (.fresh 0 0 led) }).get? l = some { cls := .type "tuple", dict := odict, data := .seq items nl, slots := oslots } := Heap.get?_push_of_some _ hol
        have hsls := sub_tuple_set
        have hslf := sub_tuple_frozenset
        have hne : (Value.type "tuple" == Value.type "dict") = false := by decide
        have hl1 : (s.heap.push { cls := .type "set", dict := none, data := .set #[] 0 (.fresh 0 0 led) }).IsTuple l items := ⟨_, hol', rfl, nl, rfl⟩
        unfold Builtin.«set.__init__» noKeywords Builtin.Frozenset.updateFrom
        generalize hPI : pyIter = PI
        wp_walk
        subst hPI
        refine wpAny_pyIter_tuple hl1 ?_
        refine wpAny_bind (wpAny_runValue ?_)
        have hlS : l < s.heap.objs.size := Heap.lt_size hol
        have hh3 : A.in1.in1.in1.handled = none := by simp [hh]
        have hneI : l ≠ (s.heap.push { cls := .type "set", dict := none, data := .set #[] 0 (.fresh 0 0 led) }).objs.size := by
          rw [Heap.size_push]; exact Nat.ne_of_lt (Nat.lt_succ_of_lt hlS)
        have hSf : s.heap.objs.size ∉ [(s.heap.push { cls := .type "set", dict := none, data := .set #[] 0 (.fresh 0 0 led) }).objs.size, l] := by
          rw [Heap.size_push]; simp only [List.mem_cons, List.mem_singleton, List.not_mem_nil, or_false, not_or]
          exact ⟨Nat.ne_of_lt (Nat.lt_succ_self _), Nat.ne_of_gt hlS⟩
        have hval : ∀ (i : Nat) (v : Value), items[i]? = some v → ∃ t, v = .str ((fun i => ts.getD i Str.empty) i) t := fun i v hv =>
          strs_at hi i v (by rw [Array.getElem?_toList]; exact hv)
        refine loop ((Walks.tuple hh3 _ l hneI items).toS) s.heap.objs.size
          hSf (fun i => ts.getD i Str.empty) hval hb (items.size - 0) 0 _ (by omega) (Nat.zero_le _)
          ⟨⟨_, Heap.get?_push_size _ rfl, rfl, rfl⟩, (hl1.push _)⟩ ?hS0 ?hR
        case hS0 =>
          have hget : ((s.heap.push { cls := .type "set", dict := none, data := .set #[] 0 (.fresh 0 0 led) }).push { cls := .type "tuple_iterator", data := .fields #[.ref l, .int 0 0] }).get? s.heap.objs.size
              = some { cls := .type "set", dict := none, data := .set #[] 0 (.fresh 0 0 led) } := Heap.get?_push_of_some _ hS
          exact SetOf_congr ((setObjOf_fresh (knd := strKind prog w) led).setOf hget (by unfold scanBound; omega)) (fun _ => rfl) rfl
        case hR =>
          intro s' hm hS'
          obtain ⟨h', g', d', tk', os'⟩ := s'
          have eg : g' = s.gens := hm.gens
          have ed : d' = s.drawn := hm.drawn
          have eo : os' = s.os := hm.os
          subst eg; subst ed; subst eo
          show wpAny _ _ _ _ _ _
          refine wpAny_pure ?_
          show wpAny _ _ (PySem.ret Value.none) _ _ _
          refine wpAny_pure ⟨rfl, h', tk', rfl, hS', fun b o hb e => ?_⟩
          have hb1 : b ≠ s.heap.objs.size := Nat.ne_of_lt hb
          have hb2 : b ≠ (s.heap.push { cls := .type "set", dict := none, data := .set #[] 0 (.fresh 0 0 led) }).objs.size := by
            rw [Heap.size_push]; exact Nat.ne_of_lt (Nat.lt_succ_of_lt hb)
          exact hm.heap b o (by simp only [List.mem_cons, List.mem_singleton, List.not_mem_nil, or_false, not_or]; exact ⟨hb1, hb2⟩) (Heap.get?_push_of_some _ (Heap.get?_push_of_some _ e))
      · cases r₂ with
        | error e => exact hr₂
        | ok fl₂ =>
          cases fl₂ with
          | ret r =>
            obtain ⟨rfl, h', tk, rfl, hS', hk'⟩ := hr₂
            repeat (any_goals (first | assumption | wp_step))
            exact h _ _ hS' hk'
          | _ => exact hr₂.elim
    | _ => exact hr.elim
end
end SetStr
end Mine
namespace Mine
theorem strs_len {vs : List Value} {ts : List Str} (h : StrsAre vs ts) : vs.length = ts.length := StrsAre.length h
theorem met_le (l : List Str) : (met l).length ≤ l.length := by
  have key : ∀ (l σ : List Str), (l.foldl (fun σ v => if σ.any (· == v) then σ else σ ++ [v]) σ).length ≤ σ.length + l.length := by
    intro l
    induction l with
    | nil => intro σ; simp
    | cons v r ih =>
      intro σ
      rw [List.foldl_cons]
      refine Nat.le_trans (ih _) ?_
      split <;> simp <;> omega
  simpa [met] using key l []
theorem range_getD {α : Type} (l : List α) (d : α) : (List.range l.length).map (fun i => l.getD i d) = l := by
  refine List.ext_getElem (by simp) fun i h1 h2 => ?_
  simp [List.getD_eq_getElem?_getD, List.getElem?_eq_getElem h2]
section
variable {prog : Program} {w : World} {A : Around} {E : Value → Shared → Prop} {s : Shared} {g : Heap} {L D : Addr} {m : Str → Option Value} {news : List (Addr × Obj)} {vs : List Value} {ts : List Str}
/-- set(elements), a tuple of texts -/
theorem setTup_N {Q : Value → Shared → Prop} (F : Fr g L s.heap m) (N : News g L s.heap news) (hh : A.handled = none) (ht : IsTup g D vs.toArray) (hi : StrsAre vs ts) (hb : ts.length ≤ 1000)
    (h : ∀ h' tk S o (es : Array (Int × Value)) ep t, Fr g L h' m → News g L h' ((S, o) :: news) → o.ExactSet → o.data = .set es ep t → t.fits es.size = true → es.size = (met ts).length → Q (.ref S) { s with heap := h', toks := tk }) :
    wpAny (model prog w) A (call (.type "set") [.ref D]) Q E s := by
  have hl := strs_len hi
  refine SetStr.call_set_tuple hh (IsTup.keeps ht F.keep) (by simpa using hi) (by simp only [List.size_toArray]; unfold scanBound; omega) fun h' tk hS hk => ?_
  obtain ⟨o, es, ep, t, ho, hex, hd, _, _, _, hf, hn⟩ := hS
  have hk' : ∀ b x, s.heap.get? b = some x → h'.get? b = some x := fun b x e => hk b x (Heap.lt_size e) e
  refine h h' tk _ o es ep t (F.keeps hk') (fun p hp => ?_) hex hd hf ?_
  · rcases List.mem_cons.mp hp with rfl | hp
    · exact ⟨ho, Ne.symm (Nat.ne_of_lt F.ns.lt), next_is_new F⟩
    · exact N.grown hk' p hp
  · rw [hn]
    unfold metAt
    rw [List.size_toArray, hl, range_getD]
theorem lenSet_N {S : Addr} {o : Obj} {es : Array (Int × Value)} {ep : Nat} {t : SetTable} {Q : Value → Shared → Prop} (N : News g L s.heap news) (hm : (S, o) ∈ news) (hex : o.ExactSet) (hd : o.data = .set es ep t) (hf : t.fits es.size = true) (hn : es.size = (met ts).length) (hb : (met ts).length ≤ 1000)
    (h : Q (.int ((met ts).length : Nat) (s.toks + 1)) { s with toks := s.toks + 1 + 1 }) : wpAny (model prog w) A (call (.builtin "len") [.ref S]) Q E s := by
  refine call_len_set (N _ hm).1 hex hd hf (by omega) ?_
  rw [hn]; exact h
end
end Mine

end

section
open PySem PySem.W PySem.Calls PyProof.Rows
set_option Elab.async false
set_option maxRecDepth 100000
namespace Mine

/-- reading on to the one object that a binder makes (the tuple of *rest) -/
theorem peek1_push {α : Type} {K : Frag} {M : Model} {A : Around} {E : Value → Shared → Prop} {Q : α → Shared → Prop} {s : Shared} {o : Obj} {r : Addr → α}
    (X : K.In s.heap) (q : Q (r s.heap.objs.size) { s with heap := s.heap.push o }) :
    ∀ (t : Sem α) (g : Addr → Option α), peek1 K ⟨M.prog, M.w.params⟩ t = some (o, g) → (∀ D, g D = some (r D)) → wpAny M A t Q E s := by
  intro t
  induction t with
  | rule _ k ih => exact fun g e hg Γ p hΓ => ih () g e hg Γ p hΓ
  | point _ k ih => exact fun g e hg Γ p hΓ => ih () g e hg Γ p hΓ
  | ask k ih => exact fun g e hg Γ p hΓ => ih _ g e hg Γ p hΓ
  | load a _ k ih =>
    intro g e hg Γ p hΓ
    simp only [peek1] at e
    split at e
    · rename_i ob ho; exact ⟨ob, X _ _ ho, ih ob g e hg Γ p hΓ⟩
    · cases e
  | alloc ob k _ =>
    intro g e hg
    have e : some (ob, fun D => peek K ⟨M.prog, M.w.params⟩ (k D)) = some (o, g) := e
    obtain ⟨e1, e2⟩ := Prod.mk.inj (Option.some.inj e)
    subst e1
    subst e2
    have X' : K.In (s.heap.push ob) := X.keeps fun b x hb => Heap.get?_push_of_some _ hb
    show wpAny M A (alloc ob >>= k) Q E s
    exact wpAny_bind (wpAny_alloc ((Looks.of_peek (M := M) (h := s.heap.push ob) X' (hg s.heap.objs.size)).here (s := { s with heap := s.heap.push ob }) q))
  | _ => intro g e; cases e

section
variable {prog : Program} {w : World} {A : Around} {s : Shared} {K : Frag} {p : Program} {loose : List Str} {mean : ExcName → Option Value} {mg mb : Str → Option Value}
    {R : Result → Shared → Prop} {name qual : Str} {params : Arguments} {body : List Stmt} {scope : Scope} {dV kV doc pm cdv ct oc : Value} {an od : Option Addr} {osl : Array (Option Value)} {f : Addr} {args : Args} {binds : List (Str × Value)}

/-- the body of a def with cells, from the frame's making -/
theorem bodyC {R : Result → Shared → Prop} (hlim : s.heap.NoLimit)
    (hkind : (binds.all fun y => scope.names.lookup y.1 == some .local || scope.names.lookup y.1 == some .cell) = true) (hnd : ((cellsFrom 0 scope.names []).map (·.1)).Nodup)
    (h : ∀ L h₁ tk cells, Fr s.heap L h₁ (bindL (envOfC qual scope L f cdv).kindOf binds fun _ => none) → News s.heap L h₁ cells →
      CellsAre (bindC (envOfC qual scope L f cdv).kindOf binds fun _ => none) (cellsFrom (L + 1) scope.names []) cells →
      wpAny (model prog w) (A.deeper (envOfC qual scope L f cdv)) (execs body (envOfC qual scope L f cdv)) (fun fl s' => R (.ok (.ret (match fl with | .ret v => v | _ => .none))) s') (fun _ _ => False) { s with heap := h₁, toks := tk })
    (hk : scope.kind = .function) {E : Value → Shared → Prop} :
    wpAny (model prog w) A.in1 (newFunctionEnv scope mainGlobals [] binds (qual ++ ".<locals>.") (some f) cdv none builtinsNs) (fun env' s₂ => s₂.heap.NoLimit ∧ codeAny (model prog w) A (.func body env') R s₂) E s := by
  refine wpAny_newFunctionEnv_cells hk (kindsX hkind _) fun env' he s' x => ?_
  subst he
  have hk₁ := x.toInCall.keep
  refine ⟨hlim.keeps hk₁, codeAny_func ?_⟩
  obtain ⟨h₁, tk, rfl, _⟩ := x.done
  obtain ⟨cells, NC, Y⟩ := Cl.news (h₀ := s.heap) (Nat.le_refl _) fun n c hm => ⟨x.cell n c (lookup_of_mem_nodup (cellsFrom_names scope.names 0 (s.heap.objs.size + 1) [] [] rfl ▸ hnd) hm), x.above n c hm⟩
  exact wpAny_mono (h s.heap.objs.size h₁ tk cells ⟨x.toInCall.ns, hk₁, Nat.le_refl _⟩ NC Y) (fun _ _ y => y) fun _ _ y => y.elim

theorem enterC (X : K.In s.heap) (T : Top p loose mean mg mb s.heap)
    (ho : K.lookup f = some ⟨oc, od, .func (fnOf name qual params body scope dV kV doc pm an cdv ct), osl⟩) (hcd : codeIn K cdv qual = true) (hroom : A.depth < recursionLimit)
    (hbind : BindsTo s (fnOf name qual params body scope dV kV doc pm an cdv ct) args binds)
    (hkind : (binds.all fun y => scope.names.lookup y.1 == some .local || scope.names.lookup y.1 == some .cell) = true) (hnd : ((cellsFrom 0 scope.names []).map (·.1)).Nodup)
    (h : ∀ L h₁ tk cells, Fr s.heap L h₁ (bindL (envOfC qual scope L f cdv).kindOf binds fun _ => none) → News s.heap L h₁ cells →
      CellsAre (bindC (envOfC qual scope L f cdv).kindOf binds fun _ => none) (cellsFrom (L + 1) scope.names []) cells →
      wpAny (model prog w) (A.deeper (envOfC qual scope L f cdv)) (execs body (envOfC qual scope L f cdv)) (fun fl s' => R (.ok (.ret (match fl with | .ret v => v | _ => .none))) s') (fun _ _ => False) { s with heap := h₁, toks := tk })
    (hco : scope.isCoroutine = false) (hgen : scope.isGenerator = false) (hk : scope.kind = .function) : codeAny (model prog w) A (.call (.ref f) args) R s := by
  refine codeAny_call_function (fd := fnOf name qual params body scope dV kV doc pm an cdv ct) (body := body) hroom (X _ _ ho) rfl hco hgen rfl (codeRec_of X hcd) (hbind _ _ _ _ ?_)
  exact bodyC T.nolimit hkind hnd h hk

/-- the tuple of *rest laid ahead of the frame: it is of the base -/
abbrev restObj (vs : List Value) : Obj := { cls := .type "tuple", data := .seq vs.toArray }
theorem enterV {vs : List Value} {g₁ : Addr → Option (List (Str × Value))} {binds : Addr → List (Str × Value)} (X : K.In s.heap) (T : Top p loose mean mg mb s.heap)
    (ho : K.lookup f = some ⟨oc, od, .func (fnOf name qual params body scope dV kV doc pm an cdv ct), osl⟩) (hcd : codeIn K cdv qual = true) (hroom : A.depth < recursionLimit)
    (hp : peek1 K ⟨prog, w.params⟩ (bindArgs (fnOf name qual params body scope dV kV doc pm an cdv ct) args) = some (restObj vs, g₁)) (hg : ∀ D, g₁ D = some (binds D)) (hloc : ∀ D, ∀ y ∈ binds D, scope.names.lookup y.1 = some .local)
    (h : ∀ D g L h₁, s.heap.StaysIn g → s.heap.get? D = none → IsTup g D vs.toArray → Fr g L h₁ (fun y => (binds D).reverse.lookup y) → News g L h₁ [] →
      wpAny (model prog w) (A.deeper (envOf qual scope L f cdv)) (execs body (envOf qual scope L f cdv)) (fun fl s' => R (.ok (.ret (match fl with | .ret v => v | _ => .none))) s') (fun _ _ => False) { s with heap := h₁, toks := s.toks + (binds D).length })
    (hco : scope.isCoroutine = false) (hgen : scope.isGenerator = false) (hk : scope.kind = .function)
    (hcell : ∀ x ∈ scope.names, x.2 ≠ .cell) : codeAny (model prog w) A (.call (.ref f) args) R s := by
  refine codeAny_call_function (fd := fnOf name qual params body scope dV kV doc pm an cdv ct) (body := body) hroom (X _ _ ho) rfl hco hgen rfl (codeRec_of X hcd) ?_
  have st : s.heap.StaysIn (s.heap.push (restObj vs)) := fun b o e => Heap.get?_push_of_some _ e
  refine peek1_push (M := model prog w) X (r := binds) ?_ _ g₁ hp hg
  refine wpAny_newFunctionEnv hcell (hloc _) (fun h₁ hns hsb => ⟨(T.nolimit.keeps st).fresh _ hsb, codeAny_func ?_⟩) hk
  have hk₁ : ∀ b o, (s.heap.push (restObj vs)).get? b = some o → h₁.get? b = some o := fun b o e => hsb.extBut b o (Nat.ne_of_lt (Heap.lt_size e)) (Heap.get?_push_of_some _ e)
  exact wpAny_mono (h s.heap.objs.size (s.heap.push (restObj vs)) _ h₁ st (Heap.get?_none_of_le (Nat.le_refl _)) ⟨_, Heap.get?_push_size _ rfl, rfl, _, rfl⟩ ⟨hns, hk₁, Nat.le_refl _⟩ News.nil) (fun _ _ y => y) fun _ _ y => y.elim

theorem enterVC {vs : List Value} {g₁ : Addr → Option (List (Str × Value))} {binds : Addr → List (Str × Value)} (X : K.In s.heap) (T : Top p loose mean mg mb s.heap)
    (ho : K.lookup f = some ⟨oc, od, .func (fnOf name qual params body scope dV kV doc pm an cdv ct), osl⟩) (hcd : codeIn K cdv qual = true) (hroom : A.depth < recursionLimit)
    (hp : peek1 K ⟨prog, w.params⟩ (bindArgs (fnOf name qual params body scope dV kV doc pm an cdv ct) args) = some (restObj vs, g₁)) (hg : ∀ D, g₁ D = some (binds D))
    (hkind : ∀ D, ((binds D).all fun y => scope.names.lookup y.1 == some .local || scope.names.lookup y.1 == some .cell) = true) (hnd : ((cellsFrom 0 scope.names []).map (·.1)).Nodup)
    (h : ∀ D g L h₁ tk cells, s.heap.StaysIn g → s.heap.get? D = none → IsTup g D vs.toArray → Fr g L h₁ (bindL (envOfC qual scope L f cdv).kindOf (binds D) fun _ => none) → News g L h₁ cells →
      CellsAre (bindC (envOfC qual scope L f cdv).kindOf (binds D) fun _ => none) (cellsFrom (L + 1) scope.names []) cells →
      wpAny (model prog w) (A.deeper (envOfC qual scope L f cdv)) (execs body (envOfC qual scope L f cdv)) (fun fl s' => R (.ok (.ret (match fl with | .ret v => v | _ => .none))) s') (fun _ _ => False) { s with heap := h₁, toks := tk })
    (hco : scope.isCoroutine = false) (hgen : scope.isGenerator = false) (hk : scope.kind = .function) : codeAny (model prog w) A (.call (.ref f) args) R s := by
  refine codeAny_call_function (fd := fnOf name qual params body scope dV kV doc pm an cdv ct) (body := body) hroom (X _ _ ho) rfl hco hgen rfl (codeRec_of X hcd) ?_
  have st : s.heap.StaysIn (s.heap.push (restObj vs)) := fun b o e => Heap.get?_push_of_some _ e
  refine peek1_push (M := model prog w) X (r := binds) ?_ _ g₁ hp hg
  exact bodyC (s := { s with heap := s.heap.push (restObj vs) }) (T.nolimit.keeps st) (hkind _) hnd (fun L h₁ tk cells F N Y => h s.heap.objs.size (s.heap.push (restObj vs)) L h₁ tk cells st (Heap.get?_none_of_le (Nat.le_refl _)) ⟨_, Heap.get?_push_size _ rfl, rfl, _, rfl⟩ F N Y) hk
end

theorem below_up {A : Around} {base h₀ g : Heap} {outer : List Env} (B : Below A base outer h₀) (k : h₀.StaysIn g) : Below A base outer g :=
  ⟨B.stack, fun b o e => k b o (B.stays b o e), B.frames.of_keeps fun b o e _ => ⟨o, k b o e, rfl⟩⟩

/-- a contract: the call of f on pos hands back a value that post tells of, and lays new objects alone -/
def Tells1 (prog : Program) (w : World) (K : Frag) (dn un' : Nat) (f : Value) (pos : List Value) (pre : Heap → Prop) (post : Value → Heap → Heap → Prop) : Prop :=
  ∀ (p : Program) (loose : List Str) (mean : ExcName → Option Value) (mg mb : Str → Option Value) (dp un : Nat) (gd : Option (List Code)) (outer : List Env) (A₀ : Around) (base : Heap) (s : Shared) (Q : Value → Shared → Prop),
    Below A₀ base outer s.heap → K.In s.heap → Top p loose mean mg mb s.heap → dp + dn < recursionLimit → un + un' < cLine → pre s.heap →
    (∀ v h' tk', s.heap.StaysIn h' → post v s.heap h' → Q v { s with heap := h', toks := tk' }) →
    codeAny (model prog w) ⟨none, dp, some outer, gd, un⟩ (.call f ⟨pos, []⟩) (fun r s' => match r with | .ok (.ret v) => Q v s' | .ok _ => False | .error _ => False) s

section
variable {prog : Program} {w : World} {K : Frag} {dn un' : Nat} {f : Value} {pos : List Value} {pre : Heap → Prop} {post : Value → Heap → Heap → Prop}
    {p : Program} {loose : List Str} {mean : ExcName → Option Value} {mg mb : Str → Option Value} {dp un : Nat} {gd : Option (List Code)} {env : Env} {outer : List Env} {A₀ : Around} {base h₀ : Heap} {L : Addr} {m : Str → Option Value} {news : List (Addr × Obj)} {s : Shared} {Q E : Value → Shared → Prop}
theorem Tells1.code (H : Tells1 prog w K dn un' f pos pre post)
    (B : Below A₀ base outer h₀) (F : Fr h₀ L s.heap m) (X : K.In h₀) (N : News h₀ L s.heap news) (T : Top p loose mean mg mb h₀) (hf : env.frame = some L) (hk : env.scope.kind = .function) (hd : dp + dn < recursionLimit) (hu : un + un' < cLine) (hp : pre s.heap)
    (ret : ∀ v h' tk', Fr h₀ L h' m → News h₀ L h' news → s.heap.StaysIn h' → post v s.heap h' → Q v { s with heap := h', toks := tk' }) :
    codeAny (model prog w) ⟨none, dp, some (env :: outer), gd, un⟩ (.call f ⟨pos, []⟩) (fun r s' => match r with | .ok (.ret v) => Q v s' | .ok _ => False | .error e => E e s') s := by
  have B' := pushX (A := A₀) B F hf hk
  refine codeAny_mono (H p loose mean mg mb dp un gd (env :: outer) (A₀.deeper env) base s Q B' (X.keeps F.keep) (T.keeps F.keep) hd hu hp fun v h' tk' st po => ret v h' tk' (F.keeps st) (N.grown st) st po) fun r s' h => ?_
  cases r with
  | error e => exact h.elim
  | ok fl => cases fl <;> exact h
theorem Tells1.use (H : Tells1 prog w K dn un' f pos pre post)
    (B : Below A₀ base outer h₀) (F : Fr h₀ L s.heap m) (X : K.In h₀) (N : News h₀ L s.heap news) (T : Top p loose mean mg mb h₀) (hf : env.frame = some L) (hk : env.scope.kind = .function) (hd : dp + dn < recursionLimit) (hu : un + un' < cLine) (hp : pre s.heap)
    (ret : ∀ v h' tk', Fr h₀ L h' m → News h₀ L h' news → s.heap.StaysIn h' → post v s.heap h' → Q v { s with heap := h', toks := tk' }) :
    wpAny (model prog w) ⟨none, dp, some (env :: outer), gd, un⟩ (call f pos) Q E s :=
  wpAny_call (H.code B F X N T hf hk hd hu hp ret)
/-- by a bound method -/
theorem Tells1.useM {q : Addr} {self : Value} {rest : List Value} (hq : (q, methodObj f self) ∈ news) (H : Tells1 prog w K dn un' f (self :: rest) pre post)
    (B : Below A₀ base outer h₀) (F : Fr h₀ L s.heap m) (X : K.In h₀) (N : News h₀ L s.heap news) (T : Top p loose mean mg mb h₀) (hf : env.frame = some L) (hk : env.scope.kind = .function) (hd : dp + dn < recursionLimit) (hu : un + un' < cLine) (hp : pre s.heap)
    (ret : ∀ v h' tk', Fr h₀ L h' m → News h₀ L h' news → s.heap.StaysIn h' → post v s.heap h' → Q v { s with heap := h', toks := tk' }) :
    wpAny (model prog w) ⟨none, dp, some (env :: outer), gd, un⟩ (call (.ref q) rest) Q E s :=
  call_meth N hq (H.code B F X N T hf hk hd hu hp ret)
end
end Mine
namespace Mine
theorem upto4 {P : List Value → Prop} (h0 : P []) (h1 : ∀ a, P [a]) (h2 : ∀ a b, P [a, b]) (h3 : ∀ a b c, P [a, b, c]) (h4 : ∀ a b c d, P [a, b, c, d]) : ∀ vs : List Value, vs.length ≤ 4 → P vs
  | [], _ => h0
  | [a], _ => h1 a
  | [a, b], _ => h2 a b
  | [a, b, c], _ => h3 a b c
  | [a, b, c, d], _ => h4 a b c d
  | _ :: _ :: _ :: _ :: _ :: _, h => by simp at h
end Mine

end

section
open PySem PySem.W PySem.Calls PyProof.Rows
set_option Elab.async false
set_option maxRecDepth 100000
set_option maxHeartbeats 8000000
namespace Mine
local macro_rules | `(tactic| walk_at "mine enterV") => `(tactic| ((case k3 => k_asm); (case k5 => k_asm); (case k6 => k_is); (case k7 => k_is); (case k8 => ktr_room); (case c5 => decide); (case kB => exact fun _ => locs rfl); (case c2 => exact rfl); (case c3 => exact rfl); (case c4 => exact rfl); (case kG => exact fun _ => rfl)))
local macro_rules | `(tactic| walk_at "mine go") => `(tactic| repeat' ((fail_if_success (with_reducible show wpAny _ _ (pyIter _) _ _ _)); (fail_if_success (with_reducible show wpAny _ _ (exec (Stmt.While _ _ _ _) _) _ _ _)); (first | (k_unfold; (try dsimp only)) | (k_end; wrow_close) | walk1 | (dsimp only; walk1) | (leave1; walk_say "STEP leave1"; try dsimp only) | fail "no step")))
local macro_rules | `(tactic| walk_at "call type:set") => `(tactic| (k_here; (with_unfolding_all refine setTup_N (by k_asm) (by k_asm) rfl (by assumption) (by assumption) (by omega) ?_); intro h' tk' S' o' es' ep' t' F' N' hex' hds' hfs' hns'))
local macro_rules | `(tactic| walk_at "call builtin:len") => `(tactic| (k_here; (with_unfolding_all refine lenSet_N (by k_asm) (.head _) (by assumption) (by assumption) (by assumption) (by assumption) (Nat.le_trans (met_le _) (by omega)) ?_)))

theorem ident_c {prog : Program} {w : World} (fill : PySem.Challenge.rw_ah5039_01 = PySem.Challenge.rw_ah5039_01 ∧ hd.heap_39 = hd.heap_39) {vs : List Value} {ts : List Str} (hi : StrsAre vs ts) (hb : ts ≠ []) (hb2 : ts.length ≤ 4) :
    Tells1 prog w (hd.heap_39 w.params) 2 20 (.ref 100) vs (fun _ => True) (fun v _ _ => v = .bool (ts.all (· == ts.headD Str.empty))) := by
  revert fill
  k_fill
  intro _
  intro p loose mean mg mb dp un gd outer A₀ base s Q B X T hdp hu _ ret
  k_dflt (refine' enterV (vs := vs) (g₁ := fun D => some [("elements", .ref D)]) (binds := fun D => [("elements", .ref D)]) ?k3 ?k5 ?k6 ?k7 ?k8 ?k9 ?kG ?kB ?_ ?c2 ?c3 ?c4 ?c5; walk_at "mine enterV")
  case k9 => refine upto4 (P := fun us => peek1 _ _ (bindArgs _ { pos := us }) = some (restObj us, _)) ?_ ?_ ?_ ?_ ?_ vs (by rw [strs_len hi]; exact hb2) <;> (intros; rfl)
  intro D g L h₁ st hD ht F N
  replace B := below_up B st
  replace X := X.keeps st
  replace T := T.keeps st
  dsimp only
  try k_fold
  walk_at "mine go"
  refine ret _ _ _ (fun b o e => by rename Fr _ _ _ _ => F2; exact F2.keep b o (st b o e)) ?_
  match ts, hb with
  | x :: l, _ => rw [show (((met (x :: l)).length : Int) == 1) = decide (((met (x :: l)).length : Int) = 1) from by rw [Bool.eq_iff_iff]; simp, met_len x l]; rfl

end Mine

end

section
open PySem PySem.W PySem.Calls PyProof.Rows
set_option Elab.async false
set_option maxRecDepth 100000
namespace Mine

section
variable {prog : Program} {w : World} {A : Around} {E : Value → Shared → Prop} {s : Shared} {g : Heap} {L D : Addr} {m : Str → Option Value} {news : List (Addr × Obj)} {vs : List Value} {ts : List Str}

theorem tup_truthy {Q : Bool → Shared → Prop} (ht : IsTup s.heap D vs.toArray) (hi : StrsAre vs ts) (hb : ts.length ≤ 1000) (h0 : ts = [] → Q false { s with toks := s.toks + 1 + 1 }) (h1 : ts ≠ [] → Q true { s with toks := s.toks + 1 + 1 }) : wpAny (model prog w) A (truthy (.ref D)) Q E s := by
  have hl := strs_len hi
  refine truthy_tuple ht (by simp; omega) ?_
  cases ts with
  | nil =>
    have : vs = [] := List.eq_nil_of_length_eq_zero hl
    subst this; exact h0 rfl
  | cons t r =>
    cases vs with
    | nil => simp at hl
    | cons v l => exact h1 (by simp)
theorem tup_len {Q : Value → Shared → Prop} (ht : IsTup s.heap D vs.toArray) (hi : StrsAre vs ts) (hb : ts.length ≤ 1000) (h : Q (.int (ts.length : Nat) (s.toks + 1)) { s with toks := s.toks + 1 + 1 }) :
    wpAny (model prog w) A (call (.builtin "len") [.ref D]) Q E s := by
  have hl := strs_len hi
  refine PyProof.Rows.len_tuple ht (by simp; omega) ?_
  rw [show vs.toArray.size = ts.length by simp [hl]]
  exact h
theorem tup_star {Q : List Value → Shared → Prop} (F : Fr g L s.heap m) (N : News g L s.heap news) (ht : IsTup s.heap D vs.toArray) (hb : vs.length ≤ 1000) (h : ∀ h', Fr g L h' m → News g L h' news → Q vs { s with heap := h' }) :
    StarOf (model prog w) A E (.ref D) Q s := by
  obtain ⟨o, ho, hc, n, hd⟩ := ht
  have hT' : s.TypeIs (.ref D) "tuple" := ⟨o, ho, hc⟩
  have z : wpAny (model prog w) A (collect (.ref D)) Q E s := by
    refine wpAny_collect_seq D (.inr rfl) ho hc hd (fun h' hk => ?_) (by simp [sizeLine]; omega)
    exact h h' (F.keeps hk) (N.grown hk)
  unfold StarOf notIterableAtAll
  exact wpAny_bind (wpAny_specialOf hT' PySem.F.slot_tuple_iter.lookup (wpAny_pure ⟨rfl, z⟩))
theorem lst_star {Q : List Value → Shared → Prop} (F : Fr g L s.heap m) (N : News g L s.heap news) (ht : s.heap.IsList D vs.toArray) (hb : vs.length ≤ 1000) (h : ∀ h', Fr g L h' m → News g L h' news → Q vs { s with heap := h' }) :
    StarOf (model prog w) A E (.ref D) Q s := by
  obtain ⟨o, ho, hc, n, hd⟩ := ht
  have hT' : s.TypeIs (.ref D) "list" := ⟨o, ho, hc⟩
  have z : wpAny (model prog w) A (collect (.ref D)) Q E s := by
    refine wpAny_collect_seq D (.inl rfl) ho hc hd (fun h' hk => ?_) (by simp [sizeLine]; omega)
    exact h h' (F.keeps hk) (N.grown hk)
  unfold StarOf notIterableAtAll
  exact wpAny_bind (wpAny_specialOf hT' PySem.F.slot_list_iter.lookup (wpAny_pure ⟨rfl, z⟩))
end

section
variable {prog : Program} {w : World} {A : Around} {R : Result → Shared → Prop} {I : Addr} {fp wr : List Addr} {n : Nat} {P : Nat → Value → Prop} {St : Nat → Heap → Prop}
/-- truth, spending tokens -/
def TruthTk (prog : Program) (w : World) (A : Around) (P : Nat → Value → Prop) (tr : Nat → Bool) : Prop :=
  ∀ i v (s : Shared) (Q : Bool → Shared → Prop) (E : Value → Shared → Prop), P i v → (∀ tk, Q (tr i) { s with toks := tk }) → wpAny (model prog w) A (truthy v) Q E s
theorem all_loopTk (W : Walks prog w A.in1 I fp wr n P St) (tr : Nat → Bool) (htr : TruthTk prog w A.in1 P tr) : ∀ (k i : Nat) (s : Shared), n - i = k → i ≤ n → St i s.heap →
    (∀ h' tk, (∀ b o, b ∉ wr → s.heap.get? b = some o → h'.get? b = some o) → R (.ok (.ret (.bool (((List.range n).drop i).all tr)))) { s with heap := h', toks := tk }) →
    codeAny (model prog w) A (.builtin "all.loop" ⟨[.ref I], []⟩) R s := by
  intro k
  induction k with
  | zero =>
    intro i s hk hi hst hR
    have hin : i = n := by omega
    subst hin
    refine codeAny_builtin PySem.F.entry_all_loop ?_
    rw [Around.under_plainId PySem.F.plain_all_loop _]
    show wpAny _ A.in1 (pyNext (.ref I) >>= _) _ _ s
    refine wpAny_bind (W.done s _ _ hst fun h' tk hk' => ?_)
    refine wpAny_bind (wpAny_rule (wpAny_pure ?_))
    have := hR h' tk hk'
    rw [List.drop_of_length_le (by simp)] at this
    exact this
  | succ k ih =>
    intro i s hk hi hst hR
    have hlt : i < n := by omega
    have hd : (List.range n).drop i = i :: (List.range n).drop (i + 1) := by
      rw [List.drop_eq_getElem_cons (by simpa using hlt)]; simp
    refine codeAny_builtin PySem.F.entry_all_loop ?_
    rw [Around.under_plainId PySem.F.plain_all_loop _]
    show wpAny _ A.in1 (pyNext (.ref I) >>= _) _ _ s
    refine wpAny_bind (W.item i s _ _ hlt hst fun v h' tk hP hst' hk' => ?_)
    refine wpAny_bind (wpAny_holding (htr i v _ _ _ hP fun tk2 => ?_))
    refine wpAny_bind (wpAny_letGo ?_)
    cases hb : tr i with
    | true =>
      simp only [if_true]
      refine wpAny_pure ⟨plainId_quiet PySem.F.plain_all_loop _, ih (i + 1) _ (by omega) hlt hst' fun h'' tk'' hk'' => ?_⟩
      have := hR h'' tk'' fun b o hbw e => hk'' b o hbw (hk' b o hbw e)
      rw [hd, List.all_cons, hb, Bool.true_and] at this
      exact this
    | false =>
      simp only [Bool.false_eq_true, if_false]
      refine wpAny_bind (wpAny_rule (wpAny_pure ?_))
      have := hR h' tk2 hk'
      rw [hd, List.all_cons, hb, Bool.false_and] at this
      exact this
end

section
variable {prog : Program} {w : World} {A : Around} {E : Value → Shared → Prop} {s : Shared} {g : Heap} {L D : Addr} {m : Str → Option Value} {news : List (Addr × Obj)} {vs : List Value} {ts : List Str}
theorem call_all_tk {x : Value} {Q : Value → Shared → Prop}
    (h : wpAny (model prog w) A.in1 (pyIter x) (fun it s₂ => ∃ I fp wr n P St tr, it = .ref I ∧ Walks prog w A.in1 I fp wr n P St ∧ St 0 s₂.heap ∧ TruthTk prog w A.in1 P tr ∧
      ∀ h' tk, (∀ b o, b ∉ wr → s₂.heap.get? b = some o → h'.get? b = some o) → Q (.bool ((List.range n).all tr)) { s₂ with heap := h', toks := tk }) E s) :
    wpAny (model prog w) A (call (.builtin "all") [x]) Q E s := by
  refine call_function_tree PySem.F.kind_all PySem.F.plain_all PySem.F.entry_all (PySem.F.args_all1 _) ?_
  unfold Builtin.«all»
  refine wpAny_bind (m := oneArg "all" _) (wpAny_pure ?_)
  refine wpAny_bind (wpAny_mono h (fun it s₂ h₂ => ?_) fun _ _ e => e)
  obtain ⟨I, fp, wr, n, P, St, tr, rfl, W, hst, htr, hQ⟩ := h₂
  exact wpAny_pure ⟨plainId_quiet PySem.F.plain_all_loop _, all_loopTk W tr htr n 0 s₂ rfl (Nat.zero_le _) hst fun h' tk hk => by simpa using hQ h' tk hk⟩

theorem range_all_get {α : Type} (l : List α) (d : α) (f : α → Bool) : ((List.range l.length).all fun i => f (l.getD i d)) = l.all f := by
  rw [Bool.eq_iff_iff, List.all_eq_true, List.all_eq_true]
  constructor
  · intro h b hb
    obtain ⟨i, hi, e⟩ := List.getElem_of_mem hb
    have := h i (List.mem_range.mpr hi)
    simpa [List.getD_eq_getElem?_getD, List.getElem?_eq_getElem hi, e] using this
  · intro h i hi
    have hi' := List.mem_range.mp hi
    simp only [List.getD_eq_getElem?_getD, List.getElem?_eq_getElem hi', Option.getD_some]
    exact h _ (List.getElem_mem hi')
/-- all(sequences) -/
theorem tup_all {Q : Value → Shared → Prop} (hh : A.handled = none) (F : Fr g L s.heap m) (N : News g L s.heap news) (ht : IsTup s.heap D vs.toArray) (hi : StrsAre vs ts) (hb : ∀ t ∈ ts, t.length ≤ 1000)
    (h : ∀ h' tk, Fr g L h' m → News g L h' news → Q (.bool (ts.all fun t => decide (0 < t.length))) { s with heap := h', toks := tk }) : wpAny (model prog w) A (call (.builtin "all") [.ref D]) Q E s := by
  have hlt : D < s.heap.objs.size := ht.lt
  have hl := strs_len hi
  refine call_all_tk (wpAny_pyIter_tuple ht ?_)
  refine ⟨s.heap.objs.size, [s.heap.objs.size, D], [s.heap.objs.size], vs.toArray.size, _, _, fun i => decide (0 < (ts.getD i Str.empty).length), rfl, Walks.tuple (A := A.in1) hh _ D (Nat.ne_of_lt hlt) vs.toArray,
    ⟨⟨_, Heap.get?_push_size _ rfl, rfl, rfl⟩, Heap.IsTuple.push ht _⟩, fun i v s' Q' E' hP hQ => ?_, fun h' tk hk => ?_⟩
  · have hP' : vs[i]? = some v := by simpa using hP
    obtain ⟨t, rfl⟩ := SetStr.strs_at hi i v hP'
    have hil : i < ts.length := by
      rw [← hl]; exact (List.getElem?_eq_some_iff.mp hP').1
    have hm : ts.getD i Str.empty ∈ ts := by
      rw [List.getD_eq_getElem?_getD, List.getElem?_eq_getElem hil]; exact List.getElem_mem hil
    have := hb _ hm
    replace hQ : ∀ tk, Q' (decide (0 < (ts.getD i Str.empty).length)) { s' with toks := tk } := hQ
    generalize ts.getD i Str.empty = x at *
    refine PySem.P.truthy_str (by omega) ?_
    have e : ((x.length : Int) != 0) = decide (0 < x.length) := by
      rw [Bool.eq_iff_iff, bne_iff_ne, decide_eq_true_iff]; omega
    rw [e]; exact hQ _
  · have e : ((List.range vs.toArray.size).all fun i => decide (0 < (ts.getD i Str.empty).length)) = ts.all fun t => decide (0 < t.length) := by
      rw [List.size_toArray, hl]; exact range_all_get ts Str.empty fun t => decide (0 < t.length)
    rw [e]
    have hk' : ∀ b x, s.heap.get? b = some x → h'.get? b = some x := LSm.kept_iter hk
    exact h h' tk (F.keeps hk') (N.grown hk')
end
end Mine
namespace Mine
/-- a method call with *args -/
theorem methodCall_S {M : Model} {A : Around} {E : Value → Shared → Prop} {s : Shared} {env : Env} {o : Expr} {name : Str} {apos pos : Pos} {args : List Expr} {Q : Value → Shared → Prop}
    (h : wpAny M A (eval o env) (fun ov s₁ => wpAny M A (getAttr ov name true) (fun f s₂ => wpAny M A (callWith pos f [] (backTo pos (starEach args env)) []) Q E s₂) E s₁) E s)
    (he : eval (.Call (.Attribute o name apos) args [] pos) env = (do
      let ov ← eval o env
      standAt apos.atName
      let (f, first) ← holding [ov] (do pure (← getAttr ov name true, []))
      callWith pos f first (backTo pos (starEach args env)) []) := by rfl) :
    wpAny M A (eval (.Call (.Attribute o name apos) args [] pos) env) Q E s := by
  rw [he]
  refine wpAny_bind (wpAny_mono h (fun ov s₁ h₁ => wpAny_bind (wpAny_standAt (wpAny_bind (wpAny_holding (wpAny_bind (wpAny_mono h₁ (fun fx s₂ h₂ => wpAny_pure ?_) fun _ _ x => x)))))) fun _ _ x => x)
  exact h₂
theorem callWith_SM {M : Model} {A : Around} {E : Value → Shared → Prop} {s : Shared} {K : Frag} {q g : Addr} {self : Value} {e : Expr} {env : Env} {pos p : Pos} {first : List Value} {Q : Value → Shared → Prop} {h₀ : Heap} {L : Addr} {news : List (Addr × Obj)} (_X : K.In h₀) (_N : News h₀ L s.heap news) (_q : (q, methodObj (.ref g) self) ∈ news) (hf : fnIn K g = true)
    (h : wpAny M A (eval e env) (fun v s₁ => StarOf M A E v (fun vs s₂ => MethP K q g self s₂.heap ∧ wpAny M A (call (.ref q) (first ++ vs)) Q E s₂) s₁) E s)
    (he : starEach [.Starred e p] env = [(true, eval e env)] := by rfl) :
    wpAny M A (callWith pos (.ref q) first (backTo pos (starEach [.Starred e p] env)) []) Q E s := by
  rw [he]
  exact ks_call rfl (keeps_M hf) (ks_lone h)
/-- an object's attribute that is a staticmethod -/
theorem get_sm {prog : Program} {w : World} {A : Around} {E : Value → Shared → Prop} {s : Shared} {K : Frag} {x C p L : Addr} {ox : Obj} {f : Value} {rest : List Value} {name : Str} {expr : Bool} {h₀ : Heap} {m : Str → Option Value} {es : List DictEntry} {n : Nat} {Q : Value → Shared → Prop}
    (F : Fr h₀ L s.heap m) (X₀ : K.In h₀) (I : InstAt s.heap x ox C (some (dictOf es n))) (hg : plainGet K C name = true) (hh : hasDictIn K C = true) (ha : findIn K (.ref C) name = some (some (.ref p)))
    (hgf : specialIn K (.ref p) "__get__" = some (some (.builtin "staticmethod.__get__"))) (ht : takesIn K (.ref p) = some false) (hp : recIn K p "staticmethod" = some (f :: rest)) (hv : handedIn f = true) (hc : copiedNames.contains name = false) (hl : getL name es = some none)
    (h : Q f { s with toks := s.toks + 1 }) : wpAny (model prog w) A (getAttr (.ref x) name expr) Q E s :=
  get_bind (X₀.keeps F.keep) I (plainGet_of hg).1 (findObj_fn hh ha hgf ht hc (by show lookIn name (dictOf es n) = _; rw [lookIn_dict, hl])) (plainGet_of hg).2
    (wpAny_call (sm_get (s := { s with toks := s.toks + 1 }) (X₀.keeps F.keep) hp (handed_on hv h)))
end Mine
namespace Mine
section
variable {prog : Program} {w : World} {A : Around} {E : Value → Shared → Prop} {s : Shared} {D : Addr} {vs : List Value} {ts : List Str}
theorem lst_len {Q : Value → Shared → Prop} (ht : s.heap.IsList D vs.toArray) (hi : StrsAre vs ts) (hb : ts.length ≤ 1000) (h : Q (.int (ts.length : Nat) (s.toks + 1)) { s with toks := s.toks + 1 + 1 }) :
    wpAny (model prog w) A (call (.builtin "len") [.ref D]) Q E s := by
  have hl := strs_len hi
  refine len_list ht (by simp; omega) ?_
  rw [show vs.toArray.size = ts.length by simp [hl]]
  exact h
theorem got_news {g h h' : Heap} {L a : Addr} {m : Str → Option Value} {news : List (Addr × Obj)} {o : Obj} (F : Fr g L h m) (N : News g L h' news) (hn : h.get? a = none) (ha : h'.get? a = some o) : News g L h' ((a, o) :: news) := by
  intro p hp
  rcases List.mem_cons.mp hp with rfl | hp
  · refine ⟨ha, ?_, ?_⟩
    · intro e9
      obtain ⟨_, _, _, e, _⟩ := F.ns
      rw [← e9] at e
      exact absurd (hn.symm.trans e) (by simp)
    · show g.get? a = none
      match e : g.get? a with
      | none => rfl
      | some o' => exact absurd (hn.symm.trans (F.keep _ _ e)) (by simp)
  · exact N p hp
theorem none_up {h g : Heap} {a : Addr} (st : h.StaysIn g) (e : g.get? a = none) : h.get? a = none := by
  match e' : h.get? a with
  | none => rfl
  | some o => rw [st _ _ e'] at e; cases e
end
end Mine

end

section
open PySem PySem.W PySem.Calls PyProof.Rows
set_option Elab.async false
set_option maxRecDepth 100000
namespace Mine
/-- an object with qval 1 and external True -/
def IsInst (P : Params) (h : Heap) (x C : Addr) : Prop :=
  ∃ d t1 t2, h.get? x = some (instObj C d) ∧ h.get? d = some (dictOf [⟨PyData.keyHash P (Str.ofString "qval"), .str (Str.ofString "qval") t1, .int 1 216⟩, ⟨PyData.keyHash P (Str.ofString "external"), .str (Str.ofString "external") t2, .bool true⟩] 2)
theorem IsInst.up {P : Params} {h h' : Heap} {x C : Addr} (I : IsInst P h x C) (k : h.StaysIn h') : IsInst P h' x C :=
  let ⟨d, t1, t2, a, b⟩ := I; ⟨d, t1, t2, k _ _ a, k _ _ b⟩
theorem inst_up {g h : Heap} {L x C d : Addr} {m : Str → Option Value} {es : List DictEntry} {n : Nat} (F : Fr g L h m) (i1 : g.get? x = some (instObj C d)) (i2 : g.get? d = some (dictOf es n)) : InstAt h x (instObj C d) C (some (dictOf es n)) :=
  ⟨F.keep _ _ i1, rfl, rfl, F.keep _ _ i2⟩
theorem inst_news {P : Params} {g h : Heap} {L x C d : Addr} {news : List (Addr × Obj)} {t1 t2 : Tok} (N : News g L h news) (i1 : (x, instObj C d) ∈ news)
    (i2 : (d, dictOf [⟨PyData.keyHash P (Str.ofString "qval"), .str (Str.ofString "qval") t1, .int 1 216⟩, ⟨PyData.keyHash P (Str.ofString "external"), .str (Str.ofString "external") t2, .bool true⟩] 2) ∈ news) : IsInst P h x C :=
  ⟨d, t1, t2, (N _ i1).1, (N _ i2).1⟩
end Mine

end

section
open PySem PySem.W PySem.Calls PyProof.Rows
set_option Elab.async false
set_option maxRecDepth 100000
set_option maxHeartbeats 8000000
namespace Mine
local macro_rules | `(tactic| walk_at "mine enterV") => `(tactic| ((case k3 => k_asm); (case k5 => k_asm); (case k6 => k_is); (case k7 => k_is); (case k8 => ktr_room); (case c5 => decide); (case kB => exact fun _ => locs rfl); (case c2 => exact rfl); (case c3 => exact rfl); (case c4 => exact rfl); (case kG => exact fun _ => rfl)))
local macro_rules | `(tactic| walk_at "mine go") => `(tactic| repeat' ((fail_if_success (with_reducible show wpAny _ _ (pyIter _) _ _ _)); (fail_if_success (with_reducible show wpAny _ _ (exec (Stmt.While _ _ _ _) _) _ _ _)); (first | (k_unfold; (try dsimp only)) | (k_end; wrow_close) | walk1 | (dsimp only; walk1) | (leave1; walk_say "STEP leave1"; try dsimp only) | fail "no step")))
local macro_rules | `(tactic| walk_at "mine tup") => `(tactic| (rename Fr _ _ _ _ => F9; exact F9.tup (by assumption)))
local macro_rules | `(tactic| walk_at "truthy ref") => `(tactic| (k_here; (refine tup_truthy (by walk_at "mine tup") (by assumption) (by omega) ?_ ?_ <;> intro he')))
local macro_rules | `(tactic| walk_at "call builtin:len") => `(tactic| (k_here; (refine tup_len (by walk_at "mine tup") (by assumption) (by omega) ?_)))
local macro_rules | `(tactic| walk_at "StarOf ref") => `(tactic| (k_here; (refine tup_star (by k_asm) (by k_asm) (by walk_at "mine tup") (by assumption) ?_); intro h' F' N'; (try dsimp only [List.nil_append, List.cons_append])))
local macro_rules | `(tactic| walk_at "call builtin:all") => `(tactic| (k_here; (refine tup_all (by rfl) (by k_asm) (by k_asm) (by walk_at "mine tup") (by assumption) (by assumption) ?_); intro h' tk' F' N'))

local macro_rules | `(tactic| k_room) => `(tactic| ktr_room)
local macro_rules | `(tactic| k_inst) => `(tactic| (refine' inst_up ?iF ?i1 ?i2; (case iF => k_asm); (case i1 => assumption); (case i2 => assumption)))

theorem max1_c {prog : Program} {w : World} (fill : PySem.Challenge.rw_ah5039_01 = PySem.Challenge.rw_ah5039_01 ∧ hd.heap_39 = hd.heap_39) {vs : List Value} {ts : List Str} (hi : StrsAre vs ts) (hb2 : ts.length ≤ 4) (self : Value) :
    Tells1 prog w (hd.heap_39 w.params) 2 20 (.ref 281) (self :: vs) (fun _ => True) (fun v _ _ => ∃ t, v = .int 1 t) := by
  revert fill
  k_fill
  intro _
  intro p loose mean mg mb dp un gd outer A₀ base s Q B X T hdp hu _ ret
  k_dflt (refine' enterV (vs := vs) (g₁ := fun D => some [("self", self), ("sequences", .ref D)]) (binds := fun D => [("self", self), ("sequences", .ref D)]) ?k3 ?k5 ?k6 ?k7 ?k8 ?k9 ?kG ?kB ?_ ?c2 ?c3 ?c4 ?c5; walk_at "mine enterV")
  case k9 => refine upto4 (P := fun us => peek1 _ _ (bindArgs _ { pos := self :: us }) = some (restObj us, _)) ?_ ?_ ?_ ?_ ?_ vs (by rw [strs_len hi]; exact hb2) <;> (intros; rfl)
  intro D g L h₁ st hD ht F N
  replace B := below_up B st
  replace X := X.keeps st
  replace T := T.keeps st
  dsimp only
  try k_fold
  walk_at "mine go"
  exact ret _ _ _ (fun b o e => by rename Fr _ _ _ _ => F2; exact F2.keep b o (st b o e)) ⟨_, rfl⟩
local macro_rules | `(tactic| walk_at "eval Call Attribute") => `(tactic| (k_here; (with_reducible show wpAny _ _ (eval (Expr.Call (Expr.Attribute _ _ _) [Expr.Starred _ _] [] _) _) _ _ _); refine methodCall_S ?_))
local macro_rules | `(tactic| walk_at "callWith ref") => `(tactic| (k_here; (with_reducible show wpAny _ _ (callWith _ (Value.ref _) _ (backTo _ (starEach [Expr.Starred _ _] _)) []) _ _ _); k_dflt (refine' callWith_SM ?kX ?k0 ?k1 ?k2 ?_; (case kX => k_asm); (case k0 => k_asm); (case k1 => k_mem); (case k2 => k_is); k_whole)))
local macro_rules | `(tactic| walk_at "getAttr ref") => `(tactic| (k_here; k_dflt (refine' get_sm ?k1 ?k2 ?k4 ?k5 ?k6 ?k7 ?k8 ?k9 ?k10 ?k11 ?k12 ?k13 ?_; (case k4 => k_inst); (case k1 => k_asm); (case k2 => k_asm); (case k7 => k_is); (case k5 => k_is); (case k6 => k_is); (case k8 => k_is); (case k9 => k_is); (case k10 => k_is); (case k11 => k_handed); (case k12 => decide +kernel); (case k13 => k_get); k_whole)))
local macro_rules | `(tactic| walk_at "mine tell") => `(tactic| ((case tB => k_asm); (case tF => k_asm); (case tX => k_asm); (case tN => k_asm); (case tT => k_asm); (case tf => rfl); (case tk => rfl); (case td => ktr_room); (case tu => first | omega | (dsimp only; omega) | k_units)))
local macro_rules | `(tactic| walk_at "call ref") => `(tactic| (k_here; (refine' Tells1.useM (f := .ref 281) ?tq (max1_c ⟨rfl, rfl⟩ (by assumption) (by assumption) _) ?tB ?tF ?tX ?tN ?tT ?tf ?tk ?td ?tu trivial ?_; walk_at "mine tell"; (case tq => k_mem)); intro v' h' tk' F' N' st' e'; obtain ⟨t', e'⟩ := e'; subst e'))
local macro_rules | `(tactic| walk_at "call ref") => `(tactic| (k_here; (with_reducible show wpAny _ _ (call (Value.ref 100) _) _ _ _); (refine' Tells1.use (ident_c ⟨rfl, rfl⟩ (by assumption) (by assumption) (by assumption)) ?tB ?tF ?tX ?tN ?tT ?tf ?tk ?td ?tu trivial ?_; walk_at "mine tell"); intro v' h' tk' F' N' st' e'; subst e'))

/-- BaseSimilarity.quick_answer, as RatcliffObershelp's maximum gives it 1 -/
theorem quick_c {prog : Program} {w : World} (fill : PySem.Challenge.rw_ah5039_01 = PySem.Challenge.rw_ah5039_01 ∧ hd.heap_39 = hd.heap_39) {vs : List Value} {ts : List Str} (hi : StrsAre vs ts) (hb2 : ts.length ≤ 4) (hb3 : ∀ t ∈ ts, t.length ≤ 1000) (x : Addr) :
    Tells1 prog w (hd.heap_39 w.params) 4 60 (.ref 178) (.ref x :: vs) (fun h => IsInst w.params h x 296) (fun v _ _ => if ts.length ≤ 1 ∨ (ts.all (· == ts.headD Str.empty)) = true then ∃ t, v = .int 1 t else if ∃ t ∈ ts, t.length = 0 then ∃ t, v = .int 0 t else v = .none) := by
  revert fill
  k_fill
  intro _
  intro p loose mean mg mb dp un gd outer A₀ base s Q B X T hdp hu hI ret
  have hl : vs.length ≤ 1000 := by rw [strs_len hi]; omega
  k_dflt (refine' enterV (vs := vs) (g₁ := fun D => some [("self", .ref x), ("sequences", .ref D)]) (binds := fun D => [("self", .ref x), ("sequences", .ref D)]) ?k3 ?k5 ?k6 ?k7 ?k8 ?k9 ?kG ?kB ?_ ?c2 ?c3 ?c4 ?c5; walk_at "mine enterV")
  case k9 => refine upto4 (P := fun us => peek1 _ _ (bindArgs _ { pos := .ref x :: us }) = some (restObj us, _)) ?_ ?_ ?_ ?_ ?_ vs (by rw [strs_len hi]; exact hb2) <;> (intros; rfl)
  intro D g L h₁ st hD ht F N
  replace B := below_up B st
  replace X := X.keeps st
  replace T := T.keeps st
  obtain ⟨d, u1, u2, i1, i2⟩ := hI.up st
  dsimp only
  try k_fold
  walk_at "mine go"
  all_goals refine ret _ _ _ (fun b o e => by rename Fr _ _ _ _ => F2; exact F2.keep b o (st b o e)) ?_
  all_goals dsimp only
  · have a0 : ts = [] := by assumption
    rw [if_pos (Or.inl (by simp [a0]))]; exact ⟨_, rfl⟩
  · rw [if_pos (Or.inl (by omega))]; exact ⟨_, rfl⟩
  · have a1 : (ts.all fun x => x == ts.headD Str.empty) = true := by assumption
    rw [if_pos (Or.inr a1)]; exact ⟨_, rfl⟩
  all_goals
    have a0 : ts ≠ [] := by assumption
    have a1 : (ts.all fun x => x == ts.headD Str.empty) = false := by assumption
    have a3 := List.length_pos_iff.mpr a0
    rw [if_neg (by rintro (h | h); omega; rw [a1] at h; cases h)]
  · have a2 : (ts.all fun t => decide (0 < t.length)) = true := by assumption
    rw [if_neg (by rintro ⟨t, h1, h2⟩; rw [List.all_eq_true] at a2; have := a2 t h1; simp [h2] at this)]
  · have a2 : (ts.all fun t => decide (0 < t.length)) = false := by assumption
    rw [if_pos (by rw [List.all_eq_false] at a2; obtain ⟨t, h1, h2⟩ := a2; exact ⟨t, h1, by simpa using h2⟩)]
    exact ⟨_, rfl⟩
end Mine

end

section
open PySem PySem.W PySem.Calls PyProof.Rows
set_option Elab.async false
set_option maxRecDepth 100000
set_option maxHeartbeats 8000000
namespace Mine
local macro_rules | `(tactic| walk_at "mine enter") => `(tactic| (refine' enter ?k3 ?k5 ?k6 ?k7 ?k8 ?k9 ?kB ?_ ?c2 ?c3 ?c4 ?c5; (case k3 => k_asm); (case k5 => k_asm); (case k6 => k_is); (case k7 => k_is); (case k8 => ktr_room); (case k9 => exact BindsTo.of_eq rfl); (case c5 => decide); (case kB => exact locs rfl); (case c2 => exact rfl); (case c3 => exact rfl); (case c4 => exact rfl); k_whole; intro L' h' F' N'; (try dsimp only); (try k_fold)))
local macro_rules | `(tactic| walk_at "mine enterV") => `(tactic| ((case k3 => k_asm); (case k5 => k_asm); (case k6 => k_is); (case k7 => k_is); (case k8 => ktr_room); (case c5 => decide); (case kB => exact fun _ => locs rfl); (case c2 => exact rfl); (case c3 => exact rfl); (case c4 => exact rfl); (case kG => exact fun _ => rfl)))
local macro_rules | `(tactic| walk_at "mine go") => `(tactic| repeat' ((fail_if_success (with_reducible show wpAny _ _ (pyIter _) _ _ _)); (fail_if_success (with_reducible show wpAny _ _ (exec (Stmt.While _ _ _ _) _) _ _ _)); (first | (k_unfold; (try dsimp only)) | (k_end; wrow_close) | walk1 | (dsimp only; walk1) | (leave1; walk_say "STEP leave1"; try dsimp only) | fail "no step")))
local macro_rules | `(tactic| walk_at "mine tup") => `(tactic| first | (rename Fr _ _ _ _ => F9; exact F9.tup (by assumption)) | exact News.isTup (by k_asm) (by k_mem))
local macro_rules | `(tactic| walk_at "mine lst") => `(tactic| first | exact News.isList (by k_asm) (by k_mem) | (rename Fr _ _ _ _ => F9; exact F9.lst (by assumption)))
local macro_rules | `(tactic| walk_at "truthy ref") => `(tactic| (k_here; (refine tup_truthy (by walk_at "mine tup") (by assumption) (by omega) ?_ ?_ <;> intro he')))
local macro_rules | `(tactic| walk_at "call builtin:len") => `(tactic| (k_here; (first | refine tup_len (by walk_at "mine tup") (by assumption) (by omega) ?_ | refine lst_len (by walk_at "mine lst") (by assumption) (by omega) ?_)))
local macro_rules | `(tactic| walk_at "StarOf ref") => `(tactic| (k_here; (first | refine tup_star (by k_asm) (by k_asm) (by walk_at "mine tup") (by assumption) ?_ | refine lst_star (by k_asm) (by k_asm) (by walk_at "mine lst") (by assumption) ?_); intro h' F' N'; (try dsimp only [List.nil_append, List.cons_append])))
local macro_rules | `(tactic| walk_at "call builtin:all") => `(tactic| (k_here; (refine tup_all (by rfl) (by k_asm) (by k_asm) (by walk_at "mine tup") (by assumption) (by assumption) ?_); intro h' tk' F' N'))
local macro_rules | `(tactic| walk_at "call type:list") => `(tactic| (k_here; (refine list_copyKT (by k_asm) (by k_asm) (by walk_at "mine tup") ?_ (by simp only [List.size_toArray, sizeLine]; omega)); intro D' c' h' F' N' l1'))
local macro_rules | `(tactic| k_room) => `(tactic| ktr_room)
local macro_rules | `(tactic| k_inst) => `(tactic| (refine' inst_up ?iF ?i1 ?i2; (case iF => k_asm); (case i1 => assumption); (case i2 => assumption)))
local macro_rules | `(tactic| walk_at "eval Call Attribute") => `(tactic| (k_here; (with_reducible show wpAny _ _ (eval (Expr.Call (Expr.Attribute _ _ _) [Expr.Starred _ _] [] _) _) _ _ _); refine methodCall_S ?_))
local macro_rules | `(tactic| walk_at "callWith ref") => `(tactic| (k_here; (with_reducible show wpAny _ _ (callWith _ (Value.ref _) _ (backTo _ (starEach [Expr.Starred _ _] _)) []) _ _ _); k_dflt (refine' callWith_SM ?kX ?k0 ?k1 ?k2 ?_; (case kX => k_asm); (case k0 => k_asm); (case k1 => k_mem); (case k2 => k_is); k_whole)))
local macro_rules | `(tactic| walk_at "getAttr ref") => `(tactic| (k_here; k_dflt (refine' get_sm ?k1 ?k2 ?k4 ?k5 ?k6 ?k7 ?k8 ?k9 ?k10 ?k11 ?k12 ?k13 ?_; (case k4 => k_inst); (case k1 => k_asm); (case k2 => k_asm); (case k7 => k_is); (case k5 => k_is); (case k6 => k_is); (case k8 => k_is); (case k9 => k_is); (case k10 => k_is); (case k11 => k_handed); (case k12 => decide +kernel); (case k13 => k_get); k_whole)))
local macro_rules | `(tactic| walk_at "mine tell") => `(tactic| ((case tB => k_asm); (case tF => k_asm); (case tX => k_asm); (case tN => k_asm); (case tT => k_asm); (case tf => rfl); (case tk => rfl); (case td => ktr_room); (case tu => first | omega | (dsimp only; omega) | k_units)))
local macro_rules | `(tactic| walk_at "mine enterVC") => `(tactic| ((case k3 => k_asm); (case k5 => k_asm); (case k6 => k_is); (case k7 => k_is); (case k8 => ktr_room); (case kK => exact fun _ => rfl); (case kN => decide +kernel); (case c2 => exact rfl); (case c3 => exact rfl); (case c4 => exact rfl); (case kG => exact fun _ => rfl)))
/-- Base._get_sequences for qval 1: a fresh list of the sequences -/
theorem getseq_c {prog : Program} {w : World} (fill : PySem.Challenge.rw_ah5039_01 = PySem.Challenge.rw_ah5039_01 ∧ hd.heap_39 = hd.heap_39) {vs : List Value} {ts : List Str} (hi : StrsAre vs ts) (hb2 : ts.length ≤ 4) (x C : Addr) (hC : C = 296 ∨ C = 265) :
    Tells1 prog w (hd.heap_39 w.params) 2 20 (.ref 108) (.ref x :: vs) (fun h => IsInst w.params h x C) (fun v h h' => ∃ a c, v = .ref a ∧ h.get? a = none ∧ h'.get? a = some (listOf vs.toArray c)) := by
  revert fill
  k_fill
  intro _
  intro p loose mean mg mb dp un gd outer A₀ base s Q B X T hdp hu hI ret
  have hl : vs.length ≤ 1000 := by rw [strs_len hi]; omega
  k_dflt (refine' enterVC (vs := vs) (g₁ := fun D => some [("self", .ref x), ("sequences", .ref D)]) (binds := fun D => [("self", .ref x), ("sequences", .ref D)]) ?k3 ?k5 ?k6 ?k7 ?k8 ?k9 ?kG ?kK ?kN ?_ ?c2 ?c3 ?c4; walk_at "mine enterVC")
  case k9 => refine upto4 (P := fun us => peek1 _ _ (bindArgs _ { pos := .ref x :: us }) = some (restObj us, _)) ?_ ?_ ?_ ?_ ?_ vs (by rw [strs_len hi]; exact hb2) <;> (intros; rfl)
  intro D g L h₁ tk cells st hD ht F N Y
  k_cells Y
  replace B := below_up B st
  replace X := X.keeps st
  replace T := T.keeps st
  obtain ⟨d, u1, u2, i1, i2⟩ := hI.up st
  dsimp only
  try k_fold
  rcases hC with rfl | rfl
  all_goals walk_at "mine go"
  all_goals
    rename News _ _ _ _ => N2
    rename Fr _ _ _ _ => F2
    exact ret _ _ _ (fun b o e => F2.keep b o (st b o e)) ⟨_, _, rfl, none_up st (N2 _ (.head _)).2.2, (N2 _ (.head _)).1⟩

end Mine

end

section
open PySem PySem.W PySem.Calls PyProof.Rows
set_option Elab.async false
set_option maxRecDepth 100000
namespace Mine
/-- the end of a turn of a block whose element leaves the ledger as it was -/
def TurnEnd (h₀ : Heap) (L : Addr) (m : Str → Option Value) (s : Shared) (all : List (Addr × Obj)) (G : Value → Prop) (y : Value) (s₂ : Shared) : Prop :=
  ∃ h' tk', s₂ = { s with heap := h', toks := tk' } ∧ Fr h₀ L h' m ∧ News h₀ L h' all ∧ G y
theorem TurnEnd.intro {h₀ : Heap} {L : Addr} {m : Str → Option Value} {s : Shared} {all big : List (Addr × Obj)} {G : Value → Prop} {y : Value} {h' : Heap} {tk : Nat} (F : Fr h₀ L h' m) (N : News h₀ L h' big) (sub : ∀ p ∈ all, p ∈ big) (g : G y) :
    TurnEnd h₀ L m s all G y { s with heap := h', toks := tk } := ⟨h', tk, rfl, F, fun p hp => N p (sub p hp), g⟩
section
variable {prog : Program} {w : World} {A : Around} {E : Value → Shared → Prop} {s : Shared} {h₀ : Heap} {L : Addr} {m : Str → Option Value} {env : Env}
theorem rest_inv {elt : Expr} {x : Str} {scope : Scope} {cl : List (Str × Addr)} {S : List (Addr × Obj) → Prop} {P : Nat → Value → Prop} {Fin : List Value → List (Addr × Obj) → Prop} {news : List (Addr × Obj)} {n : Nat} (G : Nat → Value → Prop) (hS : S news)
    (turn : ∀ i ys v I oI C oC D m₂ h tk (E' : Value → Shared → Prop), i < n → P i v → LCg.NsObj oC m₂ → m₂ x = some v → Fr h₀ L h m → News h₀ L h ((I, oI) :: (C, oC) :: (D, LCg.lst ys) :: news) → LCg.Off3 I C D news → ((@Ne Nat I C) ∧ (@Ne Nat I D) ∧ (@Ne Nat C D)) →
      wpAny (model prog w) A (eval elt (compEnvC scope cl C env)) (TurnEnd h₀ L m { s with heap := h, toks := tk } ((I, oI) :: (C, oC) :: (D, LCg.lst ys) :: news) (G i)) E' { s with heap := h, toks := tk })
    (fin : ∀ ys : List Value, ys.length = n → (∀ i v, ys[i]? = some v → G i v) → Fin ys news) :
    LCg.CompRest prog w A h₀ L m env elt x scope cl s S P Fin n 0 [] news := by
  have key : ∀ k i (ys : List Value), i + k = n → ys.length = i → (∀ j v, ys[j]? = some v → G j v) → LCg.CompRest prog w A h₀ L m env elt x scope cl s S P Fin k i ys news := by
    intro k
    induction k with
    | zero =>
      intro i ys hi hl hg
      exact LCg.CompRest.zero (fin ys (by omega) hg)
    | succ k ih =>
      intro i ys hi hl hg
      refine LCg.CompRest.succ fun v I oI C oC D m₂ h tk E' hP hC hx F N off ne => ?_
      refine wpAny_mono (turn i ys v I oI C oC D m₂ h tk E' (by omega) hP hC hx F N off ne) (fun y s₂ ht => ?_) fun _ _ e => e
      obtain ⟨h', tk', rfl, F', N', g⟩ := ht
      refine LCg.CompEnd.intro F' N' news (fun p hp => hp) off hS (ih (i + 1) (ys ++ [y]) (by omega) (by simp [hl]) fun j v hj => ?_)
      rcases Nat.lt_or_ge j ys.length with hlt | hge
      · exact hg j v (by rwa [List.getElem?_append_left hlt] at hj)
      · rw [List.getElem?_append_right hge] at hj
        have hj0 : j = ys.length := by
          rcases Nat.lt_or_ge (j - ys.length) 1 with h1 | h1
          · omega
          · rw [List.getElem?_eq_none (by simpa using h1)] at hj; cases hj
        subst hj0
        simp at hj
        subst hj
        rw [hl]; exact g
  exact key n 0 [] (by omega) rfl (by simp)

/-- the source is a tuple of the base -/
def SrcT (prog : Program) (w : World) (A : Around) (h₀ : Heap) (L : Addr) (m : Str → Option Value) (env : Env) (elt : Expr) (x : Str) (scope : Scope) (cl : List (Str × Addr)) (Fin : Shared → List Value → List (Addr × Obj) → Prop) (xv : Value) (s₁ : Shared) : Prop :=
  ∃ ax its news, xv = .ref ax ∧ A.handled = none ∧ Fr h₀ L s₁.heap m ∧ News h₀ L s₁.heap news ∧ IsTup h₀ ax its ∧ its.size ≤ sizeLine ∧
    ∀ s₂ : Shared, (∃ h, s₂ = { s₁ with heap := h }) → LCg.CompRest prog w A h₀ L m env elt x scope cl s₂ (fun _ => True) (fun i v => its[i]? = some v) (Fin s₂) its.size 0 [] news
theorem tuple_st {ax I : Addr} {its : Array Value} (ht : IsTup h₀ ax its) : ∀ i (h h' : Heap) (o : Obj) (nw : List (Addr × Obj)), (h.IsTupleIter I ax i ∧ h.IsTuple ax its) → h.get? I = some o → h'.get? I = some o → (∀ b o, h₀.get? b = some o → h'.get? b = some o) → News h₀ L h' nw → True → (h'.IsTupleIter I ax i ∧ h'.IsTuple ax its) :=
  fun i h h' o nw st e e' k N S => ⟨by obtain ⟨o', q, r⟩ := st.1; rw [e] at q; cases q; exact ⟨o, e', r⟩, IsTup.keeps ht k⟩
theorem ListComp_T {elt iter : Expr} {x : Str} {px : Pos} {scope : Scope} {cl : List (Str × Addr)} {pos : Pos} {Q : Value → Shared → Prop} (F₀ : Fr h₀ L s.heap m)
    (hclos : closureFor scope env = pure cl) (hcell : ∀ y ∈ scope.names, y.2 ≠ .cell) (hkind : scope.kind = .function)
    (hnames : ∀ y ∈ scope.names, y.2 = .local → scope.names.lookup y.1 = some .local) (hx : scope.names.lookup x = some .local)
    (h : wpAny (model prog w) A (eval iter env) (SrcT prog w A h₀ L m env elt x scope cl (fun s₂ => LCg.FinE h₀ L m s₂ Q)) E s)
    (hs : ∀ x, foldedSetIterable iter env x = pure x := by intro _; rfl) :
    wpAny (model prog w) A (eval (.ListComp elt [⟨.Name x px, iter, [], 0⟩] scope pos) env) Q E s := by
  rw [eval_ListComp]
  refine wpAny_comprehension_free (use := none) rfl hs hclos hkind hnames (wpAny_mono h (fun xv s₁ h₁ => ?_) fun _ _ e => e)
  obtain ⟨ax, its, news, rfl, hh, F, N, S, hsz, R⟩ := h₁
  have hl := IsTup.keeps S F.keep
  have hlt : ax < s₁.heap.objs.size := hl.lt
  refine wpAny_pyIter_tuple hl ?_
  have up : ∀ b o, s₁.heap.get? b = some o → (s₁.heap.push { cls := .type "tuple_iterator", data := .fields #[.ref ax, .int 0 0] }).get? b = some o := fun b o e => Heap.get?_push_of_some _ e
  refine LCg.block_U (Walks.tuple hh s₁.heap.objs.size ax (Nat.ne_of_lt hlt) its) hsz (fun i h st => by obtain ⟨o, e, _⟩ := st.1; exact ⟨o, e⟩) (tuple_st S) hcell hkind hx ⟨⟨_, Heap.get?_push_size _ rfl, rfl, rfl⟩, hl.push _⟩ (fun b hb => ?_)
    (F.keeps up) (N.grown up) (Nat.ne_of_lt F.ns.lt) (next_is_new F) (fun p hp => Nat.ne_of_lt (Heap.lt_size (N p hp).1)) trivial (R _ ⟨_, rfl⟩) ?_
  · show b < (s₁.heap.push _).objs.size
    rw [Heap.size_push]
    rcases List.mem_cons.mp hb with rfl | hb
    · exact Nat.lt_succ_self _
    · rw [List.mem_singleton.mp hb]; exact Nat.lt_succ_of_lt hlt
  · intro D C h tk m' ys news' F' N' o1 hn hC₀ hD₀ hCL hDL hCD offC fin
    refine ⟨m', hn, fun h'' hs'' => fin D h'' tk (F'.change hs'' hCL hC₀) (fun p hp => ?_) o1⟩
    refine ⟨hs''.extBut _ _ ?_ (N' p hp).1, (N' p hp).2⟩
    rcases List.mem_cons.mp hp with rfl | hp
    · exact Ne.symm hCD
    · exact offC p hp
theorem Assign_ListComp_T {elt iter : Expr} {x y : Str} {px py : Pos} {scope : Scope} {cl : List (Str × Addr)} {pos spos : Pos} {Q : Flow → Shared → Prop} (F₀ : Fr h₀ L s.heap m) (hLe : env.locals = L)
    (hsw : swapsWith (.ListComp elt [⟨.Name x px, iter, [], 0⟩] scope pos) (some (.Name y py)) spos.line env = pure true)
    (hclos : closureFor scope env = pure cl) (hcell : ∀ z ∈ scope.names, z.2 ≠ .cell) (hkind : scope.kind = .function)
    (hnames : ∀ z ∈ scope.names, z.2 = .local → scope.names.lookup z.1 = some .local) (hx : scope.names.lookup x = some .local)
    (hy : env.kindOf y = some .local) (hp : (env.scope.kind == .class || (env.scope.kind == .module && env.locals != env.globals)) = false)
    (h : wpAny (model prog w) A (eval iter env) (SrcT prog w A h₀ L m env elt x scope cl (fun s₂ => LCg.FinA h₀ L m s₂ y Q)) E s)
    (hs : ∀ x, foldedSetIterable iter env x = pure x := by intro _; rfl) :
    wpAny (model prog w) A (exec (.Assign [.Name y py] (.ListComp elt [⟨.Name x px, iter, [], 0⟩] scope pos) spos) env) Q E s := by
  subst hLe
  rw [exec_Assign_Name_used _ _ _ _ hsw]
  refine wpAny_bind (wpAny_standAt (wpAny_bind ?_))
  show wpAny _ A (do let _ ← comprehension (.ListComp elt [⟨.Name x px, iter, [], 0⟩] scope pos) scope env _ (newList []) false (eval iter env) (some (assign (.Name y py) env))) _ _ s
  refine wpAny_bind (wpAny_mono (wpAny_comprehension_free (use := some (assign (.Name y py) env)) (Q := fun _ s' => Q .next s') rfl hs hclos hkind hnames
    (wpAny_mono h (fun xv s₁ h₁ => ?_) fun _ _ e => e)) (fun _ s' hq => wpAny_pure (wpAny_pure hq)) fun _ _ e => e)
  obtain ⟨ax, its, news, rfl, hh, F, N, S, hsz, R⟩ := h₁
  have hl := IsTup.keeps S F.keep
  have hlt : ax < s₁.heap.objs.size := hl.lt
  refine wpAny_pyIter_tuple hl ?_
  have up : ∀ b o, s₁.heap.get? b = some o → (s₁.heap.push { cls := .type "tuple_iterator", data := .fields #[.ref ax, .int 0 0] }).get? b = some o := fun b o e => Heap.get?_push_of_some _ e
  refine LCg.block_U (Walks.tuple hh s₁.heap.objs.size ax (Nat.ne_of_lt hlt) its) hsz (fun i h st => by obtain ⟨o, e, _⟩ := st.1; exact ⟨o, e⟩) (tuple_st S) hcell hkind hx ⟨⟨_, Heap.get?_push_size _ rfl, rfl, rfl⟩, hl.push _⟩ (fun b hb => ?_)
    (F.keeps up) (N.grown up) (Nat.ne_of_lt F.ns.lt) (next_is_new F) (fun p hp => Nat.ne_of_lt (Heap.lt_size (N p hp).1)) trivial (R _ ⟨_, rfl⟩) ?_
  · show b < (s₁.heap.push _).objs.size
    rw [Heap.size_push]
    rcases List.mem_cons.mp hb with rfl | hb
    · exact Nat.lt_succ_self _
    · rw [List.mem_singleton.mp hb]; exact Nat.lt_succ_of_lt hlt
  · intro D C h' tk m' ys news' F' N' o1 hn hC₀ hD₀ hCL hDL hCD offC fin
    show wpAny _ A (assign (.Name y py) env (.ref D)) _ _ _
    refine wpAny_assign_Name (wpAny_storeName_local hy F'.ns (fun h₂ hn₂ hs₂ => ?_) hp)
    have hL₀ : h₀.get? env.locals = none := Heap.get?_none_of_le F'.above
    have F₂ : Fr h₀ env.locals h₂ (fun z => if z = y then some (.ref D) else m z) := ⟨hn₂, fun b o e => hs₂.extBut b o (fun q => by rw [q, hL₀] at e; cases e) (F'.keep b o e), F'.above⟩
    refine ⟨m', hn.sameBut hs₂ hCL, fun h'' hs'' => fin D h'' _ (F₂.change hs'' hCL hC₀) (fun p hp => ?_) o1⟩
    have z : h₂.get? p.1 = some p.2 := hs₂.extBut _ _ (N' p hp).2.1 (N' p hp).1
    refine ⟨hs''.extBut _ _ ?_ z, (N' p hp).2⟩
    rcases List.mem_cons.mp hp with rfl | hp
    · exact Ne.symm hCD
    · exact offC p hp
end
end Mine

end

section
open PySem PySem.W PySem.Calls PyProof.Rows
set_option Elab.async false
set_option maxRecDepth 100000
set_option maxHeartbeats 4000000
namespace Mine
namespace MapF
theorem slot_iter : Slot "map" "__iter__" "map.__iter__" :=
  .of (owner := "map") (n := "__iter__") (by rw [typeLookup_type, builtinLookup_eq_fast]; kernel_rfl) (by decide +kernel) (by decide +kernel) (by decide +kernel)
    (by first | exact .inl (by decide +kernel) | exact .inr (by decide +kernel)) (by rw [isSubtype_type]; kernel_rfl)
theorem slot_next : Slot "map" "__next__" "map.__next__" :=
  .of (owner := "map") (n := "__next__") (by rw [typeLookup_type, builtinLookup_eq_fast]; kernel_rfl) (by decide +kernel) (by decide +kernel) (by decide +kernel)
    (by first | exact .inl (by decide +kernel) | exact .inr (by decide +kernel)) (by rw [isSubtype_type]; kernel_rfl)
theorem slot_init : Slot "map" "__init__" "object.__init__" :=
  .of (owner := "object") (n := "__init__") (by rw [typeLookup_type, builtinLookup_eq_fast]; kernel_rfl) (by decide +kernel) (by decide +kernel) (by decide +kernel)
    (by first | exact .inl (by decide +kernel) | exact .inr (by decide +kernel)) (by rw [isSubtype_type]; kernel_rfl)
theorem owner : Manifest.owners.lookup (String.ofList ['p', 'a', 'm'].reverse) = some Manifest.sig_map := by kernel_rfl
theorem entry_next : entryFor table "map.__next__" = some Builtin.«map.__next__» := entryFor_of_tree (by kernel_rfl)
theorem entry_new : entryFor table "map.__new__" = some Builtin.«map.__new__» := entryFor_of_tree (by kernel_rfl)
theorem entry_iter : entryFor table "map.__iter__" = some Builtin.«dict_keyiterator.__iter__» :=
  entryFor_alias (id' := "dict_keyiterator.__iter__") (by kernel_rfl) (by first | rfl | decide +kernel | (unfold String.splitOn; simp +decide [String.splitOnAux])) (by decide +kernel) (by kernel_rfl)
theorem args_next (a : Value) : argsOk "map.__next__" ⟨[a], []⟩ := by
  unfold argsOk; rw [signature?_of (id := "map.__next__") (n := ['_', '_', 't', 'x', 'e', 'n', '_', '_']) (o := ['p', 'a', 'm']) (by kernel_rfl) owner]; kernel_rfl
theorem args_iter (a : Value) : argsOk "map.__iter__" ⟨[a], []⟩ := by
  unfold argsOk; rw [signature?_of (id := "map.__iter__") (n := ['_', '_', 'r', 'e', 't', 'i', '_', '_']) (o := ['p', 'a', 'm']) (by kernel_rfl) owner]; kernel_rfl
theorem mro : mroOf (.type "map") = pure [.type "map", .type "object"] := by rw [mroOf_type]; kernel_rfl
theorem lookup_new : typeLookup (.type "map") "__new__" = pure (some (.builtin "map.__new__")) := by rw [typeLookup_type, builtinLookup_eq_fast]; kernel_rfl
theorem called : TypeCalled "map" "map.__new__" "object.__init__" :=
  ⟨by decide +kernel, by decide +kernel, ⟨_, _, mro⟩, madeBy_type mro lookup_new (by decide +kernel), by decide +kernel, by rw [isSubtype_type]; kernel_rfl, slot_init⟩
theorem typeCall (a b : Value) : checkTypeCall "map" ⟨[a, b], []⟩ = pure () := by kernel_rfl
theorem newCall (a b : Value) : checkBuiltinCall "map.__new__" ⟨[.type "map", a, b], []⟩ = pure () := by kernel_rfl
theorem sub : isSubtype (.type "map") (.type "map") = pure true := by rw [isSubtype_type]; kernel_rfl
end MapF
abbrev IsMap (h : Heap) (z TI : Addr) (f : Value) : Prop := h.get? z = some { cls := .type "map", dict := none, data := .fields #[.ref TI, f], slots := #[] }
abbrev IsOne (h : Heap) (T : Addr) (a : Value) : Prop := h.get? T = some { cls := .type "tuple", data := .seq #[a] }

section
variable {prog : Program} {w : World} {A : Around} {E : Value → Shared → Prop} {s : Shared}
theorem nextOf_tuple_item {it t : Addr} {i : Nat} {items} {x : Value} {Q : Value → Shared → Prop} (hit : s.heap.IsTupleIter it t i) (ht : s.heap.IsTuple t items) (hx : items[i]? = some x)
    (hQ : ∀ h', h'.IsTupleIter it t (i + 1) → Heap.SameBut it s.heap h' → Q x { s with heap := h' }) :
    wpAny (model prog w) A (Builtin.SmallTypes.nextOf (.ref it)) Q E s := by
  obtain ⟨o, ho, hc, hd⟩ := id hit
  obtain ⟨ol, hol, _, nl, hdl⟩ := ht
  unfold Builtin.SmallTypes.nextOf
  refine wpAny_bind (wpAny_callSpecial?_slot (name := Str.ofString "__next__") hit.typeIs PySem.F.slot_tuple_iterator_next
    (wpAny_call_entry PySem.F.slot_tuple_iterator_next hit.typeIs PySem.F.entry_tuple_iterator_next ?_ (PySem.F.args_tuple_iterator_next_1 _)))
  show wpAny _ _ (field (.ref it) 0 >>= _) _ _ s
  refine wpAny_bind (wpAny_field ho hd (x := .ref t) rfl ?_)
  show wpAny _ _ (if (Value.ref t == Value.none) = true then _ else _) _ _ s
  rw [if_neg (show ¬ ((Value.ref t == Value.none) = true) from Bool.false_ne_true)]
  show wpAny _ _ (field (.ref it) 1 >>= _) _ _ s
  refine wpAny_bind (wpAny_field ho hd (x := .int i 0) rfl ?_)
  show wpAny _ _ (seqItems? (.ref t) >>= _) _ _ s
  refine wpAny_bind (wpAny_seqItems hol hdl ?_)
  simp only [Int.toNat_natCast, hx]
  refine wpAny_bind (wpAny_setField ho hd (by simp) (wpAny_pure ⟨x, rfl, wpAny_pure (hQ _ ?_ (Heap.SameBut.update ..))⟩))
  exact ⟨_, Heap.get?_update_self _ ho (Obj.isFreed_of_fields (Obj.data_mapFields hd _)), (Obj.cls_mapFields ..).trans hc, by
    rw [Obj.data_mapFields hd]; simp [rawInt]⟩
theorem nextOf_tuple_end {it t : Addr} {i : Nat} {items} {Q : Value → Shared → Prop} (hh : A.handled = none)
    (hit : s.heap.IsTupleIter it t i) (ht : s.heap.IsTuple t items) (hx : items[i]? = none)
    (hE : ∀ h' e, Heap.ExtBut it s.heap h' → (∃ o, h'.get? e = some o ∧ o.cls = .type "StopIteration") → E (.ref e) { s with heap := h' }) :
    wpAny (model prog w) A (Builtin.SmallTypes.nextOf (.ref it)) Q E s := by
  obtain ⟨o, ho, hc, hd⟩ := id hit
  obtain ⟨ol, hol, _, nl, hdl⟩ := ht
  unfold Builtin.SmallTypes.nextOf
  refine wpAny_bind (wpAny_callSpecial?_slot (name := Str.ofString "__next__") hit.typeIs PySem.F.slot_tuple_iterator_next
    (wpAny_call_entry PySem.F.slot_tuple_iterator_next hit.typeIs PySem.F.entry_tuple_iterator_next ?_ (PySem.F.args_tuple_iterator_next_1 _)))
  show wpAny _ _ (field (.ref it) 0 >>= _) _ _ s
  refine wpAny_bind (wpAny_field ho hd (x := .ref t) rfl ?_)
  show wpAny _ _ (if (Value.ref t == Value.none) = true then _ else _) _ _ s
  rw [if_neg (show ¬ ((Value.ref t == Value.none) = true) from Bool.false_ne_true)]
  show wpAny _ _ (field (.ref it) 1 >>= _) _ _ s
  refine wpAny_bind (wpAny_field ho hd (x := .int i 0) rfl ?_)
  show wpAny _ _ (seqItems? (.ref t) >>= _) _ _ s
  refine wpAny_bind (wpAny_seqItems hol hdl ?_)
  simp only [Int.toNat_natCast, hx]
  refine wpAny_bind (wpAny_rule (wpAny_bind (wpAny_setField ho hd (by simp) ?_)))
  show wpAny _ _ (newExc (.type "StopIteration") [] >>= _) _ _ _
  refine wpAny_bind ?_
  simp only [newExc, newTuple]
  refine wpAny_bind (wpAny_newObj_type ?_ (by size_fits))
  refine wpAny_bind (m := firstArgMember _ _) (wpAny_of_eq (a := Value.none) (by first | rfl | (simp only [firstArgMember]; rfl)) ?_)
  refine wpAny_newObj_type ?_ (by size_fits)
  simp only [raiseNew]
  refine wpAny_bind (wpAny_handled ?_)
  first | rw [show A.in1.handled = none from hh] | rw [hh]
  refine wpAny_bind (wpAny_pure (wpAny_throw ?_))
  exact hE _ _ (((Heap.SameBut.update ..).extBut.push _).push _) ⟨_, Heap.get?_push_size _ rfl, rfl⟩
end
theorem drawsTuple {prog : Program} {w : World} {A : Around} (hh : A.handled = none) (it l : Addr) (hne : l ≠ it) (items : Array Value) :
    Draws prog w A it [it, l] items.size (fun i v => items[i]? = some v) (fun i h => h.IsTupleIter it l i ∧ h.IsTuple l items) where
  live := fun _ _ st => let ⟨o, ho, _⟩ := st.1; ⟨o, ho⟩
  frame := fun _ _ _ st hk => ⟨st.1.at fun o e => hk it (by simp) o e, st.2.at fun o e => hk l (by simp) o e⟩
  item := fun i s Q E hi st hQ => by
    refine nextOf_tuple_item st.1 st.2 (x := items[i]) (by simp [hi]) fun h' hit' hs' => ?_
    exact hQ _ h' s.toks (by simp [hi]) ⟨hit', st.2.extBut hs'.extBut hne⟩ hs'
  done := fun s Q E st hE => nextOf_tuple_end hh st.1 st.2 (by simp) hE

/-- map(len, ...) over one iterator of texts -/
theorem walksMapLen {prog : Program} {w : World} {A : Around} {I M TI : Addr} {fp : List Addr} {n : Nat} {P : Nat → Value → Prop} {St : Nat → Heap → Prop} (D : Draws prog w A.in1 I fp n P St) (f : Nat → Str)
    (hP : ∀ i v, P i v → ∃ t, v = .str (f i) t) (hf : ∀ i, (f i).length ≤ 100000) (hMI : M ≠ I) (hTI : TI ≠ I) (hIfp : I ∈ fp) :
    Walks prog w A M (M :: TI :: fp) [I] n (fun i v => ∃ t, v = .int ((f i).length : Nat) t) (fun i h => IsMap h M TI (.builtin "len") ∧ IsOne h TI (.ref I) ∧ St i h) where
  sub := fun b hb => by rw [List.mem_singleton.mp hb]; exact .tail _ (.tail _ hIfp)
  frame := fun i h h' st hk => ⟨hk _ (by simp) _ st.1, hk _ (by simp) _ st.2.1, D.frame _ _ _ st.2.2 fun b hb o e => hk b (.tail _ (.tail _ hb)) o e⟩
  item := fun i s Q E hi st hQ => by
    obtain ⟨hM, hT, hS⟩ := st
    have hTy : s.TypeIs (.ref M) "map" := ⟨_, hM, rfl⟩
    unfold pyNext
    refine wpAny_bind (wpAny_attempt (wpAny_callSpecial?_slot (name := Str.ofString "__next__") hTy MapF.slot_next
      (wpAny_call_entry MapF.slot_next hTy MapF.entry_next ?_ (MapF.args_next _))))
    show wpAny _ _ (field (.ref M) 0 >>= _) _ _ s
    refine wpAny_bind (wpAny_field hM rfl (x := .ref TI) rfl ?_)
    refine wpAny_bind (wpAny_seqItems hT rfl ?_)
    dsimp only
    refine wpAny_bind ?_
    rw [← Array.forIn_toList]
    simp only [List.forIn_cons, List.forIn_nil]
    refine wpAny_bind (wpAny_bind (wpAny_holding (D.item i s _ _ hi hS fun v h' tk hPv hS' hs' => wpAny_pure ?_)))
    refine wpAny_pure ?_
    have hM' : IsMap h' M TI (.builtin "len") := hs'.extBut _ _ hMI hM
    show wpAny _ _ (field (.ref M) 1 >>= _) _ _ _
    refine wpAny_bind (wpAny_field hM' rfl (x := .builtin "len") rfl ?_)
    obtain ⟨t, rfl⟩ := hP i v hPv
    refine wpAny_bind (wpAny_holding (PySem.P.len_str (by have := hf i; omega) ?_))
    refine wpAny_bind (wpAny_letGo ?_)
    refine wpAny_pure ⟨_, rfl, ?_⟩
    exact wpAny_pure (hQ _ h' _ ⟨_, rfl⟩ ⟨hM', hs'.extBut _ _ hTI hT, hS'⟩ fun b o hb e => hs'.extBut b o (fun h => hb (by simp [h])) e)
  done := fun s Q E st hQ => by
    obtain ⟨hM, hT, hS⟩ := st
    have hTy : s.TypeIs (.ref M) "map" := ⟨_, hM, rfl⟩
    unfold pyNext
    refine wpAny_bind (wpAny_attempt (wpAny_callSpecial?_slot (name := Str.ofString "__next__") hTy MapF.slot_next
      (wpAny_call_entry MapF.slot_next hTy MapF.entry_next ?_ (MapF.args_next _))))
    show wpAny _ _ (field (.ref M) 0 >>= _) _ _ s
    refine wpAny_bind (wpAny_field hM rfl (x := .ref TI) rfl ?_)
    refine wpAny_bind (wpAny_seqItems hT rfl ?_)
    dsimp only
    refine wpAny_bind ?_
    rw [← Array.forIn_toList]
    simp only [List.forIn_cons, List.forIn_nil]
    refine wpAny_bind (wpAny_bind (wpAny_holding (D.done s _ _ hS fun h' e hs' he => ?_)))
    obtain ⟨o, ho, hc⟩ := he
    refine wpAny_bind (wpAny_isInstance (T := "StopIteration") (b := true) ⟨o, ho, hc⟩ isSubtype_stop ?_)
    exact wpAny_pure (hQ _ _ fun b o hb e => hs' b o (fun h => hb (by simp [h])) e)
  self := fun i s Q E st hQ => by
    have hTy : s.TypeIs (.ref M) "map" := ⟨_, st.1, rfl⟩
    refine wpAny_pyIter_slot hTy MapF.slot_iter (wpAny_call_entry MapF.slot_iter hTy MapF.entry_iter ?_ (MapF.args_iter _))
    show wpAny _ _ (ret (.ref M)) _ _ s
    exact wpAny_pure ⟨_, rfl, "map", _, hTy, MapF.slot_next.lookup, hQ⟩
end Mine

end

section
open PySem PySem.W PySem.Calls PyProof.Rows
set_option Elab.async false
set_option maxRecDepth 100000
set_option maxHeartbeats 4000000
namespace Mine
abbrev mpH1 (h : Heap) (it : String) (l : Addr) : Heap := h.push { cls := .type it, data := .fields #[.ref l, .int 0 0] }
abbrev mpH2 (h : Heap) (it : String) (l : Addr) : Heap := (mpH1 h it l).push { cls := .type "tuple", data := .seq #[.ref h.objs.size] }
abbrev mpH3 (h : Heap) (it : String) (l : Addr) : Heap := (mpH2 h it l).push { cls := .type "map", data := .fields #[.ref (mpH1 h it l).objs.size, .builtin "len"] }
theorem meets_map_list (l : Addr) (xs : Array Value) :
    Meets (Builtin.«map.__new__» ⟨[.type "map", .builtin "len", .ref l], []⟩) (fun _ R s => s.heap.IsList l xs ∧
      R (.ok (.ret (.ref (mpH2 s.heap "list_iterator" l).objs.size))) { s with heap := mpH3 s.heap "list_iterator" l }) :=
  .of_wp fun prog w A R s h => by
    obtain ⟨hp, g, d, tk, os⟩ := s; obtain ⟨hl1, h⟩ := h
    have hsub := MapF.sub
    have hL1 : Heap.IsList (Shared.heap ⟨hp, g, d, tk, os⟩) l xs := hl1
    wp_walk using wpAny_pyIter_list hL1
    exact ⟨_, rfl, h⟩
theorem meets_map_tuple (l : Addr) (xs : Array Value) :
    Meets (Builtin.«map.__new__» ⟨[.type "map", .builtin "len", .ref l], []⟩) (fun _ R s => s.heap.IsTuple l xs ∧
      R (.ok (.ret (.ref (mpH2 s.heap "tuple_iterator" l).objs.size))) { s with heap := mpH3 s.heap "tuple_iterator" l }) :=
  .of_wp fun prog w A R s h => by
    obtain ⟨hp, g, d, tk, os⟩ := s; obtain ⟨hl1, h⟩ := h
    have hsub := MapF.sub
    have hL1 : Heap.IsTuple (Shared.heap ⟨hp, g, d, tk, os⟩) l xs := hl1
    wp_walk using wpAny_pyIter_tuple hL1
    exact ⟨_, rfl, h⟩
section
variable {prog : Program} {w : World} {A : Around} {E : Value → Shared → Prop} {s : Shared} {g : Heap} {L l : Addr} {m : Str → Option Value} {news : List (Addr × Obj)}
theorem map_facts (h : Heap) (it : String) (l : Addr) : (mpH2 h it l).objs.size = h.objs.size + 2 ∧ (mpH1 h it l).objs.size = h.objs.size + 1 ∧ (mpH3 h it l).objs.size = h.objs.size + 3 := by
  have z1 : (mpH1 h it l).objs.size = h.objs.size + 1 := Heap.size_push ..
  have z2 : (mpH2 h it l).objs.size = h.objs.size + 2 := by rw [Heap.size_push, z1]
  exact ⟨z2, z1, by rw [Heap.size_push, z2]⟩
theorem map_objs (h : Heap) (it : String) (l : Addr) : IsMap (mpH3 h it l) (h.objs.size + 2) (h.objs.size + 1) (.builtin "len") ∧ IsOne (mpH3 h it l) (h.objs.size + 1) (.ref h.objs.size) ∧
    (mpH3 h it l).get? h.objs.size = some { cls := .type it, data := .fields #[.ref l, .int 0 0] } ∧ ∀ c o, h.get? c = some o → (mpH3 h it l).get? c = some o := by
  obtain ⟨z2, z1, _⟩ := map_facts h it l
  have g5 : (mpH3 h it l).get? (mpH2 h it l).objs.size = some _ := Heap.get?_push_size _ rfl
  have g4 : (mpH3 h it l).get? (mpH1 h it l).objs.size = some _ := Heap.get?_push_of_some _ (Heap.get?_push_size _ rfl)
  have g3 : (mpH3 h it l).get? h.objs.size = some _ := Heap.get?_push_of_some _ (Heap.get?_push_of_some _ (Heap.get?_push_size _ rfl))
  rw [z2, z1] at g5
  rw [z1] at g4
  exact ⟨g5, g4, g3, fun c o e => Heap.get?_push_of_some _ (Heap.get?_push_of_some _ (Heap.get?_push_of_some _ e))⟩
/-- the calls map(len, list) and map(len, tuple) -/
theorem call_map_list {xs : Array Value} {Q : Value → Shared → Prop} (hl : s.heap.IsList l xs) (h : Q (.ref (s.heap.objs.size + 2)) { s with heap := mpH3 s.heap "list_iterator" l }) :
    wpAny (model prog w) A (call (.type "map") [.builtin "len", .ref l]) Q E s := by
  refine callType_new MapF.called (by decide) (MapF.typeCall _ _) (MapF.newCall _ _) (fun obj => PySem.F.args_object_init_3 obj _ _) MapF.entry_new (meets_map_list l xs) ⟨hl, ?_⟩
  obtain ⟨z2, z1, _⟩ := map_facts s.heap "list_iterator" l
  show _ ∧ _
  rw [z2]
  exact ⟨⟨_, (map_objs s.heap "list_iterator" l).1, rfl⟩, h⟩
theorem call_map_tuple {xs : Array Value} {Q : Value → Shared → Prop} (hl : s.heap.IsTuple l xs) (h : Q (.ref (s.heap.objs.size + 2)) { s with heap := mpH3 s.heap "tuple_iterator" l }) :
    wpAny (model prog w) A (call (.type "map") [.builtin "len", .ref l]) Q E s := by
  refine callType_new MapF.called (by decide) (MapF.typeCall _ _) (MapF.newCall _ _) (fun obj => PySem.F.args_object_init_3 obj _ _) MapF.entry_new (meets_map_tuple l xs) ⟨hl, ?_⟩
  obtain ⟨z2, z1, _⟩ := map_facts s.heap "tuple_iterator" l
  show _ ∧ _
  rw [z2]
  exact ⟨⟨_, (map_objs s.heap "tuple_iterator" l).1, rfl⟩, h⟩
end
end Mine
namespace Mine
def MapOf (prog : Program) (w : World) (h0 h : Heap) (M : Addr) (ts : List Str) : Prop :=
  ∃ I TI fp St, (∀ A : Around, A.handled = none → Walks prog w A M (M :: TI :: fp) [I] ts.length (fun i v => ∃ t, v = .int ((ts.getD i Str.empty).length : Nat) t) St) ∧ St 0 h ∧ (∀ b ∈ M :: TI :: fp, b < h.objs.size) ∧ h0.objs.size ≤ I ∧ h0.StaysIn h
section
variable {prog : Program} {w : World} {A : Around} {E : Value → Shared → Prop} {s : Shared} {g : Heap} {L l M : Addr} {m : Str → Option Value} {news : List (Addr × Obj)} {vs : List Value} {ts : List Str}
theorem getD_short (hb : ∀ t ∈ ts, t.length ≤ 1000) (i : Nat) : (ts.getD i Str.empty).length ≤ 100000 := by
  rw [List.getD_eq_getElem?_getD]
  cases e : ts[i]? with
  | none => simp [Str.empty, Str.length]
  | some t => have := hb t (List.mem_of_getElem? e); simp; omega
theorem mapTup_N {Q : Value → Shared → Prop} (F : Fr g L s.heap m) (N : News g L s.heap news) (hl : IsTup s.heap l vs.toArray) (hi : StrsAre vs ts) (hb : ∀ t ∈ ts, t.length ≤ 1000)
    (h : ∀ M h', Fr g L h' m → News g L h' news → MapOf prog w s.heap h' M ts → Q (.ref M) { s with heap := h' }) : wpAny (model prog w) A (call (.type "map") [.builtin "len", .ref l]) Q E s := by
  have hlen := strs_len hi
  have hlt : l < s.heap.objs.size := hl.lt
  obtain ⟨o1, o2, o3, o4⟩ := map_objs s.heap "tuple_iterator" l
  refine call_map_tuple hl (h _ _ (F.keeps o4) (N.grown o4) ⟨s.heap.objs.size, s.heap.objs.size + 1, [s.heap.objs.size, l], (fun i h => IsMap h (s.heap.objs.size + 2) (s.heap.objs.size + 1) (.builtin "len") ∧ IsOne h (s.heap.objs.size + 1) (.ref s.heap.objs.size) ∧ (h.IsTupleIter s.heap.objs.size l i ∧ h.IsTuple l vs.toArray)), fun A hh => ?_, ⟨o1, o2, ⟨_, o3, rfl, rfl⟩, Heap.IsTuple.at hl fun o e => o4 _ _ e⟩, ?_, Nat.le_refl _, o4⟩)
  · have := walksMapLen (M := s.heap.objs.size + 2) (TI := s.heap.objs.size + 1) (drawsTuple (prog := prog) (w := w) (A := A.in1) hh s.heap.objs.size l (Nat.ne_of_lt hlt) vs.toArray) (fun i => ts.getD i Str.empty)
      (fun i v hv => SetStr.strs_at hi i v (by simpa using hv)) (fun i => getD_short hb i) (Nat.ne_of_gt (Nat.lt_add_of_pos_right (by decide))) (Nat.ne_of_gt (Nat.lt_add_of_pos_right (by decide))) (by simp)
    rw [show vs.toArray.size = ts.length by simp [hlen]] at this
    exact this
  · rw [(map_facts s.heap "tuple_iterator" l).2.2]
    intro b hb
    simp only [List.mem_cons, List.not_mem_nil, or_false] at hb
    rcases hb with rfl | rfl | rfl | rfl <;> first | exact Nat.lt_add_of_pos_right (by decide) | exact Nat.add_lt_add_left (by decide) _ | exact Nat.lt_of_lt_of_le hlt (Nat.le_add_right _ _)
theorem mapLst_N {Q : Value → Shared → Prop} (F : Fr g L s.heap m) (N : News g L s.heap news) (hl : s.heap.IsList l vs.toArray) (hi : StrsAre vs ts) (hb : ∀ t ∈ ts, t.length ≤ 1000)
    (h : ∀ M h', Fr g L h' m → News g L h' news → MapOf prog w s.heap h' M ts → Q (.ref M) { s with heap := h' }) : wpAny (model prog w) A (call (.type "map") [.builtin "len", .ref l]) Q E s := by
  have hlen := strs_len hi
  have hlt : l < s.heap.objs.size := by obtain ⟨_, e, _⟩ := hl; exact Heap.lt_size e
  obtain ⟨o1, o2, o3, o4⟩ := map_objs s.heap "list_iterator" l
  refine call_map_list hl (h _ _ (F.keeps o4) (N.grown o4) ⟨s.heap.objs.size, s.heap.objs.size + 1, [s.heap.objs.size, l], (fun i h => IsMap h (s.heap.objs.size + 2) (s.heap.objs.size + 1) (.builtin "len") ∧ IsOne h (s.heap.objs.size + 1) (.ref s.heap.objs.size) ∧ (h.IsListIter s.heap.objs.size l i ∧ h.IsList l vs.toArray)), fun A hh => ?_, ⟨o1, o2, ⟨_, o3, rfl, rfl⟩, hl.at fun o e => o4 _ _ e⟩, ?_, Nat.le_refl _, o4⟩)
  · have := walksMapLen (M := s.heap.objs.size + 2) (TI := s.heap.objs.size + 1) (Draws.list (prog := prog) (w := w) (A := A.in1) hh s.heap.objs.size l (Nat.ne_of_lt hlt) vs.toArray) (fun i => ts.getD i Str.empty)
      (fun i v hv => SetStr.strs_at hi i v (by simpa using hv)) (fun i => getD_short hb i) (Nat.ne_of_gt (Nat.lt_add_of_pos_right (by decide))) (Nat.ne_of_gt (Nat.lt_add_of_pos_right (by decide))) (by simp)
    rw [show vs.toArray.size = ts.length by simp [hlen]] at this
    exact this
  · rw [(map_facts s.heap "list_iterator" l).2.2]
    intro b hb
    simp only [List.mem_cons, List.not_mem_nil, or_false] at hb
    rcases hb with rfl | rfl | rfl | rfl <;> first | exact Nat.lt_add_of_pos_right (by decide) | exact Nat.add_lt_add_left (by decide) _ | exact Nat.lt_of_lt_of_le hlt (Nat.le_add_right _ _)
theorem preSum_lens (ts : List Str) : preSum (fun i => ((ts.getD i Str.empty).length : Int)) ts.length = ((ts.map (·.length)).sum : Nat) := by
  have key : ∀ n, n ≤ ts.length → preSum (fun i => ((ts.getD i Str.empty).length : Int)) n = (((ts.take n).map (·.length)).sum : Nat) := by
    intro n
    induction n with
    | zero => intro _; simp [preSum]
    | succ n ih =>
      intro hn
      have hn' : n < ts.length := hn
      have e : ts.take (n + 1) = ts.take n ++ [ts[n]] := by rw [List.take_add_one]; simp [hn']
      rw [e, List.map_append, List.sum_append, preSum, ih (by omega), List.getD_eq_getElem?_getD, List.getElem?_eq_getElem hn']
      simp only [Option.getD_some, List.map_cons, List.map_nil, List.sum_cons, List.sum_nil, Nat.add_zero, Int.natCast_add]
  rw [key _ (Nat.le_refl _), List.take_length]
theorem sumMap_N {h0 : Heap} {Q : Value → Shared → Prop} (hh : A.handled = none) (Mo : MapOf prog w h0 s.heap M ts) (F : Fr g L h0 m) (N : News g L h0 news)
    (h : ∀ h' tk t', Fr g L h' m → News g L h' news → Q (.int ((ts.map (·.length)).sum : Nat) t') { s with heap := h', toks := tk }) : wpAny (model prog w) A (call (.builtin "sum") [.ref M]) Q E s := by
  obtain ⟨I, TI, fp, St, W, hst, hlt, hI, hk0⟩ := Mo
  refine call_sum_walkG ((W A.in1 hh).self 0 s _ _ hst ⟨M, _, _, _, _, St, fun i => ((ts.getD i Str.empty).length : Int), rfl, W A.in1 hh, hst, hlt, fun i v hv => hv, fun h' tk t' hk => ?_⟩)
  rw [preSum_lens]
  have keep : ∀ b o, h0.get? b = some o → h'.get? b = some o := fun b o e => hk b o (fun hm => by rw [List.mem_singleton.mp hm] at e; exact Nat.lt_irrefl _ (Nat.lt_of_lt_of_le (Heap.lt_size e) hI)) (hk0 _ _ e)
  exact h h' tk t' (F.keeps keep) (N.grown keep)
theorem maxMap_N {h0 : Heap} {Q : Value → Shared → Prop} (hh : A.handled = none) (Mo : MapOf prog w h0 s.heap M ts) (F : Fr g L h0 m) (N : News g L h0 news) (hne : ts ≠ [])
    (h : ∀ h' tk t' k, k ∈ ts.map (·.length) → Fr g L h' m → News g L h' news → Q (.int (k : Nat) t') { s with heap := h', toks := tk }) : wpAny (model prog w) A (call (.builtin "max") [.ref M]) Q E s := by
  obtain ⟨I, TI, fp, St, W, hst, hlt, hI, hk0⟩ := Mo
  have hn : 0 < ts.length := List.length_pos_iff.mpr hne
  refine call_max_walk ((W A.in1 hh).self 0 s _ _ hst ⟨M, _, _, _, _, St, fun i j => decide (((ts.getD i Str.empty).length : Int) > ((ts.getD j Str.empty).length : Int)), rfl, W A.in1 hh, hst, hlt, hn, ?_, fun v h' tk hP hk => ?_⟩)
  · exact CmpOf.ints_gt (fun i => ((ts.getD i Str.empty).length : Int)) fun i v h => h
  · obtain ⟨t', rfl⟩ := hP
    have keep : ∀ b o, h0.get? b = some o → h'.get? b = some o := fun b o e => hk b o (fun hm => by rw [List.mem_singleton.mp hm] at e; exact Nat.lt_irrefl _ (Nat.lt_of_lt_of_le (Heap.lt_size e) hI)) (hk0 _ _ e)
    have hle := (argBest_gt (fun i => ((ts.getD i Str.empty).length : Int)) (ts.length - 1)).1
    refine h h' tk t' _ ?_ (F.keeps keep) (N.grown keep)
    generalize argBest _ _ = q at *
    have hq : q < ts.length := by omega
    rw [List.getD_eq_getElem?_getD, List.getElem?_eq_getElem hq]
    exact List.mem_map.mpr ⟨ts[q], List.getElem_mem hq, rfl⟩
end
end Mine

end

section
local macro_rules | `(tactic| walk_at "mine pad C1 0") => `(tactic| skip)
open PySem PySem.W PySem.Calls PyProof.Rows
set_option Elab.async false
set_option maxRecDepth 100000
set_option maxHeartbeats 8000000
namespace Mine
local macro_rules | `(tactic| walk_at "mine enter") => `(tactic| (refine' enter ?k3 ?k5 ?k6 ?k7 ?k8 ?k9 ?kB ?_ ?c2 ?c3 ?c4 ?c5; (case k3 => k_asm); (case k5 => k_asm); (case k6 => k_is); (case k7 => k_is); (case k8 => ktr_room); (case k9 => exact BindsTo.of_eq rfl); (case c5 => decide); (case kB => exact locs rfl); (case c2 => exact rfl); (case c3 => exact rfl); (case c4 => exact rfl); k_whole; intro L' h' F' N'; (try dsimp only); (try k_fold)))
local macro_rules | `(tactic| walk_at "mine enterV") => `(tactic| ((case k3 => k_asm); (case k5 => k_asm); (case k6 => k_is); (case k7 => k_is); (case k8 => ktr_room); (case c5 => decide); (case kB => exact fun _ => locs rfl); (case c2 => exact rfl); (case c3 => exact rfl); (case c4 => exact rfl); (case kG => exact fun _ => rfl)))
local macro_rules | `(tactic| walk_at "mine go") => `(tactic| repeat' ((fail_if_success (with_reducible show wpAny _ _ (pyIter _) _ _ _)); (fail_if_success (with_reducible show wpAny _ _ (exec (Stmt.While _ _ _ _) _) _ _ _)); (first | (k_unfold; (try dsimp only)) | (k_end; wrow_close) | walk1 | (dsimp only; walk1) | (leave1; walk_say "STEP leave1"; try dsimp only) | fail "no step")))
local macro_rules | `(tactic| walk_at "mine tup") => `(tactic| first | (rename Fr _ _ _ _ => F9; exact F9.tup (by assumption)) | exact News.isTup (by k_asm) (by k_mem))
local macro_rules | `(tactic| walk_at "mine lst") => `(tactic| first | exact News.isList (by k_asm) (by k_mem) | (rename Fr _ _ _ _ => F9; exact F9.lst (by assumption)))
local macro_rules | `(tactic| walk_at "truthy ref") => `(tactic| (k_here; (refine tup_truthy (by walk_at "mine tup") (by assumption) (by omega) ?_ ?_ <;> intro he')))
local macro_rules | `(tactic| walk_at "call builtin:len") => `(tactic| (k_here; (first | refine tup_len (by walk_at "mine tup") (by assumption) (by omega) ?_ | refine lst_len (by walk_at "mine lst") (by assumption) (by omega) ?_)))
local macro_rules | `(tactic| walk_at "StarOf ref") => `(tactic| (k_here; (first | refine tup_star (by k_asm) (by k_asm) (by walk_at "mine tup") (by assumption) ?_ | refine lst_star (by k_asm) (by k_asm) (by walk_at "mine lst") (by assumption) ?_); intro h' F' N'; (try dsimp only [List.nil_append, List.cons_append])))
local macro_rules | `(tactic| walk_at "call builtin:all") => `(tactic| (k_here; (refine tup_all (by rfl) (by k_asm) (by k_asm) (by walk_at "mine tup") (by assumption) (by assumption) ?_); intro h' tk' F' N'))
local macro_rules | `(tactic| walk_at "call type:list") => `(tactic| (k_here; (refine list_copyKT (by k_asm) (by k_asm) (by walk_at "mine tup") ?_ (by simp only [List.size_toArray, sizeLine]; omega)); intro D' c' h' F' N' l1'))
local macro_rules | `(tactic| k_room) => `(tactic| ktr_room)
local macro_rules | `(tactic| k_inst) => `(tactic| (refine' inst_up ?iF ?i1 ?i2; (case iF => k_asm); (case i1 => assumption); (case i2 => assumption)))
local macro_rules | `(tactic| walk_at "eval Call Attribute") => `(tactic| (k_here; (with_reducible show wpAny _ _ (eval (Expr.Call (Expr.Attribute _ _ _) [Expr.Starred _ _] [] _) _) _ _ _); refine methodCall_S ?_))
local macro_rules | `(tactic| walk_at "callWith ref") => `(tactic| (k_here; (with_reducible show wpAny _ _ (callWith _ (Value.ref _) _ (backTo _ (starEach [Expr.Starred _ _] _)) []) _ _ _); k_dflt (refine' callWith_SM ?kX ?k0 ?k1 ?k2 ?_; (case kX => k_asm); (case k0 => k_asm); (case k1 => k_mem); (case k2 => k_is); k_whole)))
local macro_rules | `(tactic| walk_at "getAttr ref") => `(tactic| (k_here; k_dflt (refine' get_sm ?k1 ?k2 ?k4 ?k5 ?k6 ?k7 ?k8 ?k9 ?k10 ?k11 ?k12 ?k13 ?_; (case k4 => k_inst); (case k1 => k_asm); (case k2 => k_asm); (case k7 => k_is); (case k5 => k_is); (case k6 => k_is); (case k8 => k_is); (case k9 => k_is); (case k10 => k_is); (case k11 => k_handed); (case k12 => decide +kernel); (case k13 => k_get); k_whole)))
local macro_rules | `(tactic| walk_at "mine tell") => `(tactic| ((case tB => k_asm); (case tF => k_asm); (case tX => k_asm); (case tN => k_asm); (case tT => k_asm); (case tf => rfl); (case tk => rfl); (case td => ktr_room); (case tu => first | omega | (dsimp only; omega) | k_units)))
local macro_rules | `(tactic| walk_at "mine enterVC") => `(tactic| ((case k3 => k_asm); (case k5 => k_asm); (case k6 => k_is); (case k7 => k_is); (case k8 => ktr_room); (case kK => exact fun _ => rfl); (case kN => decide +kernel); (case c2 => exact rfl); (case c3 => exact rfl); (case c4 => exact rfl); (case kG => exact fun _ => rfl)))
theorem standart_c {prog : Program} {w : World} (fill : PySem.Challenge.rw_ah5039_01 = PySem.Challenge.rw_ah5039_01 ∧ hd.heap_39 = hd.heap_39) (self : Value) (s1 s2 : Str) (t1 t2 : Tok) (h1 : s1.length < 100) (h2 : s2.length < 100) :
    Tells1 prog w (hd.heap_39 w.params) 1 8 (.ref 241) [self, .str s1 t1, .str s2 t2] (fun _ => True) (fun v _ _ => ∃ t, v = .str (st (standart (tx s1) (tx s2))) t) := by
  revert fill
  k_fill
  intro _
  intro p loose mean mg mb dp un gd outer A₀ base s Q B X T hd' hu _ ret
  k_dflt (walk_at "mine enter")
  walk_at "mine go"
  rename IsRange _ _ _ _ _ _ _ _ => hr
  rename Fr _ _ _ _ => F
  rename News _ _ _ _ => N
  refine range0_inv (n := s1.length) (fun i m => m "s1" = some (.str s1 t1) ∧ m "s2" = some (.str s2 t2) ∧ ∃ tp tb, m "place" = some (.int ((stAll (tx s1) (tx s2) i).1 : Nat) tp) ∧ m "best" = some (.int ((stAll (tx s1) (tx s2) i).2 : Nat) tb)) rfl hr rfl (by omega) F N ?h0 ?turn ?done
  case h0 => exact ⟨rfl, rfl, _, _, rfl, rfl⟩
  case done =>
    clear F N hr
    rintro m₁ h tk ⟨e1, e2, tp, tb, e3, e4⟩ F N
    replace F := Fr.name "best" _ (Fr.name "place" _ (Fr.name "s2" _ (Fr.name "s1" _ F e1) e2) e3) e4
    dsimp only
    walk_at "mine go"
    have hb := stAll_bound (tx s1) (tx s2) s1.length (by rw [tx_len]; exact Nat.le_refl _)
    rw [tx_len] at hb
    rw [← Int.natCast_add, slice_ss s1 (Nat.le_add_right _ _) hb, Nat.add_sub_cancel_left]
    rename Fr _ _ _ _ => F
    unfold standart at ret
    rw [tx_len] at ret
    exact ret _ _ _ F.keep ⟨_, rfl⟩
  case turn =>
    clear F N hr
    rintro i t m₁ h tk own hi ⟨e1, e2, tp, tb, e3, e4⟩ F N
    replace F := Fr.name "best" _ (Fr.name "place" _ (Fr.name "s2" _ (Fr.name "s1" _ F e1) e2) e3) e4
    dsimp only
    walk_at "mine go"
    rename IsRange _ _ _ _ _ _ _ _ => hr
    try clear F
    rename Fr _ _ _ _ => F
    rename News _ _ _ _ => N
    refine range0_inv (n := s2.length) (fun j m => m "s1" = some (.str s1 t1) ∧ m "s2" = some (.str s2 t2) ∧ m "a" = some (.int (i : Int) t) ∧ ∃ tp tb, m "place" = some (.int ((stRow (tx s1) (tx s2) i j (stAll (tx s1) (tx s2) i)).1 : Nat) tp) ∧ m "best" = some (.int ((stRow (tx s1) (tx s2) i j (stAll (tx s1) (tx s2) i)).2 : Nat) tb)) rfl hr rfl (by omega) F N ?h0 ?turn ?done
    case h0 => exact ⟨rfl, rfl, rfl, _, _, rfl, rfl⟩
    case done =>
      clear F N hr
      rintro m₁ h tk ⟨e1, e2, _, tp, tb, e3, e4⟩ F N
      dsimp only
      walk_at "mine go"
      rw [← tx_len s2, ← stAll_succ] at e3 e4
      refine InvEnd.intro (by assumption) (by assumption) sub_refl ⟨e1, e2, tp, tb, ?_, ?_⟩
      · exact e3
      · exact e4
    case turn =>
      clear F N hr
      rintro j t' m₂ h tk own' hj ⟨e1, e2, e5, tp, tb, e3, e4⟩ F N
      replace F := Fr.name "a" _ (Fr.name "best" _ (Fr.name "place" _ (Fr.name "s2" _ (Fr.name "s1" _ F e1) e2) e3) e4) e5
      dsimp only
      walk_at "mine go"
      rename Fr _ _ _ _ => F
      rename News _ _ _ _ => N
      have hstep := stRow_succ (tx s1) (tx s2) i j (stAll (tx s1) (tx s2) i)
      generalize hacc : stRow (tx s1) (tx s2) i j (stAll (tx s1) (tx s2) i) = acc at F hstep
      refine mid_after F N (fun m => m "s1" = some (.str s1 t1) ∧ m "s2" = some (.str s2 t2) ∧ m "a" = some (.int (i : Int) t) ∧ m "b" = some (.int (j : Int) t')
        ∧ (∃ tp tb, m "place" = some (.int (acc.1 : Nat) tp) ∧ m "best" = some (.int (acc.2 : Nat) tb)) ∧ ∃ tk, m "size" = some (.int (lcp ((tx s1).drop i) ((tx s2).drop j) : Nat) tk)) ?hw ?hk
      case hw =>
        refine While_inv2 (n₀ := s1.length - i) (fun n m nw => nw = own' ++ (own ++ []) ∧ m "s1" = some (.str s1 t1) ∧ m "s2" = some (.str s2 t2) ∧ m "a" = some (.int (i : Int) t) ∧ m "b" = some (.int (j : Int) t')
          ∧ (∃ tp tb, m "place" = some (.int (acc.1 : Nat) tp) ∧ m "best" = some (.int (acc.2 : Nat) tb)) ∧ ∃ k tk, m "size" = some (.int (k : Nat) tk) ∧ n = s1.length - (i + k) ∧ i + k ≤ s1.length ∧ j + k ≤ s2.length ∧ ∀ q, q < k → ((tx s1).drop i)[q]? = ((tx s2).drop j)[q]?) F N ⟨rfl, rfl, rfl, rfl, rfl, ⟨_, _, rfl, rfl⟩, 0, _, rfl, by simp, by omega, by omega, by intro q hq; omega⟩ ?wturn
        case wturn =>
          clear F N
          rintro n m₃ news₁ h tk F N ⟨rfl, e1, e2, e5, e6, ⟨tp, tb, e3, e4⟩, k, ts, e7, rfl, hk1, hk2, hk3⟩
          replace F := Fr.name "size" _ (Fr.name "b" _ (Fr.name "a" _ (Fr.name "best" _ (Fr.name "place" _ (Fr.name "s2" _ (Fr.name "s1" _ F e1) e2) e3) e4) e5) e6) e7
          have hl1 := tx_len s1
          have hl2 := tx_len s2
          have hstop := lcp_stop ((tx s1).drop i) ((tx s2).drop j) k (by rw [List.length_drop]; omega) (by rw [List.length_drop]; omega) hk3
          rw [List.length_drop, List.length_drop] at hstop
          dsimp only
          walk_at "mine go"
          · rename (_ == _) = true => hq
            have hq' := (item_eq_iff (by omega) (by omega)).mp hq
            refine ⟨_, _, _, _, _, rfl, (by assumption), (by assumption), ?_, rfl, rfl, rfl, rfl, rfl, ⟨_, _, rfl, rfl⟩, k + 1, _, rfl, rfl, by omega, by omega, ?_⟩
            · omega
            · intro q hq9
              rcases Nat.lt_succ_iff_lt_or_eq.mp hq9 with h9 | rfl
              · exact hk3 q h9
              · exact hq'
          · rename (_ == _) = false => hq
            have hs := hstop (Or.inr (Or.inr fun e => by rw [(item_eq_iff (by omega) (by omega)).mpr e] at hq; cases hq))
            refine ⟨rfl, _, _, _, rfl, (by assumption), (by assumption), rfl, rfl, rfl, rfl, ⟨_, _, rfl, rfl⟩, ts, ?_⟩
            rw [hs]; rfl
          · have hs := hstop (Or.inr (Or.inl (by omega)))
            refine ⟨rfl, _, _, _, rfl, (by assumption), (by assumption), rfl, rfl, rfl, rfl, ⟨_, _, rfl, rfl⟩, ts, ?_⟩
            rw [hs]; rfl
          · have hs := hstop (Or.inl (by omega))
            refine ⟨rfl, _, _, _, rfl, (by assumption), (by assumption), rfl, rfl, rfl, rfl, ⟨_, _, rfl, rfl⟩, ts, ?_⟩
            rw [hs]; rfl
      case hk =>
        clear F N
        rintro h tk m₃ F N ⟨e1, e2, e5, e6, ⟨tp, tb, e3, e4⟩, ts, e7⟩
        replace F := Fr.name "size" _ (Fr.name "b" _ (Fr.name "a" _ (Fr.name "best" _ (Fr.name "place" _ (Fr.name "s2" _ (Fr.name "s1" _ F e1) e2) e3) e4) e5) e6) e7
        dsimp only
        walk_at "mine go"
        all_goals simp only [stIn] at hstep
        · rw [if_pos (by omega)] at hstep
          refine InvEnd.intro (by assumption) (by assumption) sub_tail ⟨rfl, rfl, rfl, t, ts, ?_, ?_⟩
          · rw [hstep]; rfl
          · rw [hstep]; rfl
        · rw [if_neg (by omega)] at hstep
          refine InvEnd.intro (by assumption) (by assumption) sub_refl ⟨rfl, rfl, rfl, tp, tb, ?_, ?_⟩
          · rw [hstep]; rfl
          · rw [hstep]; rfl
theorem standart_l {prog : Program} {w : World} (self : Value) {vs : List Value} {ts : List Str} (hi : StrsAre vs ts) (h2 : ts.length = 2) (hb : ∀ t ∈ ts, t.length ≤ 20) :
    Tells1 prog w (hd.heap_39 w.params) 1 8 (.ref 241) (self :: vs) (fun _ => True) (fun v _ _ => ∃ t, v = .str (st (standart (tx (ts.getD 0 Str.empty)) (tx (ts.getD 1 Str.empty)))) t) := by
  cases hi with
  | nil => simp at h2
  | cons s1 t1 r =>
    cases r with
    | nil => simp at h2
    | cons s2 t2 r2 =>
      cases r2 with
      | cons => simp at h2
      | nil => exact standart_c ⟨rfl, rfl⟩ self s1 s2 t1 t2 (by have := hb s1 (by simp); omega) (by have := hb s2 (by simp); omega)

end Mine

end

section
open PySem PySem.W PySem.Calls PyProof.Rows
set_option Elab.async false
set_option maxRecDepth 100000
namespace Mine
section
variable {M : Model} {A : Around} {E : Value → Shared → Prop} {s : Shared} {K : Frag} {env : Env} {pos : Pos} {x C : Addr} {ox : Obj} {od : Option Obj} {first : List Value} {Q : Value → Shared → Prop}
theorem star_callI {args : List (Bool × Sem Value)} (hst : args.any (·.1) = true) (hd : ox.data = .plain)
    (h : wpAny M A (evalArgs (.ref x) true args []) (fun a s₁ => kco_P K x C ox od s₁.heap ∧ wpAny M A (call (.ref x) (first ++ a.pos) a.kw) Q E s₁) E s) : wpAny M A (callWith pos (.ref x) first args []) Q E s := by
  unfold callWith
  refine wpAny_bind (wpAny_holding (wpAny_mono h (fun a s₁ h₁ => wpAny_bind (wpAny_standAt ?_)) fun _ _ y => y))
  have L := kco_keeper (M := M) h₁.1.2 hd
  simp only [hst, Bool.true_or]
  refine wpAny_bind (L.here ?_)
  have tail : ∀ {t : Sem Value}, wpAny M A t Q E s₁ → wpAny M A (t >>= fun r => holding [r] point >>= fun _ => pure r) Q E s₁ :=
    fun ht => wpAny_bind (wpAny_mono ht (fun r s₂ hr => wpAny_bind (wpAny_holding (wpAny_point (wpAny_pure hr)))) fun _ _ y => y)
  have marked (mk : Value) : wpAny M A (callMarked mk (.ref x) (first ++ a.pos) a.kw) Q E s₁ := by unfold callMarked; exact Calls.wpAny_keep h₁.2
  dsimp only
  first | exact tail (marked _) | exact tail (wpAny_operating h₁.2) | exact tail (wpAny_operateT h₁.2)
theorem callWith_SI {f : Addr} {e : Expr} {p : Pos} (_X : K.In s.heap) (_I : InstAt s.heap x ox C od) (hd : ox.data = .plain) (_hs : findIn K (.ref C) "__call__" = some (some (.ref f)))
    (h : wpAny M A (eval e env) (fun v s₁ => StarOf M A E v (fun vs s₂ => kco_P K x C ox od s₂.heap ∧ wpAny M A (call (.ref x) (first ++ vs)) Q E s₂) s₁) E s)
    (he : starEach [.Starred e p] env = [(true, eval e env)] := by rfl) :
    wpAny M A (callWith pos (.ref x) first (backTo pos (starEach [.Starred e p] env)) []) Q E s := by
  rw [he]
  exact star_callI rfl hd (ks_lone h)
end
section
variable {prog : Program} {w : World} {K : Frag} {dn un' : Nat} {f : Addr} {rest : List Value} {pre : Heap → Prop} {post : Value → Heap → Heap → Prop}
    {p : Program} {loose : List Str} {mean : ExcName → Option Value} {mg mb : Str → Option Value} {dp un : Nat} {gd : Option (List Code)} {env : Env} {outer : List Env} {A₀ : Around} {base h₀ : Heap} {L : Addr} {m : Str → Option Value} {news : List (Addr × Obj)} {s : Shared} {Q E : Value → Shared → Prop}
    {x C : Addr} {ox : Obj} {od : Option Obj}
/-- an object called, its class's own __call__ by contract -/
theorem Tells1.useI (X' : K.In s.heap) (I : InstAt s.heap x ox C od) (hd' : ox.data = .plain) (hs : findIn K (.ref C) "__call__" = some (some (.ref f))) (hfn' : isFn K (.ref f) = true) (hfn : fnIn K f = true)
    (H : Tells1 prog w K dn un' (.ref f) (.ref x :: rest) pre post)
    (B : Below A₀ base outer h₀) (F : Fr h₀ L s.heap m) (X : K.In h₀) (N : News h₀ L s.heap news) (T : Top p loose mean mg mb h₀) (hf : env.frame = some L) (hk : env.scope.kind = .function) (hd : dp + dn < recursionLimit) (hu : un + un' < cLine) (hp : pre s.heap)
    (ret : ∀ v h' tk', Fr h₀ L h' m → News h₀ L h' news → s.heap.StaysIn h' → post v s.heap h' → Q v { s with heap := h', toks := tk' }) :
    wpAny (model prog w) ⟨none, dp, some (env :: outer), gd, un⟩ (call (.ref x) rest) Q E s :=
  wpAny_call (kco_code X' I hd' hs hfn' hfn (H.code B F X N T hf hk hd hu hp ret))
end
end Mine

namespace Mine
theorem len_stN {prog : Program} {w : World} {A : Around} {E : Value → Shared → Prop} {s : Shared} {l : Tx} {t : Tok} {Q : Value → Shared → Prop} (hb : l.length ≤ 1000) (h : ∀ tk t', Q (.int (l.length : Nat) t') { s with toks := tk }) :
    wpAny (model prog w) A (call (.builtin "len") [.str (st l) t]) Q E s := by
  refine PySem.P.len_str (by rw [st_len]; omega) ?_
  rw [st_len]
  exact h _ _
end Mine

end

section
open PySem PySem.W PySem.Calls PyProof.Rows
set_option Elab.async false
set_option maxRecDepth 100000
namespace Mine
/-- what stands behind the turn of a loop -/
def TurnJ (h₀ : Heap) (L I : Addr) (oI : Obj) (S : List (Addr × Obj) → Prop) (J : (Str → Option Value) → List (Addr × Obj) → Prop) (s : Shared) (Q : Flow → Shared → Prop) (f : Flow) (s' : Shared) : Prop :=
  match f with
  | .next | .cont => ∃ h' tk' m' news', s' = { s with heap := h', toks := tk' } ∧ Fr h₀ L h' m' ∧ News h₀ L h' ((I, oI) :: news') ∧ LCg.Off1 I news' ∧ S news' ∧ J m' news'
  | .brk => Q .next s'
  | .ret v => Q (.ret v) s'
theorem TurnJ.intro {h₀ : Heap} {L I : Addr} {oI : Obj} {S : List (Addr × Obj) → Prop} {J : (Str → Option Value) → List (Addr × Obj) → Prop} {s : Shared} {Q : Flow → Shared → Prop} {h' : Heap} {tk : Nat} {m' : Str → Option Value} {all : List (Addr × Obj)}
    (F : Fr h₀ L h' m') (N : News h₀ L h' all) (news' : List (Addr × Obj)) (sub : ∀ p ∈ (I, oI) :: news', p ∈ all) (off : LCg.Off1 I news') (hS : S news') (j : J m' news') :
    TurnJ h₀ L I oI S J s Q .next { s with heap := h', toks := tk } := ⟨h', tk, m', news', rfl, F, fun p hp => N p (sub p hp), off, hS, j⟩
section
variable {prog : Program} {w : World} {A : Around} {E : Value → Shared → Prop} {s : Shared} {h₀ : Heap} {L : Addr} {env : Env} {Q : Flow → Shared → Prop} {m₀ : Str → Option Value} {news₀ : List (Addr × Obj)}
theorem loopJ {target : Expr} {body orelse : List Stmt} {I : Addr} {fp : List Addr} {n : Nat} {P : Nat → Value → Prop} {St : Nat → Heap → Prop} {S : List (Addr × Obj) → Prop} (J : Nat → (Str → Option Value) → List (Addr × Obj) → Prop)
    (W : Walks prog w A I fp [I] n P St) (hIo : ∀ i h, St i h → ∃ o, h.get? I = some o)
    (hSt : ∀ i h h' o nw, St i h → h.get? I = some o → h'.get? I = some o → (∀ b o, h₀.get? b = some o → h'.get? b = some o) → News h₀ L h' nw → S nw → St i h')
    (hst : St 0 s.heap) (F : Fr h₀ L s.heap m₀) (N : News h₀ L s.heap news₀) (hIL : L ≠ I) (hI₀ : h₀.get? I = none) (off : LCg.Off1 I news₀) (hS : S news₀) (hj : J 0 m₀ news₀)
    (turn : ∀ i v m₁ news₁ oI h tk, i < n → P i v → J i m₁ news₁ → LCg.Off1 I news₁ → S news₁ → Fr h₀ L h m₁ → News h₀ L h ((I, oI) :: news₁) →
      wpAny (model prog w) A (assign target env v) (fun _ s' => wpAny (model prog w) A (execs body env) (TurnJ h₀ L I oI S (J (i + 1)) { s with heap := h, toks := tk } Q) (fun _ _ => False) s') (fun _ _ => False) { s with heap := h, toks := tk })
    (done : ∀ m₁ news₁ h tk, J n m₁ news₁ → Fr h₀ L h m₁ → News h₀ L h news₁ → wpAny (model prog w) A (execs orelse env) Q (fun _ _ => False) { s with heap := h, toks := tk })
    (ht : ∀ v, letOwnedTupleGo target (.ref I) v = pure () := by intro _; rfl) :
    codeAny (model prog w) A (.forLoop target (.ref I) body orelse env) (fun r s' => match r with | .ok f => Q f s' | .error e => cameBackBy (model prog w) A env E e s') s := by
  have offm : ∀ {l : List (Addr × Obj)}, LCg.Off1 I l → ∀ p ∈ l, p.1 ≠ I := by
    intro l
    induction l with
    | nil => intro _ p hp; cases hp
    | cons q r ih =>
      intro h p hp
      rcases List.mem_cons.mp hp with rfl | hp
      · exact h.1
      · exact ih h.2 p hp
  refine codeAny_forLoop (fun k s' => ∃ h tk m news i, s' = { s with heap := h, toks := tk } ∧ St i h ∧ Fr h₀ L h m ∧ News h₀ L h news ∧ LCg.Off1 I news ∧ S news ∧ J i m news ∧ i ≤ n ∧ k = n + 1 - i) ?_ (n + 1)
    ⟨s.heap, s.toks, m₀, news₀, 0, rfl, hst, F, N, off, hS, hj, Nat.zero_le _, rfl⟩ ht
  rintro k s' ⟨h, tk, m, news, i, rfl, hst', F', N', off', hS', hj', hi, rfl⟩
  rcases Nat.lt_or_ge i n with hlt | hge
  · refine W.item i _ _ _ hlt hst' fun v h₂ tk₂ hP hst₂ hk₂ => ?_
    obtain ⟨oI, heI⟩ := hIo _ _ hst₂
    have F₂ : Fr h₀ L h₂ m := LCg.fr_but F' hk₂ hIL hI₀
    have N₂ : News h₀ L h₂ ((I, oI) :: news) := fun p hp => by
      rcases List.mem_cons.mp hp with rfl | hp
      · exact ⟨heI, Ne.symm hIL, hI₀⟩
      · exact LCg.news_but N' hk₂ (offm off') p hp
    refine wpAny_mono (turn i v m news oI h₂ tk₂ hlt hP hj' off' hS' F₂ N₂) (fun _ s₃ h₃ => ?_) fun _ _ e => e.elim
    refine wpAny_mono h₃ (fun f s₄ h₄ => ?_) fun _ _ e => e.elim
    have fin : (∃ h' tk' m' news', s₄ = { s with heap := h', toks := tk' } ∧ Fr h₀ L h' m' ∧ News h₀ L h' ((I, oI) :: news') ∧ LCg.Off1 I news' ∧ S news' ∧ J (i + 1) m' news') →
        ∃ q, q < n + 1 - i ∧ ∃ h tk m news j, s₄ = { s with heap := h, toks := tk } ∧ St j h ∧ Fr h₀ L h m ∧ News h₀ L h news ∧ LCg.Off1 I news ∧ S news ∧ J j m news ∧ j ≤ n ∧ q = n + 1 - j := by
      rintro ⟨h', tk', m', news', rfl, F₄, N₄, off₄, hS₄, hj₄⟩
      have N₅ : News h₀ L h' news' := fun p hp => N₄ p (.tail _ hp)
      exact ⟨n + 1 - (i + 1), by omega, h', tk', m', news', i + 1, rfl, hSt _ _ _ _ _ hst₂ heI (N₄ _ (.head _)).1 F₄.keep N₅ hS₄, F₄, N₅, off₄, hS₄, hj₄, hlt, rfl⟩
    cases f with
    | next => exact fin h₄
    | cont => exact fin h₄
    | brk => exact h₄
    | ret v => exact h₄
  · have hin : i = n := by omega
    subst hin
    refine W.done _ _ _ hst' fun h₂ tk₂ hk₂ => ?_
    exact wpAny_mono (done m news h₂ tk₂ hj' (LCg.fr_but F' hk₂ hIL hI₀) (LCg.news_but N' hk₂ (offm off'))) (fun _ _ q => q) fun _ _ e => e.elim

theorem off1_lt {h : Heap} {news : List (Addr × Obj)} (N : News h₀ L h news) : LCg.Off1 h.objs.size news := by
  induction news with
  | nil => trivial
  | cons p r ih => exact ⟨Nat.ne_of_lt (Heap.lt_size (N p (.head _)).1), ih fun q hq => N q (.tail _ hq)⟩

/-- for x in a list -/
theorem iter_listJ {target : Expr} {body orelse : List Stmt} {ax : Addr} {its : Array Value} (J : Nat → (Str → Option Value) → List (Addr × Obj) → Prop)
    (hh : A.handled = none) (F : Fr h₀ L s.heap m₀) (N : News h₀ L s.heap news₀) (hS : LCg.SrcAt h₀ ax its news₀) (hj : J 0 m₀ news₀)
    (turn : ∀ I i v m₁ news₁ oI h tk, i < its.size → its[i]? = some v → J i m₁ news₁ → LCg.Off1 I news₁ → LCg.SrcAt h₀ ax its news₁ → Fr h₀ L h m₁ → News h₀ L h ((I, oI) :: news₁) →
      wpAny (model prog w) A (assign target env v) (fun _ s' => wpAny (model prog w) A (execs body env) (TurnJ h₀ L I oI (LCg.SrcAt h₀ ax its) (J (i + 1)) { s with heap := h, toks := tk } Q) (fun _ _ => False) s') (fun _ _ => False) { s with heap := h, toks := tk })
    (done : ∀ m₁ news₁ h tk, J its.size m₁ news₁ → Fr h₀ L h m₁ → News h₀ L h news₁ → wpAny (model prog w) A (execs orelse env) Q (fun _ _ => False) { s with heap := h, toks := tk })
    (ht : ∀ I v, letOwnedTupleGo target (.ref I) v = pure () := by intro _ _; rfl) :
    wpAny (model prog w) A (pyIter (.ref ax)) (fun it s₂ => codeAny (model prog w) A (.forLoop target it body orelse env) (fun r s' => match r with | .ok f => Q f s' | .error e => cameBackBy (model prog w) A env E e s') s₂) E s := by
  have hl := hS.list F.keep N
  have hlt : ax < s.heap.objs.size := by obtain ⟨_, e, _⟩ := hl; exact Heap.lt_size e
  refine wpAny_pyIter_list hl ?_
  refine loopJ (s := { s with heap := s.heap.push { cls := .type "list_iterator", data := .fields #[.ref ax, .int 0 0] } }) J (Walks.list hh s.heap.objs.size ax (Nat.ne_of_lt hlt) its) (fun i h st => by obtain ⟨o, e, _⟩ := st.1; exact ⟨o, e⟩) LCg.list_st ⟨⟨_, Heap.get?_push_size _ rfl, rfl, rfl⟩, hl.push _⟩
    (F.push _) (N.grown fun b o e => Heap.get?_push_of_some _ e) (Nat.ne_of_lt F.ns.lt) (next_is_new F) (off1_lt N) hS hj (turn _) done (ht _)
/-- for x in a tuple of the base -/
theorem iter_tupJ {target : Expr} {body orelse : List Stmt} {ax : Addr} {its : Array Value} (J : Nat → (Str → Option Value) → List (Addr × Obj) → Prop)
    (hh : A.handled = none) (F : Fr h₀ L s.heap m₀) (N : News h₀ L s.heap news₀) (hT : IsTup h₀ ax its) (hj : J 0 m₀ news₀)
    (turn : ∀ I i v m₁ news₁ oI h tk, i < its.size → its[i]? = some v → J i m₁ news₁ → LCg.Off1 I news₁ → True → Fr h₀ L h m₁ → News h₀ L h ((I, oI) :: news₁) →
      wpAny (model prog w) A (assign target env v) (fun _ s' => wpAny (model prog w) A (execs body env) (TurnJ h₀ L I oI (fun _ => True) (J (i + 1)) { s with heap := h, toks := tk } Q) (fun _ _ => False) s') (fun _ _ => False) { s with heap := h, toks := tk })
    (done : ∀ m₁ news₁ h tk, J its.size m₁ news₁ → Fr h₀ L h m₁ → News h₀ L h news₁ → wpAny (model prog w) A (execs orelse env) Q (fun _ _ => False) { s with heap := h, toks := tk })
    (ht : ∀ I v, letOwnedTupleGo target (.ref I) v = pure () := by intro _ _; rfl) :
    wpAny (model prog w) A (pyIter (.ref ax)) (fun it s₂ => codeAny (model prog w) A (.forLoop target it body orelse env) (fun r s' => match r with | .ok f => Q f s' | .error e => cameBackBy (model prog w) A env E e s') s₂) E s := by
  have hl := IsTup.keeps hT F.keep
  have hlt : ax < s.heap.objs.size := hl.lt
  refine wpAny_pyIter_tuple hl ?_
  refine loopJ (s := { s with heap := s.heap.push { cls := .type "tuple_iterator", data := .fields #[.ref ax, .int 0 0] } }) J (Walks.tuple hh s.heap.objs.size ax (Nat.ne_of_lt hlt) its) (fun i h st => by obtain ⟨o, e, _⟩ := st.1; exact ⟨o, e⟩) (tuple_st hT) ⟨⟨_, Heap.get?_push_size _ rfl, rfl, rfl⟩, hl.push _⟩
    (F.push _) (N.grown fun b o e => Heap.get?_push_of_some _ e) (Nat.ne_of_lt F.ns.lt) (next_is_new F) (off1_lt N) trivial hj (turn _) done (ht _)
/-- for x in range(a, b) -/
theorem iter_rangeJ {target : Expr} {body orelse : List Stmt} {r : Addr} {a b : Int} {t u v : Tok} {n : Nat} (J : Nat → (Str → Option Value) → List (Addr × Obj) → Prop)
    (hh : A.handled = none) (F : Fr h₀ L s.heap m₀) (N : News h₀ L s.heap news₀) (hr : IsRange s.heap r a b 1 t u v) (ha : -1000 ≤ a) (hb : b = a + (n : Int)) (hn : n ≤ 1000) (ha2 : a ≤ 1000) (hj : J 0 m₀ news₀)
    (turn : ∀ I i t m₁ news₁ oI h tk, i < n → J i m₁ news₁ → LCg.Off1 I news₁ → Fr h₀ L h m₁ → News h₀ L h ((I, oI) :: news₁) →
      wpAny (model prog w) A (assign target env (.int (a + (i : Int)) t)) (fun _ s' => wpAny (model prog w) A (execs body env) (TurnJ h₀ L I oI (fun _ => True) (J (i + 1)) { s with heap := h, toks := tk } Q) (fun _ _ => False) s') (fun _ _ => False) { s with heap := h, toks := tk })
    (done : ∀ m₁ news₁ h tk, J n m₁ news₁ → Fr h₀ L h m₁ → News h₀ L h news₁ → wpAny (model prog w) A (execs orelse env) Q (fun _ _ => False) { s with heap := h, toks := tk })
    (ht : ∀ I v, letOwnedTupleGo target (.ref I) v = pure () := by intro _ _; rfl) :
    wpAny (model prog w) A (pyIter (.ref r)) (fun it s₂ => codeAny (model prog w) A (.forLoop target it body orelse env) (fun r s' => match r with | .ok f => Q f s' | .error e => cameBackBy (model prog w) A env E e s') s₂) E s := by
  have hsz : Builtin.Range.rangeSize a b 1 = (n : Int) := by rw [rangeSize_one]; split <;> omega
  refine wpAny_pyIter_range hr (small_up (by omega) (by omega) (by omega) (by omega)) ?_
  rw [hsz]
  refine loopJ (s := { s with heap := s.heap.push _ }) J (LCg.range_walks hh a n) (fun i h st => ⟨_, st⟩) LCg.range_st (by show IsRangeIter _ _ _ _ _; simpa using Heap.get?_push_size _ rfl)
    (F.push _) (N.grown fun b o e => Heap.get?_push_of_some _ e) (Nat.ne_of_lt F.ns.lt) (next_is_new F) (off1_lt N) trivial hj (fun i v m₁ news₁ oI h tk hi hP hJ ho _ F N => by obtain ⟨t, rfl⟩ := hP; exact turn _ i t m₁ news₁ oI h tk hi hJ ho F N) done (ht _)
end
end Mine

end

section
open PySem PySem.W PySem.Calls PyProof.Rows
set_option Elab.async false
set_option maxRecDepth 100000
set_option maxHeartbeats 4000000
namespace Mine
/-- a tuple of two ints -/
def PairAt (h : Heap) (v : Value) (p : Int × Int) : Prop := ∃ l t u, v = .ref l ∧ IsTup h l #[.int p.1 t, .int p.2 u]
theorem PairAt.keeps {h h' : Heap} {v : Value} {p : Int × Int} (x : PairAt h v p) (l : Addr) (e : v = .ref l) (k : ∀ o, h.get? l = some o → h'.get? l = some o) : PairAt h' v p := by
  obtain ⟨l', t, u, e', o, ho, r⟩ := x
  rw [e] at e'; cases e'
  exact ⟨l, t, u, e, o, k o ho, r⟩
section
variable {prog : Program} {w : World} {A : Around} {E : Value → Shared → Prop} {s : Shared}
theorem gt_int_rc {a b : Int} {t u : Tok} {Q : Value → Shared → Prop} (h : Q (.bool (decide (a > b))) s) : wpAny (model prog w) A (richCompare .Gt (.int a t) (.int b u)) Q E s :=
  CmpOf.ints_gt (prog := prog) (w := w) (A := A) (P := fun i v => ∃ t, v = .int (if i = 0 then a else b) t) (fun i => if i = 0 then a else b) (fun i v h => h) 0 1 _ _ _ _ _ ⟨t, rfl⟩ ⟨u, rfl⟩ (by simpa using h)
theorem gt_pair {x y : Value} {a b : Int × Int} {Q : Value → Shared → Prop} (hx : PairAt s.heap x a) (hy : PairAt s.heap y b) (hu : A.units < cLine) (h : Q (.bool (pairGt a b)) s) : wpAny (model prog w) A (richCompare .Gt x y) Q E s := by
  obtain ⟨l1, t1, u1, rfl, h1⟩ := hx
  obtain ⟨l2, t2, u2, rfl, h2⟩ := hy
  have T1 : s.TypeIs (.ref l1) "tuple" := h1.typeIs
  have T2 : s.TypeIs (.ref l2) "tuple" := h2.typeIs
  obtain ⟨o1, ho1, hc1, n1, hd1⟩ := h1
  obtain ⟨o2, ho2, hc2, n2, hd2⟩ := h2
  refine wpAny_richCompare_same_room (op := .Gt) T1 T2 PySem.F.slot_tuple_gt (wpAny_call_entry PySem.F.slot_tuple_gt T1 PySem.F.entry_tuple_gt ?_ (PySem.F.args_tuple_gt_2 _ _)) hu
  show wpAny _ _ (isInstance (.ref l2) (.type "tuple") >>= _) _ _ s
  refine wpAny_bind (wpAny_isInstance T2 isSubtype_tuple_tuple ?_)
  simp only [Bool.not_true, Bool.false_eq_true, if_false]
  refine wpAny_bind (wpAny_tupleItemsOf ho1 hd1 ?_)
  refine wpAny_bind (wpAny_tupleItemsOf ho2 hd2 ?_)
  simp only [List.zip_cons_cons, List.zip_nil_left, List.zip_nil_right]
  refine wpAny_bind ?_
  simp only [List.forIn_cons, List.forIn_nil]
  refine wpAny_bind (wpAny_bind (wpAny_eqBool_int ?_))
  by_cases e1 : a.1 = b.1
  · rw [show (a.1 == b.1) = true from by simp [e1]]
    simp only [Bool.not_true, Bool.false_eq_true, if_false]
    refine wpAny_pure (wpAny_bind (wpAny_bind (wpAny_eqBool_int ?_)))
    by_cases e2 : a.2 = b.2
    · rw [show (a.2 == b.2) = true from by simp [e2]]
      simp only [Bool.not_true, Bool.false_eq_true, if_false]
      refine wpAny_pure (wpAny_pure (wpAny_pure ⟨_, rfl, ?_⟩))
      have : pairGt a b = false := by simp [pairGt, e1, e2]
      rw [this] at h
      have hz : Builtin.Tuple.tupleCompareSizes CmpOp.Gt 2 2 = .bool false := by first | rfl | decide | kernel_rfl
      show Builtin.Tuple.tupleCompareSizes CmpOp.Gt 2 2 ≠ .notImplemented ∧ Q (Builtin.Tuple.tupleCompareSizes CmpOp.Gt 2 2) s
      rw [hz]
      exact ⟨(fun e => by cases e), h⟩
    · rw [show (a.2 == b.2) = false from by simp [e2]]
      simp only [Bool.not_false, if_true]
      refine wpAny_bind (wpAny_rule (wpAny_bind (gt_int_rc (wpAny_bind (wpAny_pure (wpAny_pure (wpAny_pure (wpAny_pure ⟨_, rfl, ?_⟩))))))))
      have : pairGt a b = decide (a.2 > b.2) := by simp [pairGt, e1]
      rw [this] at h
      exact ⟨by simp, h⟩
  · rw [show (a.1 == b.1) = false from by simp [e1]]
    simp only [Bool.not_false, if_true]
    refine wpAny_bind (wpAny_rule (wpAny_bind (gt_int_rc (wpAny_bind (wpAny_pure (wpAny_pure (wpAny_pure (wpAny_pure ⟨_, rfl, ?_⟩))))))))
    have : pairGt a b = decide (a.1 > b.1) := by simp [pairGt, e1]
    rw [this] at h
    exact ⟨by simp, h⟩
end
end Mine
namespace Mine
section
variable {prog : Program} {w : World} {A : Around} {E : Value → Shared → Prop} {s : Shared} {R : Result → Shared → Prop}
theorem mem_of {items : Array Value} {i : Nat} {v : Value} (h : items[i]? = some v) : v ∈ items.toList := by
  rw [← Array.getElem?_toList] at h; exact List.mem_of_getElem? h
theorem max_loop_pairs {I l : Addr} {items : Array Value} (hh : A.handled = none) (hu : A.in1.units < cLine) (hne : l ≠ I) (S : Addr) (hSI : S ≠ I) (hSl : S ≠ l) :
    ∀ (ps : List (Int × Int)) (i : Nat) (s : Shared) (vb : Value) (b : Int × Int) (c : Nat), s.heap.IsListIter I l i → s.heap.IsList l items → (∀ j p, ps[j]? = some p → ∃ v, items[i + j]? = some v ∧ PairAt s.heap v p ∧ v ≠ .ref S ∧ v ≠ .ref I) → i + ps.length = items.size →
    PairAt s.heap vb b → vb ∈ items.toList → vb ≠ .ref S → vb ≠ .ref I → s.heap.get? S = some { cls := .type "list", dict := none, data := .seq #[vb, vb] c, slots := #[] } →
    (∀ v h' tk, PairAt h' v (topPair b ps) → v ∈ items.toList → (∀ c o, c ≠ I → c ≠ S → s.heap.get? c = some o → h'.get? c = some o) → R (.ok (.ret v)) { s with heap := h', toks := tk }) →
    codeAny (model prog w) A (.builtin "max.loop" ⟨[.ref I, .none, .ref S], []⟩) R s := by
  have hname : (toString "max" ++ toString ".loop" : String) = "max.loop" := by decide
  have pk : ∀ {h h' : Heap} {v : Value} {p : Int × Int}, PairAt h v p → v ≠ .ref S → v ≠ .ref I → (∀ c o, c ≠ I → c ≠ S → h.get? c = some o → h'.get? c = some o) → PairAt h' v p := by
    intro h h' v p hp n1 n2 k
    obtain ⟨l', t, u, rfl, ht⟩ := hp
    exact PairAt.keeps ⟨l', t, u, rfl, ht⟩ l' rfl fun o e => k l' o (fun e9 => n2 (by rw [e9])) (fun e9 => n1 (by rw [e9])) e
  intro ps
  induction ps with
  | nil =>
    intro i s vb b c hit hl hps hn hb hm n1 n2 hS hR
    refine codeAny_builtin PySem.F.entry_max_loop ?_
    rw [Around.under_plainId PySem.F.plain_max_loop _]
    show wpAny _ A.in1 (seqItems? (.ref S) >>= _) _ _ s
    refine wpAny_bind (wpAny_seqItems hS rfl ?_)
    show wpAny _ A.in1 (tryCatch (pyNext (.ref I)) _ >>= _) _ _ s
    refine wpAny_bind (wpAny_tryCatch (wpAny_pyNext_list_end (A := A.in1) hh hit hl (Array.getElem?_eq_none (by simp at hn; omega)) fun h' he => ?_))
    have hS' : h'.get? S = some _ := he S _ hSI hS
    show wpAny _ A.in1 (updateSeq S (fun _ => #[]) >>= _) _ _ _
    refine wpAny_bind ?_
    refine wpAny_updateSeq hS' rfl (wpAny_bind (wpAny_letGo (wpAny_pure ?_)))
    have k : ∀ c o, c ≠ I → c ≠ S → s.heap.get? c = some o → (h'.update S (Obj.mapSeq fun _ => #[])).get? c = some o := fun c o h1 h2 e => (Heap.get?_update_other _ _ (Ne.symm h2)).trans (he c o h1 e)
    exact hR vb _ s.toks (pk hb n1 n2 k) hm k
  | cons p ps ih =>
    intro i s vb b c hit hl hps hn hb hm n1 n2 hS hR
    obtain ⟨v, hv, hp, m1, m2⟩ := hps 0 p rfl
    rw [Nat.add_zero] at hv
    refine codeAny_builtin PySem.F.entry_max_loop ?_
    rw [Around.under_plainId PySem.F.plain_max_loop _]
    show wpAny _ A.in1 (seqItems? (.ref S) >>= _) _ _ s
    refine wpAny_bind (wpAny_seqItems hS rfl ?_)
    show wpAny _ A.in1 (tryCatch (pyNext (.ref I)) _ >>= _) _ _ s
    refine wpAny_bind (wpAny_tryCatch (wpAny_pyNext_list_item hit hl hv fun h' hit' hs' => ?_))
    have hS' : h'.get? S = some _ := hs'.extBut _ _ hSI hS
    have hl' : h'.IsList l items := hl.extBut hs'.extBut hne
    have k1 : ∀ c o, c ≠ I → c ≠ S → s.heap.get? c = some o → h'.get? c = some o := fun c o h1 _ e => hs'.extBut _ _ h1 e
    have hp' := pk hp m1 m2 k1
    have hb' := pk hb n1 n2 k1
    show wpAny _ A.in1 (tryCatch (holding [v, v] (richCompare .Gt v vb >>= _)) _ >>= _) _ _ _
    refine wpAny_bind (wpAny_tryCatch (wpAny_holding (wpAny_bind (gt_pair (A := A.in1) hp' hb' hu ?_))))
    refine wpAny_bind (wpAny_holding (wpAny_truthy_bool ?_))
    refine wpAny_bind (wpAny_letGo (wpAny_pure ?_))
    have rest : ∀ {h'' : Heap}, (∀ c o, c ≠ I → c ≠ S → s.heap.get? c = some o → h''.get? c = some o) → ∀ j q, ps[j]? = some q → ∃ v, items[i + 1 + j]? = some v ∧ PairAt h'' v q ∧ v ≠ .ref S ∧ v ≠ .ref I := by
      intro h'' k j q hq
      obtain ⟨v9, e1, e2, e3, e4⟩ := hps (j + 1) q (by simpa using hq)
      exact ⟨v9, by rw [← e1]; congr 1; omega, pk e2 e3 e4 k, e3, e4⟩
    cases hc : pairGt p b with
    | true =>
      simp only [if_true]
      refine wpAny_bind ?_
      refine wpAny_updateSeq hS' rfl (wpAny_bind (wpAny_letGo ?_))
      rw [hname]
      have k2 : ∀ c o, c ≠ I → c ≠ S → s.heap.get? c = some o → (h'.update S (Obj.mapSeq fun _ => #[v, v])).get? c = some o := fun c o h1 h2 e => (Heap.get?_update_other _ _ (Ne.symm h2)).trans (k1 c o h1 h2 e)
      refine wpAny_pure ⟨plainId_quiet PySem.F.plain_max_loop _, ih (i + 1) _ v p _ ?_ ?_ (rest k2) (by simp at hn; omega) (pk hp m1 m2 k2) (mem_of hv) m1 m2 (Heap.get?_update_self _ hS' rfl) fun v' h'' tk'' hP' hm' hk'' => ?_⟩
      · exact hit'.at fun o e => (Heap.get?_update_other _ _ hSI).trans e
      · exact hl'.at fun o e => (Heap.get?_update_other _ _ hSl).trans e
      · refine hR v' h'' tk'' ?_ hm' fun c o h1 h2 e => hk'' c o h1 h2 (k2 c o h1 h2 e)
        unfold topPair; rw [if_pos hc]; exact hP'
    | false =>
      simp only [Bool.false_eq_true, if_false]
      refine wpAny_bind (wpAny_letGo ?_)
      rw [hname]
      refine wpAny_pure ⟨plainId_quiet PySem.F.plain_max_loop _, ih (i + 1) _ vb b c hit' hl' (rest k1) (by simp at hn; omega) hb' hm n1 n2 hS' fun v' h'' tk'' hP' hm' hk'' => ?_⟩
      refine hR v' h'' tk'' ?_ hm' fun c o h1 h2 e => hk'' c o h1 h2 (k1 c o h1 h2 e)
      unfold topPair; rw [if_neg (by simp [hc])]; exact hP'
end
end Mine
namespace Mine
section
variable {prog : Program} {w : World} {A : Around} {E : Value → Shared → Prop} {s : Shared}
theorem call_max_pairs {l : Addr} {items : Array Value} {p : Int × Int} {ps : List (Int × Int)} {Q : Value → Shared → Prop} (hh : A.handled = none) (hu : A.in1.units < cLine) (hl : s.heap.IsList l items)
    (hps : ∀ (j : Nat) (q : Int × Int), (p :: ps)[j]? = some q → ∃ v, items[j]? = some v ∧ PairAt s.heap v q) (hn : (p :: ps).length = items.size)
    (h : ∀ v h' tk, PairAt h' v (topPair p ps) → v ∈ items.toList → (∀ c o, s.heap.get? c = some o → h'.get? c = some o) → Q v { s with heap := h', toks := tk }) :
    wpAny (model prog w) A (call (.builtin "max") [.ref l]) Q E s := by
  have hname : (toString "max" ++ toString ".loop" : String) = "max.loop" := by decide
  have hlt : l < s.heap.objs.size := by obtain ⟨_, e, _⟩ := hl; exact Heap.lt_size e
  refine call_function_tree PySem.F.kind_max PySem.F.plain_max PySem.F.entry_max (PySem.F.args_max1 _) ?_
  show wpAny _ A.in1 (Builtin.Builtins.bindParams "max" ["key", "default"] 0 ⟨[], []⟩ >>= _) _ _ s
  refine wpAny_bind (wpAny_of_eq (show Builtin.Builtins.bindParams "max" ["key", "default"] 0 ⟨[], []⟩ = pure [none, none] from rfl) ?_)
  refine wpAny_bind (wpAny_pure ?_)
  refine wpAny_bind (wpAny_pyIter_list hl ?_)
  refine wpAny_bind (wpAny_newObj_type ?_)
  rw [hname]
  generalize hH : (s.heap.push { cls := .type "list_iterator", data := .fields #[.ref l, .int 0 0] }) = H1
  have hIsz : H1.objs.size = s.heap.objs.size + 1 := by rw [← hH, Heap.size_push]
  have gI : H1.get? s.heap.objs.size = some { cls := .type "list_iterator", data := .fields #[.ref l, .int 0 0] } := by rw [← hH]; exact Heap.get?_push_size _ rfl
  have k1 : ∀ c o, s.heap.get? c = some o → H1.get? c = some o := fun c o e => by rw [← hH]; exact Heap.get?_push_of_some _ e
  generalize hH2 : H1.push { cls := .type "list", data := .seq #[] } = H2
  have gS : H2.get? H1.objs.size = some { cls := .type "list", data := .seq #[] } := by rw [← hH2]; exact Heap.get?_push_size _ rfl
  have k2 : ∀ c o, H1.get? c = some o → H2.get? c = some o := fun c o e => by rw [← hH2]; exact Heap.get?_push_of_some _ e
  have hSI : H1.objs.size ≠ s.heap.objs.size := by rw [hIsz]; exact Nat.ne_of_gt (Nat.lt_succ_self _)
  have hSl : H1.objs.size ≠ l := by rw [hIsz]; exact Nat.ne_of_gt (Nat.lt_succ_of_lt hlt)
  have hne : l ≠ s.heap.objs.size := Nat.ne_of_lt hlt
  refine wpAny_pure ⟨plainId_quiet PySem.F.plain_max_loop _, ?_⟩
  refine codeAny_builtin PySem.F.entry_max_loop ?_
  rw [Around.under_plainId PySem.F.plain_max_loop _]
  show wpAny _ A.in1 (seqItems? (.ref H1.objs.size) >>= _) _ _ _
  refine wpAny_bind (wpAny_seqItems gS rfl ?_)
  obtain ⟨v, hv, hp⟩ := hps 0 p rfl
  have hit : H2.IsListIter s.heap.objs.size l 0 := ⟨_, k2 _ _ gI, rfl, rfl⟩
  have hl2 : H2.IsList l items := (hl.at fun o e => k1 _ _ e).at fun o e => k2 _ _ e
  refine wpAny_bind (wpAny_tryCatch (wpAny_pyNext_list_item hit hl2 hv fun h' hit' hs' => ?_))
  have hS' : h'.get? H1.objs.size = some _ := hs'.extBut _ _ hSI gS
  have hl' : h'.IsList l items := hl2.extBut hs'.extBut hne
  show wpAny _ A.in1 (updateSeq H1.objs.size (fun _ => #[v, v]) >>= _) _ _ _
  refine wpAny_bind ?_
  refine wpAny_updateSeq hS' rfl ?_
  rw [hname]
  have small : ∀ {v : Value} {q : Int × Int}, PairAt s.heap v q → v ≠ .ref H1.objs.size ∧ v ≠ .ref s.heap.objs.size := by
    rintro v q ⟨l', t, u, rfl, ht⟩
    have : l' < s.heap.objs.size := ht.lt
    exact ⟨fun e => by injection e with e; rw [e, hIsz] at this; exact absurd this (Nat.not_lt.mpr (Nat.le_succ _)), fun e => by injection e with e; rw [e] at this; exact Nat.lt_irrefl _ this⟩
  have k3 : ∀ c o, s.heap.get? c = some o → (h'.update H1.objs.size (Obj.mapSeq fun _ => #[v, v])).get? c = some o := fun c o e => by
    have hc : c < s.heap.objs.size := Heap.lt_size e
    refine (Heap.get?_update_other _ _ ?_).trans (hs'.extBut _ _ ?_ (k2 _ _ (k1 _ _ e)))
    · exact fun e9 => by have e9 : H1.objs.size = c := e9; rw [← e9, hIsz] at hc; exact absurd hc (Nat.not_lt.mpr (Nat.le_succ _))
    · exact fun e9 => by rw [e9] at hc; exact Nat.lt_irrefl _ hc
  have pk3 : ∀ {v9 : Value} {q : Int × Int}, PairAt s.heap v9 q → PairAt (h'.update H1.objs.size (Obj.mapSeq fun _ => #[v, v])) v9 q := by
    rintro v9 q ⟨l', t, u, rfl, ht⟩
    exact ⟨l', t, u, rfl, ht.keeps k3⟩
  refine wpAny_pure ⟨plainId_quiet PySem.F.plain_max_loop _, max_loop_pairs (A := A) (l := l) (items := items) hh hu hne H1.objs.size hSI hSl ps 1 _ v p _ ?_ ?_ ?_ (by simp at hn; omega) (pk3 hp) (mem_of hv) (small hp).1 (small hp).2 (Heap.get?_update_self _ hS' rfl) fun v' h'' tk'' hP' hm' hk'' => ?_⟩
  · exact hit'.at fun o e => (Heap.get?_update_other _ _ hSI).trans e
  · exact hl'.at fun o e => (Heap.get?_update_other _ _ hSl).trans e
  · intro j q hq
    obtain ⟨v9, e1, e2⟩ := hps (j + 1) q (by simpa using hq)
    exact ⟨v9, by rw [Nat.add_comm]; exact e1, pk3 e2, (small e2).1, (small e2).2⟩
  · refine h v' h'' tk'' hP' hm' fun c o e => hk'' c o ?_ ?_ (k3 c o e)
    · exact fun e9 => by have := Heap.lt_size e; rw [e9] at this; exact Nat.lt_irrefl _ this
    · exact fun e9 => by have := Heap.lt_size e; rw [e9, hIsz] at this; exact absurd this (Nat.not_lt.mpr (Nat.le_succ _))
end
end Mine

end

section
open PySem PySem.W PySem.Calls PyProof.Rows
set_option Elab.async false
set_option maxRecDepth 100000
namespace Mine
/-- what stands behind a statement: the frame, a ledger and the names by P -/
def AfterJ (h₀ : Heap) (L : Addr) (s : Shared) (P : (Str → Option Value) → List (Addr × Obj) → Prop) (f : Flow) (s' : Shared) : Prop :=
  f = .next ∧ ∃ h' tk m' news', s' = { s with heap := h', toks := tk } ∧ Fr h₀ L h' m' ∧ News h₀ L h' news' ∧ P m' news'
theorem AfterJ.intro {h₀ : Heap} {L : Addr} {s : Shared} {P : (Str → Option Value) → List (Addr × Obj) → Prop} {h' : Heap} {tk : Nat} {m' : Str → Option Value} {all : List (Addr × Obj)}
    (F : Fr h₀ L h' m') (N : News h₀ L h' all) (news' : List (Addr × Obj)) (sub : ∀ p ∈ news', p ∈ all) (j : P m' news') : AfterJ h₀ L s P .next { s with heap := h', toks := tk } :=
  ⟨rfl, h', tk, m', news', rfl, F, fun p hp => N p (sub p hp), j⟩
theorem mid_J {M : Model} {A : Around} {E : Value → Shared → Prop} {s : Shared} {t : Sem Flow} {Q : Flow → Shared → Prop} {h₀ : Heap} {L : Addr} (P : (Str → Option Value) → List (Addr × Obj) → Prop)
    (hw : wpAny M A t (AfterJ h₀ L s P) E s)
    (k : ∀ h' tk m' news', Fr h₀ L h' m' → News h₀ L h' news' → P m' news' → Q .next { s with heap := h', toks := tk }) : wpAny M A t Q E s :=
  wpAny_mono hw (fun f s' h => by obtain ⟨rfl, h', tk, m', news', rfl, F, N, p⟩ := h; exact k h' tk m' news' F N p) fun _ _ e => e
theorem Fr.as {h₀ h : Heap} {L : Addr} {m m' : Str → Option Value} (F : Fr h₀ L h m) (e : m = m') : Fr h₀ L h m' := e ▸ F
theorem len_bound {prog : Program} {w : World} {A : Around} {E : Value → Shared → Prop} {s : Shared} {x : Str} {t : Tok} {Q : Value → Shared → Prop} (hb : x.length ≤ 1000) (h : ∀ tk t', Q (.int (x.length : Nat) t') { s with toks := tk }) :
    wpAny (model prog w) A (call (.builtin "len") [.str x t]) Q E s := PySem.P.len_str (by omega) (h _ _)
end Mine
namespace Mine
theorem bools_of {β : Type} (f : β → Bool) (d : β) : ∀ {ys : List Value} {xs : List β}, ys.length = xs.length → (∀ (i : Nat) (v : Value), ys[i]? = some v → v = .bool (f (xs.getD i d))) → LSm.BoolsAre ys (xs.map f)
  | [], [], _, _ => .nil
  | [], _ :: _, h, _ => by simp at h
  | _ :: _, [], h, _ => by simp at h
  | y :: ys, x :: xs, h, g => by
    have e : y = .bool (f x) := g 0 y rfl
    subst e
    exact .cons _ (bools_of f d (by simpa using h) fun i v hv => g (i + 1) v (by simpa using hv))
end Mine
namespace Mine
theorem append_M {prog : Program} {w : World} {A : Around} {E : Value → Shared → Prop} {s : Shared} {h₀ : Heap} {L D : Addr} {m : Str → Option Value} {news : List (Addr × Obj)} {its : Array Value} {n : Nat} {x : Value} {Q : Value → Shared → Prop}
    (F : Fr h₀ L s.heap m) (N : News h₀ L s.heap news) (hm : (D, listOf its n) ∈ news) (rest : List (Addr × Obj)) (hr : ∀ p ∈ rest, p ∈ news ∧ p.1 ≠ D)
    (h : ∀ h', Fr h₀ L h' m → News h₀ L h' ((D, listOf (its.push x) (n + 1)) :: rest) → Q .none { s with heap := h' }) (hsz : its.size ≤ sizeLine) : wpAny (model prog w) A (call (.builtin "list.append") [.ref D, x]) Q E s := by
  have z := N (D, listOf its n) hm
  refine append_at (hsz := hsz) z.1 fun h' hs ho' => h h' (F.change hs z.2.1 z.2.2) fun p hp => ?_
  rcases List.mem_cons.mp hp with rfl | hp
  · exact ⟨ho', z.2⟩
  · have y := hr p hp
    exact ⟨hs.extBut _ _ y.2 (N p y.1).1, (N p y.1).2⟩
end Mine
namespace Mine
theorem append_8 {prog : Program} {w : World} {A : Around} {E : Value → Shared → Prop} {s : Shared} {h₀ : Heap} {L D : Addr} {m : Str → Option Value} {own : List (Addr × Obj)} {d y i2 i1 c3 c2 c1 : Addr × Obj} {its : List Value} {n : Nat} {x : Value} {Q : Value → Shared → Prop}
    (F : Fr h₀ L s.heap m) (N : News h₀ L s.heap (d :: y :: i2 :: i1 :: (D, listOf its.toArray n) :: c3 :: c2 :: c1 :: own)) (hd : d.1 ≠ D) (h2 : i2.1 ≠ D) (h1 : i1.1 ≠ D) (k3 : c3.1 ≠ D) (k2 : c2.1 ≠ D) (k1 : c1.1 ≠ D) (hown : ∀ p ∈ own, p.1 ≠ D)
    (h : ∀ h', Fr h₀ L h' m → News h₀ L h' (i2 :: i1 :: (D, listOf (its ++ [x]).toArray (n + 1)) :: c3 :: c2 :: c1 :: d :: own) → Q .none { s with heap := h' }) (hsz : its.toArray.size ≤ sizeLine) : wpAny (model prog w) A (call (.builtin "list.append") [.ref D, x]) Q E s := by
  refine append_M (n := n) F N (by simp) (i2 :: i1 :: c3 :: c2 :: c1 :: d :: own) (fun p hp => ?_) (fun h' F' N' => h h' F' fun p hp => N' p ?_) hsz
  · simp only [List.mem_cons] at hp ⊢
    rcases hp with rfl | rfl | rfl | rfl | rfl | rfl | hp
    · exact ⟨by simp, h2⟩
    · exact ⟨by simp, h1⟩
    · exact ⟨by simp, k3⟩
    · exact ⟨by simp, k2⟩
    · exact ⟨by simp, k1⟩
    · exact ⟨by simp, hd⟩
    · exact ⟨by simp [hp], hown p hp⟩
  · rw [List.push_toArray]
    simp only [List.mem_cons] at hp ⊢
    rcases hp with rfl | rfl | rfl | rfl | rfl | rfl | rfl | hp <;> simp [*]
end Mine

end

section
open PySem PySem.W PySem.Calls PyProof.Rows
set_option Elab.async false
set_option maxRecDepth 100000
set_option maxHeartbeats 8000000
namespace Mine
local macro_rules | `(tactic| walk_at "mine enter") => `(tactic| (refine' enter ?k3 ?k5 ?k6 ?k7 ?k8 ?k9 ?kB ?_ ?c2 ?c3 ?c4 ?c5; (case k3 => k_asm); (case k5 => k_asm); (case k6 => k_is); (case k7 => k_is); (case k8 => ktr_room); (case k9 => exact BindsTo.of_eq rfl); (case c5 => decide); (case kB => exact locs rfl); (case c2 => exact rfl); (case c3 => exact rfl); (case c4 => exact rfl); k_whole; intro L' h' F' N'; (try dsimp only); (try k_fold)))
local macro_rules | `(tactic| walk_at "mine enterV") => `(tactic| ((case k3 => k_asm); (case k5 => k_asm); (case k6 => k_is); (case k7 => k_is); (case k8 => ktr_room); (case c5 => decide); (case kB => exact fun _ => locs rfl); (case c2 => exact rfl); (case c3 => exact rfl); (case c4 => exact rfl); (case kG => exact fun _ => rfl)))
local macro_rules | `(tactic| walk_at "mine go") => `(tactic| repeat' ((fail_if_success (with_reducible show wpAny _ _ (pyIter _) _ _ _)); (fail_if_success (with_reducible show wpAny _ _ (exec (Stmt.While _ _ _ _) _) _ _ _)); (fail_if_success (with_reducible show LCg.CompSrc _ _ _ _ _ _ _ _ _ _ _ _ _ _)); (first | (k_unfold; (try dsimp only)) | (k_end; wrow_close) | walk1 | (dsimp only; walk1) | (leave1; walk_say "STEP leave1"; try dsimp only) | fail "no step")))
local macro_rules | `(tactic| walk_at "mine tup") => `(tactic| first | (rename Fr _ _ _ _ => F9; exact F9.tup (by assumption)) | exact News.isTup (by k_asm) (by k_mem))
local macro_rules | `(tactic| walk_at "mine lst") => `(tactic| first | exact News.isList (by k_asm) (by k_mem) | (rename Fr _ _ _ _ => F9; exact F9.lst (by assumption)))
local macro_rules | `(tactic| walk_at "truthy ref") => `(tactic| (k_here; (refine tup_truthy (by walk_at "mine tup") (by assumption) (by omega) ?_ ?_ <;> intro he')))
local macro_rules | `(tactic| walk_at "call builtin:len") => `(tactic| (k_here; (first | refine tup_len (by walk_at "mine tup") (by assumption) (by omega) ?_ | refine lst_len (by walk_at "mine lst") (by assumption) (by omega) ?_)))
local macro_rules | `(tactic| walk_at "StarOf ref") => `(tactic| (k_here; (first | refine tup_star (by k_asm) (by k_asm) (by walk_at "mine tup") (by assumption) ?_ | refine lst_star (by k_asm) (by k_asm) (by walk_at "mine lst") (by assumption) ?_); intro h' F' N'; (try dsimp only [List.nil_append, List.cons_append])))
local macro_rules | `(tactic| walk_at "call builtin:all") => `(tactic| (k_here; (refine tup_all (by rfl) (by k_asm) (by k_asm) (by walk_at "mine tup") (by assumption) (by assumption) ?_); intro h' tk' F' N'))
local macro_rules | `(tactic| walk_at "call type:list") => `(tactic| (k_here; (refine list_copyKT (by k_asm) (by k_asm) (by walk_at "mine tup") ?_ (by simp only [List.size_toArray, sizeLine]; omega)); intro D' c' h' F' N' l1'))
local macro_rules | `(tactic| k_room) => `(tactic| ktr_room)
local macro_rules | `(tactic| k_inst) => `(tactic| first | (refine' inst_up ?iF ?i1 ?i2; (case iF => k_asm); (case i1 => assumption); (case i2 => assumption)) | fail "no object")
local macro_rules | `(tactic| walk_at "eval Call Attribute") => `(tactic| (k_here; (with_reducible show wpAny _ _ (eval (Expr.Call (Expr.Attribute _ _ _) [Expr.Starred _ _] [] _) _) _ _ _); refine methodCall_S ?_))
local macro_rules | `(tactic| walk_at "callWith ref") => `(tactic| (k_here; (with_reducible show wpAny _ _ (callWith _ (Value.ref _) _ (backTo _ (starEach [Expr.Starred _ _] _)) []) _ _ _); k_dflt (refine' callWith_SM ?kX ?k0 ?k1 ?k2 ?_; (case kX => k_asm); (case k0 => k_asm); (case k1 => k_mem); (case k2 => k_is); k_whole)))
local macro_rules | `(tactic| walk_at "getAttr ref") => `(tactic| (k_here; k_dflt (refine' get_sm ?k1 ?k2 ?k4 ?k5 ?k6 ?k7 ?k8 ?k9 ?k10 ?k11 ?k12 ?k13 ?_; (case k4 => k_inst); (case k1 => k_asm); (case k2 => k_asm); (case k7 => k_is); (case k5 => k_is); (case k6 => k_is); (case k8 => k_is); (case k9 => k_is); (case k10 => k_is); (case k11 => k_handed); (case k12 => decide +kernel); (case k13 => k_get); k_whole)))
local macro_rules | `(tactic| walk_at "mine tell") => `(tactic| ((case tB => k_asm); (case tF => k_asm); (case tX => k_asm); (case tN => k_asm); (case tT => k_asm); (case tf => rfl); (case tk => rfl); (case td => first | ktr_room | (dsimp only; omega) | (simp only [depth_deeper]; omega)); (case tu => first | omega | (dsimp only; omega) | k_units)))
local macro_rules | `(tactic| walk_at "mine enterVC") => `(tactic| ((case k3 => k_asm); (case k5 => k_asm); (case k6 => k_is); (case k7 => k_is); (case k8 => ktr_room); (case kK => exact fun _ => rfl); (case kN => decide +kernel); (case c2 => exact rfl); (case c3 => exact rfl); (case c4 => exact rfl); (case kG => exact fun _ => rfl)))
local macro_rules | `(tactic| walk_at "call type:map") => `(tactic| (k_here; (first | refine mapTup_N (prog := _) (w := _) (by k_asm) (by k_asm) (by walk_at "mine tup") (by assumption) (by assumption) ?_ | refine mapLst_N (by k_asm) (by k_asm) (by walk_at "mine lst") (by assumption) (by assumption) ?_); intro M' h' F' N' mo'))
local macro_rules | `(tactic| walk_at "call builtin:sum") => `(tactic| (k_here; refine sumMap_N (by rfl) (by assumption) (by k_asm) (by k_asm) ?_; intro h' tk' t' F' N'))
local macro_rules | `(tactic| walk_at "call builtin:max") => `(tactic| (k_here; refine maxMap_N (by rfl) (by assumption) (by k_asm) (by k_asm) (by assumption) ?_; intro h' tk' t' k' hk' F' N'))
local macro_rules | `(tactic| walk_at "mine slice") => `(tactic| ((with_reducible rename Fr _ _ _ _ => F'); (with_reducible rename News _ _ _ _ => N'); first
  | ((with_reducible show wpAny _ _ (subscriptTail _ (Expr.Slice none (some _) none _) _ _) _ _ _); (refine slice_strN_ns (hsz := ?hsz) (s := ⟨_, _, _, _, _⟩) F' N' ?_); (case hsz => (unfold sizeLine; omega)))
  | ((with_reducible show wpAny _ _ (subscriptTail _ (Expr.Slice (some _) none none _) _ _) _ _ _); (refine slice_strN_sn (hsz := ?hsz) (s := ⟨_, _, _, _, _⟩) F' N' ?_); (case hsz => (unfold sizeLine; omega)))
  | ((with_reducible show wpAny _ _ (subscriptTail _ (Expr.Slice (some _) (some _) none _) _ _) _ _ _); (refine slice_strN_ss (hsz := ?hsz) (s := ⟨_, _, _, _, _⟩) F' N' ?_); (case hsz => (unfold sizeLine; omega)))))
local macro_rules | `(tactic| walk_at "subscriptTail") => `(tactic| (k_here; (with_reducible show wpAny _ _ (subscriptTail _ (Expr.Slice _ _ _ _) (Value.str _ _) (Value.ref _)) _ _ _); walk_at "mine slice"; intro _ _ _ _ _))
local macro_rules | `(tactic| walk_at "eval ListComp") => `(tactic| (k_here; k_dflt (refine LCg.ListComp_U (F₀ := by k_asm) (by with_unfolding_all rfl) (by decide) (by rfl) (by decide) (by rfl) ?_)))
local macro_rules | `(tactic| walk_at "exec For") => `(tactic| (k_here; refine wpAny_For ?_))
local macro_rules | `(tactic| walk_at "mine to if") => `(tactic| repeat' ((fail_if_success (with_reducible show wpAny _ _ (exec (Stmt.If _ _ _ _) _) _ _ _)); (first | (k_unfold; (try dsimp only)) | (k_end; wrow_close) | walk1 | (dsimp only; walk1) | (leave1; walk_say "STEP leave1"; try dsimp only) | fail "no step")))
local macro_rules | `(tactic| walk_at "call builtin:len") => `(tactic| (k_here; (with_reducible show wpAny _ _ (call (Value.builtin "len") [Value.str _ _]) _ _ _); (refine len_bound (by first | assumption | omega) ?_); intro tk' t'))
theorem getD_tx (ts : List Str) (i : Nat) : (ts.map tx).getD i [] = tx (ts.getD i Str.empty) := by
  rw [List.getD_eq_getElem?_getD, List.getD_eq_getElem?_getD, List.getElem?_map]
  cases ts[i]? <;> rfl
local macro_rules | `(tactic| walk_at "call builtin:all") => `(tactic| (k_here; (refine LSm.all_bools (by k_asm) (by k_asm) (by rfl) (by walk_at "mine lst") (by assumption) ?_); intro h' tk' F' N'))
/-- the ledger's tuples that the list of items names, in order -/
def FoundIs (own : List (Addr × Obj)) (items : List Value) (ps : List (Int × Int)) : Prop :=
  items.length = ps.length ∧ ∀ (j : Nat) (q : Int × Int), ps[j]? = some q → ∃ la t u, items[j]? = some (.ref la) ∧ (la, ({ cls := .type "tuple", data := .seq #[.int q.1 t, .int q.2 u] } : Obj)) ∈ own
theorem off1_mem {I : Addr} : ∀ {l : List (Addr × Obj)}, LCg.Off1 I l → ∀ p ∈ l, p.1 ≠ I
  | [], _, p, hp => by cases hp
  | q :: r, h, p, hp => by
    rcases List.mem_cons.mp hp with rfl | hp
    · exact h.1
    · exact off1_mem h.2 p hp
theorem off1_of {I : Addr} : ∀ {l : List (Addr × Obj)}, (∀ p ∈ l, p.1 ≠ I) → LCg.Off1 I l
  | [], _ => trivial
  | q :: r, h => ⟨h q (.head _), off1_of fun p hp => h p (.tail _ hp)⟩
theorem ownoff_add {own : List (Addr × Obj)} {adr : List Addr} {I : Addr} (h : OwnOff own adr) (h2 : ∀ p ∈ own, p.1 ≠ I) : OwnOff own (I :: adr) := fun p hp b hb => by
  rcases List.mem_cons.mp hb with rfl | hb
  · exact h2 p hp
  · exact h p hp b hb
theorem foundis_snoc {own : List (Addr × Obj)} {items : List Value} {ps : List (Int × Int)} {q : Int × Int} {la : Addr} {t u : Tok} (h : FoundIs own items ps) :
    FoundIs ((la, ({ cls := .type "tuple", data := .seq #[.int q.1 t, .int q.2 u] } : Obj)) :: own) (items ++ [.ref la]) (ps ++ [q]) := by
  refine ⟨by simp [h.1], fun j q' hj => ?_⟩
  rcases Nat.lt_or_ge j ps.length with hlt | hge
  · rw [List.getElem?_append_left hlt] at hj
    obtain ⟨la', t', u', e1, e2⟩ := h.2 j q' hj
    exact ⟨la', t', u', by rw [List.getElem?_append_left (by rw [h.1]; exact hlt)]; exact e1, .tail _ e2⟩
  · rw [List.getElem?_append_right hge] at hj
    have hj0 : j - ps.length = 0 := by
      rcases Nat.eq_zero_or_pos (j - ps.length) with h0 | h0
      · exact h0
      · rw [List.getElem?_eq_none (by simp; omega)] at hj; cases hj
    rw [hj0] at hj
    simp at hj
    subst hj
    have e : j = items.length := by rw [h.1]; omega
    subst e
    exact ⟨la, t, u, by simp, .head _⟩
theorem foundis_snoc' {own : List (Addr × Obj)} {items : List Value} {ps : List (Int × Int)} {q : Int × Int} {la : Addr} {t u : Tok} {a b : Int} (h : FoundIs own items ps) (e1 : q.1 = a) (e2 : q.2 = b) :
    FoundIs ((la, ({ cls := .type "tuple", data := .seq #[.int a t, .int b u] } : Obj)) :: own) (items ++ [.ref la]) (ps ++ [q]) := by
  subst e1; subst e2; exact foundis_snoc h
theorem ownoff_tail {own : List (Addr × Obj)} {adr : List Addr} {I : Addr} (h : OwnOff own (I :: adr)) : OwnOff own adr := fun q hq b hb => h q hq b (.tail _ hb)
theorem inAll_map (ts : List Str) (p : Tx) : inAll (ts.map tx) p = (ts.map fun y => decide (p <:+: tx y)).all id := by
  simp [inAll, List.all_map, Function.comp_def]
theorem rowPairs_len (lead : Tx) (ts : List Tx) (a n : Nat) : (rowPairs lead ts a n).length ≤ n := by
  unfold rowPairs
  rw [List.length_map]
  exact Nat.le_trans (List.length_filter_le _ _) (by simp)
theorem foundTo_len (lead : Tx) (ts : List Tx) : ∀ i, (foundTo lead ts i).length ≤ i * lead.length
  | 0 => by simp [foundTo]
  | i + 1 => by
    rw [foundTo_succ, List.length_append, Nat.succ_mul]
    have h1 := foundTo_len lead ts i
    have h2 := rowPairs_len lead ts i (lead.length - i)
    omega
theorem contains_bool (x y : Str) : Txt.contains x y = decide (tx y <:+: tx x) := by
  rw [Bool.eq_iff_iff, contains_iff, decide_eq_true_iff]
theorem lead_cut {lead : Str} {i j : Nat} (hi : i < lead.length) (hj : j < lead.length - i) (_h : lead.length ≤ 20) : Txt.slice lead (some (0 + (i : Int))) (some (0 + (i : Int) + (1 + (j : Int)))) = Mine.st (((tx lead).drop i).take (j + 1)) := by
  rw [show (0 + (i : Int)) = ((i : Nat) : Int) by omega, show ((i : Nat) : Int) + (1 + (j : Int)) = ((i + (j + 1) : Nat) : Int) by omega, slice_ss lead (by omega) (by omega), show i + (j + 1) - i = j + 1 by omega]
theorem ownoff_cons {own : List (Addr × Obj)} {adr : List Addr} {p : Addr × Obj} (h : OwnOff own adr) (h2 : ∀ b ∈ adr, p.1 ≠ b) : OwnOff (p :: own) adr := fun q hq b hb => by
  rcases List.mem_cons.mp hq with rfl | hq
  · exact h2 b hb
  · exact h q hq b hb
theorem news_rot {h₀ h : Heap} {L : Addr} {x y : Addr × Obj} {z : List (Addr × Obj)} (N : News h₀ L h (x :: y :: z)) : News h₀ L h (x :: (z ++ [y])) := fun p hp => N p (by
  simp only [List.mem_cons, List.mem_append, List.not_mem_nil, or_false] at hp ⊢
  rcases hp with h | h | h
  · exact .inl h
  · exact .inr (.inr h)
  · exact .inr (.inl h))
/-- the first shortest, walked to i -/
def leadS (ts : List Str) (i : Nat) : Str := (ts.take i).foldl (fun m x => if x.length < m.length then x else m) (ts.getD 0 Str.empty)
theorem leadS_succ {ts : List Str} {i : Nat} (h : i < ts.length) : leadS ts (i + 1) = if (ts.getD i Str.empty).length < (leadS ts i).length then ts.getD i Str.empty else leadS ts i := by
  unfold leadS
  have e : ts.getD i Str.empty = ts[i] := by rw [List.getD_eq_getElem?_getD, List.getElem?_eq_getElem h]; rfl
  rw [List.take_add_one, List.foldl_append, List.getElem?_eq_getElem h, e]
  rfl
theorem leadS_le {ts : List Str} {k : Nat} (hb : ∀ t ∈ ts, t.length ≤ k) : ∀ i, (leadS ts i).length ≤ k
  | 0 => getD_le hb 0
  | i + 1 => by
    by_cases h : i < ts.length
    · rw [leadS_succ h]; split
      · exact getD_le hb i
      · exact leadS_le hb i
    · have := leadS_le hb i
      unfold leadS at this ⊢
      rwa [List.take_of_length_le (by omega)] at this ⊢
theorem leadS_tx (ts : List Str) (h : ts ≠ []) : tx (leadS ts ts.length) = shortest (ts.map tx) := by
  cases ts with
  | nil => exact absurd rfl h
  | cons t r =>
    unfold leadS
    rw [List.take_length]
    simp only [List.foldl_cons, List.map_cons, shortest, List.getD_cons_zero, Nat.lt_irrefl, if_false]
    clear h
    induction r generalizing t with
    | nil => rfl
    | cons u r ih =>
      simp only [List.foldl_cons, List.map_cons]
      rw [ih]
      congr 1
      rw [tx_len, tx_len]
      split <;> rfl
/-- _law_piece -/
theorem lawpiece_c {prog : Program} {w : World} (fill : PySem.Challenge.rw_ah5039_01 = PySem.Challenge.rw_ah5039_01 ∧ hd.heap_39 = hd.heap_39) {vs : List Value} {ts : List Str} {a : Addr} (hi : StrsAre vs ts) (hb1 : 2 ≤ ts.length) (hb2 : ts.length ≤ 4) (hb20 : ∀ t ∈ ts, t.length ≤ 20) :
    Tells1 prog w (hd.heap_39 w.params) 3 60 (.ref 303) [.ref a] (fun h => h.IsList a vs.toArray) (fun v _ _ => ∃ t, v = .str (st (pieceOf (ts.map tx))) t) := by
  revert fill
  k_fill
  intro _
  intro p loose mean mg mb dp un gd outer A₀ base s Q B X T hdp hu hI ret
  have hvl := strs_len hi
  have hstr : ∀ (i : Nat) (v : Value), vs[i]? = some v → ∃ t, v = .str (ts.getD i Str.empty) t := fun i v h => SetStr.strs_at hi i v h
  have hl : vs.length ≤ 1000 := by omega
  have hget : ∀ i, (ts.getD i Str.empty).length ≤ 20 := fun i => getD_le hb20 i
  have hle := leadS_le hb20
  k_dflt (refine' enterC (binds := [("parts", .ref a)]) ?k3 ?k5 ?k6 ?k7 ?k8 ?k9 ?kK ?kN ?_ ?c2 ?c3 ?c4; (case k3 => k_asm); (case k5 => k_asm); (case k6 => k_is); (case k7 => k_is); (case k8 => ktr_room); (case k9 => exact BindsTo.of_eq rfl); (case kK => rfl); (case kN => decide +kernel); (case c2 => exact rfl); (case c3 => exact rfl); (case c4 => exact rfl))
  intro L h₁ tk cells F N Y
  k_cells Y
  try simp only [List.cons_append, List.nil_append] at N
  dsimp only
  try k_fold
  walk_at "mine to if"
  try clear F
  try clear N
  rename Fr _ _ _ _ => F
  rename News _ _ _ _ => N
  refine mid_J (h₀ := s.heap) (L := L) (fun m news => m "parts" = some (.ref a) ∧ ∃ oL oA oS t lead, news = [(L + 1 + 1 + 1, oS), (L + 1 + 1, oA), (L + 1, oL)] ∧ oL.data = .cell (some (.str lead t)) ∧ oA.data = .cell none ∧ oS.data = .cell none ∧ lead.length ≤ 20 ∧ tx lead = leadOf (ts.map tx)) ?hw ?hk
  case hw =>
    walk_at "mine go"
    · rename (_ : Obj).data = Data.cell (some _) => dL
      rename Fr _ _ _ _ => F
      rename News _ _ _ _ => N
      refine iter_listJ (its := vs.toArray) (fun i m news => m "parts" = some (.ref a) ∧ ∃ oL oA oS t, news = [(L + 1 + 1 + 1, oS), (L + 1 + 1, oA), (L + 1, oL)] ∧ oL.data = .cell (some (.str (leadS ts i) t)) ∧ oA.data = .cell none ∧ oS.data = .cell none)
        rfl F N (Or.inl hI) ⟨rfl, _, _, _, _, rfl, dL, by assumption, by assumption⟩ ?turn ?done
      case turn =>
        clear F N dL
        rintro I i v m₁ news₁ oI h tk hin hv ⟨hp, oL, oA, oS, t, rfl, dL, dA, dS⟩ off hsrc F N
        obtain ⟨t2, rfl⟩ := hstr i v (by simpa using hv)
        replace F := Fr.name "parts" _ F hp
        have hx1 := hget i
        have hx2 := hle i
        have off' := off
        simp only [LCg.Off1, and_true] at off
        walk_at "mine go"
        · have hlt9 : (ts.getD i Str.empty).length < (leadS ts i).length := by omega
          rename Fr _ _ _ _ => F2
          rename News _ _ _ _ => N2
          exact TurnJ.intro F2 N2 _ (fun p hp => hp) off' (Or.inl hI) ⟨rfl, _, _, _, t2, rfl, by rw [leadS_succ (by rw [← hvl]; simpa using hin), if_pos hlt9]; assumption, dA, dS⟩
        · have hlt9 : ¬ (ts.getD i Str.empty).length < (leadS ts i).length := by omega
          rename Fr _ _ _ _ => F2
          rename News _ _ _ _ => N2
          exact TurnJ.intro F2 N2 _ (fun p hp => hp) off' (Or.inl hI) ⟨rfl, _, _, _, t, rfl, by rw [leadS_succ (by rw [← hvl]; simpa using hin), if_neg hlt9]; assumption, dA, dS⟩
      case done =>
        clear F N dL
        rintro m₁ news₁ h tk ⟨hp, oL, oA, oS, t, rfl, dL, dA, dS⟩ F N
        walk_at "mine go"
        refine AfterJ.intro F N _ (fun p hp => hp) ⟨hp, _, _, _, _, _, rfl, dL, dA, dS, hle _, ?_⟩
        have e9 : vs.toArray.size = ts.length := by simpa using hvl
        rw [e9, leadS_tx ts (by rintro rfl; simp at hb1)]
        unfold leadOf
        rw [if_neg (by simp; omega)]
    · rename Fr _ _ _ _ => F
      rename News _ _ _ _ => N
      refine AfterJ.intro F N _ (fun p hp => hp) ⟨rfl, _, _, _, _, _, rfl, by assumption, by assumption, by assumption, hget 0, ?_⟩
      unfold leadOf
      rw [if_pos (by simp; omega), getD_tx]
  case hk =>
    clear F N
    rintro h tk m news F N ⟨hp, oL, oA, oS, t, lead, rfl, dL, dA, dS, hl20, hlead⟩
    replace F := Fr.name "parts" _ F hp
    walk_at "mine go"
    rename IsRange _ _ _ _ _ _ _ _ => hr
    rename Fr _ _ _ _ => F
    rename News _ _ _ _ => N
    refine iter_rangeJ (n := lead.length) (fun i m news => m "parts" = some (.ref a) ∧ ∃ l items c oA oS own vA vS, m "found" = some (.ref l) ∧ news = (l, listOf items.toArray c) :: (L + 1 + 1 + 1, oS) :: (L + 1 + 1, oA) :: (L + 1, oL) :: own ∧ OwnOff own [l, L + 1 + 1 + 1, L + 1 + 1, L + 1]
        ∧ oA.data = .cell vA ∧ oS.data = .cell vS ∧ l ≠ L + 1 + 1 + 1 ∧ l ≠ L + 1 + 1 ∧ l ≠ L + 1 ∧ FoundIs own items ((0, 0) :: foundTo (tx lead) (ts.map tx) i)) rfl F (news_rot N) hr (by omega) (by omega) (by omega) (by omega) ⟨rfl, _, [_], _, _, _, [_], _, _, rfl, rfl, ?_, dA, dS, ?_, ?_, ?_, ?_⟩ ?turn ?done
    case turn =>
      clear F N hr
      rintro I i tA m₁ news₁ oI h tk hin ⟨hp, l, items, c, oA, oS, own, vA, vS, hf, rfl, hoff, dA, dS, n1, n2, n3, hfound⟩ off F N
      replace F := Fr.name "found" _ (Fr.name "parts" _ F hp) hf
      have off' := off
      simp only [LCg.Off1, and_true] at off
      have hoffI : ∀ p ∈ own, p.1 ≠ I := off1_mem off.2.2.2.2
      replace hoff := ownoff_add hoff hoffI
      have nI1 := off.1
      have nI2 := off.2.1
      have nI3 := off.2.2.1
      have nI4 := off.2.2.2.1
      walk_at "mine go"
      try clear F N
      rename IsRange _ _ _ _ _ _ _ _ => hr
      rename Fr _ _ _ _ => F
      rename News _ _ _ _ => N
      refine iter_rangeJ (n := lead.length - i) (fun j m news => m "parts" = some (.ref a) ∧ m "found" = some (.ref l) ∧ ∃ items c oA oS own vS, news = (I, oI) :: (l, listOf items.toArray c) :: (L + 1 + 1 + 1, oS) :: (L + 1 + 1, oA) :: (L + 1, oL) :: own ∧ OwnOff own [I, l, L + 1 + 1 + 1, L + 1 + 1, L + 1]
        ∧ oA.data = .cell (some (.int (0 + (i : Int)) tA)) ∧ oS.data = .cell vS ∧ FoundIs own items ((0, 0) :: (foundTo (tx lead) (ts.map tx) i ++ rowPairs (tx lead) (ts.map tx) i j))) rfl F N hr (by omega) (by omega) (by omega) (by omega) ⟨rfl, rfl, items, c, _, oS, own, vS, rfl, hoff, by assumption, dS, ?_⟩ ?turn2 ?done2
      case turn2 =>
        clear hr F N
        rintro I2 j tS m₂ news₂ oI2 h tk hj ⟨hp2, hf2, items2, c2, oA2, oS2, own2, vS2, rfl, hoff2, dA2, dS2, hfound2⟩ off2 F N
        replace F := Fr.name "found" _ (Fr.name "parts" _ F hp2) hf2
        have off2' := off2
        simp only [LCg.Off1, and_true] at off2
        have hoffI2 : ∀ p ∈ own2, p.1 ≠ I2 := off1_mem off2.2.2.2.2.2
        have hoff2b := hoff2
        replace hoff2 := ownoff_add hoff2 hoffI2
        have nJ0 := off2.1
        have nJ1 := off2.2.1
        have nJ2 := off2.2.2.1
        have nJ3 := off2.2.2.2.1
        have nJ4 := off2.2.2.2.2.1
        walk_at "mine go"
        refine LCg.CompSrc.base rfl (by k_asm) (by k_asm) hI (by simp only [List.size_toArray, sizeLine]; omega) ?_
        intro g'
        refine rest_inv (fun q v => v = .bool ((fun y => decide (((tx lead).drop i).take (j + 1) <:+: tx y)) (ts.getD q Str.empty))) (Or.inl hI) ?turn3 ?fin3
        case turn3 =>
          intro q ys v I oI C oC D m₂ h tk E' hin3 hP hC hx F N off ne
          try dsimp only at hP
          obtain ⟨t, rfl⟩ := hstr q v (by simpa using hP)
          have hxl := hget q
          walk_at "mine go"
          rename Fr _ _ _ _ => F2
          rename News _ _ _ _ => N2
          refine TurnEnd.intro F2 N2 sub_refl ?_
          exact congrArg Value.bool ((contains_bool _ _).trans (by rw [lead_cut hin hj hl20]; rfl))
        case fin3 =>
          intro ys hyl hys
          have hbl := bools_of (fun y => decide (((tx lead).drop i).take (j + 1) <:+: tx y)) Str.empty (xs := ts) (by simpa using hyl.trans (by simpa using hvl)) hys
          have hsz2 : items2.toArray.size ≤ sizeLine := by
            have e1 := hfound2.1
            have e2 := foundTo_len (tx lead) (ts.map tx) i
            have e3 := rowPairs_len (tx lead) (ts.map tx) i j
            have e4 : i * (tx lead).length ≤ 20 * 20 := Nat.mul_le_mul (by omega) (by rw [tx_len]; omega)
            simp only [List.length_cons, List.length_append] at e1
            simp only [List.size_toArray, sizeLine]
            omega
          walk_at "mine go"
          · rename Fr _ _ _ _ => F2
            rename News _ _ _ _ => N2
            have hall : ((ts.map fun y => decide (((tx lead).drop i).take (j + 1) <:+: tx y)).all id) = true := by assumption
            rename _ ∧ _ => hD9
            refine append_8 F2 N2 ?q0 ?q1 ?q2 ?q3 ?q4 ?q5 (OwnOff.ne hoff2 (by simp)) ?_ hsz2
            case q0 => exact Nat.ne_of_gt hD9.2.2.2.1
            case q1 => exact Ne.symm nJ1
            case q2 => exact Ne.symm nI1
            case q3 => exact Ne.symm n1
            case q4 => exact Ne.symm n2
            case q5 => exact Ne.symm n3
            intro h' F9 N9
            walk_at "mine go"
            refine TurnJ.intro F9 N9 _ (fun p hp => hp) ⟨off2'.1, off2'.2.1, off2'.2.2.1, off2'.2.2.2.1, off2'.2.2.2.2.1, Nat.ne_of_gt hD9.2.1, off1_of hoffI2⟩ trivial ⟨rfl, rfl, items2 ++ [_], c2 + 1, oA2, _, _ :: own2, _, rfl, ownoff_cons hoff2b ?_, dA2, by assumption, ?_⟩
            · intro b hb
              simp only [List.mem_cons, List.not_mem_nil, or_false] at hb
              rcases hb with rfl | rfl | rfl | rfl | rfl
              · exact Nat.ne_of_gt hD9.2.2.1
              · exact Nat.ne_of_gt hD9.2.2.2.1
              · exact Nat.ne_of_gt hD9.2.2.2.2.1
              · exact Nat.ne_of_gt hD9.2.2.2.2.2.1
              · exact Nat.ne_of_gt hD9.2.2.2.2.2.2.1
            · rw [rowPairs_succ, if_pos (by rw [inAll_map, hall]), ← List.append_assoc, ← List.cons_append]
              exact foundis_snoc' hfound2 (by simp; omega) (by simp)
          · rename Fr _ _ _ _ => F2
            rename News _ _ _ _ => N2
            have hall : ((ts.map fun y => decide (((tx lead).drop i).take (j + 1) <:+: tx y)).all id) = false := by assumption
            refine TurnJ.intro F2 N2 ((I, oI) :: (l, listOf items2.toArray c2) :: (L + 1 + 1 + 1, _) :: (L + 1 + 1, oA2) :: (L + 1, oL) :: own2) (fun p hp => .tail _ hp) off2' trivial ⟨rfl, rfl, items2, c2, oA2, _, own2, _, rfl, hoff2b, dA2, by assumption, ?_⟩
            rw [rowPairs_succ, if_neg (by rw [inAll_map, hall]; simp), List.append_nil]
            exact hfound2
      case done2 =>
        clear hr F N
        rintro m₂ news₂ h tk ⟨hp2, hf2, items2, c2, oA2, oS2, own2, vS2, rfl, hoff2, dA2, dS2, hfound2⟩ F N
        walk_at "mine go"
        refine TurnJ.intro F N _ (fun p hp => hp) ⟨nI1, nI2, nI3, nI4, off1_of (OwnOff.ne hoff2 (by simp))⟩ trivial ⟨hp2, l, items2, c2, oA2, oS2, own2, _, _, hf2, rfl, ownoff_tail hoff2, dA2, dS2, n1, n2, n3, ?_⟩
        rw [foundTo_succ, tx_len]
        exact hfound2
      · rw [show rowPairs (tx lead) (ts.map tx) i 0 = [] from rfl, List.append_nil]
        exact hfound
    case done =>
      clear hr F N
      rintro m₁ news₁ h tk ⟨hp, l, items, c, oA, oS, own, vA, vS, hf, rfl, hoff, dA, dS, n1, n2, n3, hfound⟩ F N
      replace F := Fr.name "found" _ (Fr.name "parts" _ F hp) hf
      walk_at "mine go"
      have hps : ∀ (j : Nat) (q : Int × Int), ((0, 0) :: foundTo (tx lead) (ts.map tx) (tx lead).length)[j]? = some q → ∃ v, items.toArray[j]? = some v ∧ PairAt h v q := by
        intro j q hj
        obtain ⟨la, t, u, e1, e2⟩ := hfound.2 j q (by rw [tx_len] at hj; exact hj)
        exact ⟨_, by simpa using e1, la, t, u, rfl, _, (N _ (.tail _ (.tail _ (.tail _ (.tail _ e2))))).1, rfl, _, rfl⟩
      refine call_max_pairs (l := l) (items := items.toArray) (p := (0, 0)) (ps := foundTo (tx lead) (ts.map tx) (tx lead).length) rfl ?hu9 (News.isList N (.head _)) hps (by rw [tx_len]; simpa using hfound.1.symm) ?_
      case hu9 => first | omega | (dsimp only; omega) | (simp only [Around.in1, Around.deeper]; omega) | (simp [Around.in1, Around.deeper]; omega)
      intro v h' tk' hPair hmem hk
      obtain ⟨a9, k9, etop, hbound⟩ := topFound (lead := tx lead) (ts := ts.map tx)
      obtain ⟨la, t1, u1, rfl, o9, ho9, hc9, n9, hd9⟩ := hPair
      have hown : (la, ({ cls := .type "tuple", data := .seq #[.int (k9 : Int) t1, .int (-(a9 : Int)) u1] } : Obj)) ∈ own := by
        obtain ⟨j, hj, e⟩ := List.getElem_of_mem (show (Value.ref la) ∈ items by simpa using hmem)
        have hj2 : j < ((0, 0) :: foundTo (tx lead) (ts.map tx) lead.length).length := by rw [← hfound.1]; exact hj
        obtain ⟨la', t, u, e1, e2⟩ := hfound.2 j _ (List.getElem?_eq_getElem hj2)
        rw [List.getElem?_eq_getElem hj, e] at e1
        cases e1
        have e3 := hk _ _ (N _ (.tail _ (.tail _ (.tail _ (.tail _ e2))))).1
        rw [e3] at ho9
        cases ho9
        dsimp only at hd9
        injection hd9 with hd9 _
        rw [etop] at hd9
        rw [hd9] at e2
        exact e2
      replace F := F.keeps hk
      replace N := N.grown hk
      have N3 : News s.heap L h' ((la, ({ cls := .type "tuple", data := .seq #[.int (k9 : Int) t1, .int (-(a9 : Int)) u1] } : Obj)) :: (l, listOf items.toArray c) :: (L + 1 + 1 + 1, oS) :: (L + 1 + 1, oA) :: (L + 1, oL) :: own) := fun p hp => by
        rcases List.mem_cons.mp hp with rfl | hp
        · exact N _ (.tail _ (.tail _ (.tail _ (.tail _ hown))))
        · exact N p hp
      clear N
      have hla1 := hoff _ hown (L + 1 + 1 + 1) (by simp)
      walk_at "mine go"
      rename Fr _ _ _ _ => F2
      refine ret _ _ _ F2.keep ?_
      dsimp only
      have efin : Txt.slice lead (some (- -(a9 : Int))) (some ((k9 : Int) - -(a9 : Int))) = Mine.st (pieceOf (ts.map tx)) := by
        have hb9 := hbound
        rw [tx_len] at hb9
        rw [Int.neg_neg, show (k9 : Int) - -(a9 : Int) = ((a9 + k9 : Nat) : Int) by omega, slice_ss lead (by omega) hb9]
        unfold pieceOf
        rw [← hlead, etop]
        simp only [Int.neg_neg, Int.toNat_natCast]
        rw [show a9 + k9 - a9 = k9 by omega]
      exact ⟨_, by rw [efin]⟩
    · rename _ ∧ _ => hD9
      obtain ⟨hD1, _, _, _⟩ := hD9
      rename _ ∧ _ => hE9
      intro p hp b hb
      rw [List.mem_singleton.mp hp]
      simp only [List.mem_cons, List.not_mem_nil, or_false] at hb
      rcases hb with rfl | rfl | rfl | rfl
      · exact Nat.ne_of_lt hD1
      · exact Nat.ne_of_gt hE9.1
      · exact Nat.ne_of_gt hE9.2.1
      · exact Nat.ne_of_gt hE9.2.2
    · rename _ ∧ _ => hD9
      exact Nat.ne_of_gt hD9.2.1
    · rename _ ∧ _ => hD9
      exact Nat.ne_of_gt hD9.2.2.1
    · rename _ ∧ _ => hD9
      exact Nat.ne_of_gt hD9.2.2.2
    · refine ⟨rfl, fun j q hj => ?_⟩
      cases j with
      | zero =>
        have e : ((0 : Int), (0 : Int)) = q := by simpa using hj
        subst e
        exact ⟨_, _, _, rfl, .head _⟩
      | succ j => simp [foundTo] at hj

end Mine

end

section
open PySem PySem.W PySem.Calls PyProof.Rows
set_option Elab.async false
set_option maxRecDepth 100000
namespace Mine
/-- the end of a turn of a block whose ledger may grow -/
def TurnEndJ (h₀ : Heap) (L : Addr) (m : Str → Option Value) (s : Shared) (I : Addr) (oI : Obj) (C : Addr) (oC : Obj) (D : Addr) (oD : Obj) (K : Value → List (Addr × Obj) → Prop) (y : Value) (s₂ : Shared) : Prop :=
  ∃ h' tk' nw', s₂ = { s with heap := h', toks := tk' } ∧ Fr h₀ L h' m ∧ News h₀ L h' ((I, oI) :: (C, oC) :: (D, oD) :: nw') ∧ LCg.Off3 I C D nw' ∧ K y nw'
theorem TurnEndJ.intro {h₀ : Heap} {L : Addr} {m : Str → Option Value} {s : Shared} {I : Addr} {oI : Obj} {C : Addr} {oC : Obj} {D : Addr} {oD : Obj} {K : Value → List (Addr × Obj) → Prop} {y : Value} {h' : Heap} {tk : Nat} {big : List (Addr × Obj)}
    (F : Fr h₀ L h' m) (N : News h₀ L h' big) (nw' : List (Addr × Obj)) (sub : ∀ p ∈ (I, oI) :: (C, oC) :: (D, oD) :: nw', p ∈ big) (off : LCg.Off3 I C D nw') (k : K y nw') :
    TurnEndJ h₀ L m s I oI C oC D oD K y { s with heap := h', toks := tk } := ⟨h', tk, nw', rfl, F, fun p hp => N p (sub p hp), off, k⟩
section
variable {prog : Program} {w : World} {A : Around} {E : Value → Shared → Prop} {s : Shared} {h₀ : Heap} {L : Addr} {m : Str → Option Value} {env : Env}
theorem rest_J {elt : Expr} {x : Str} {scope : Scope} {cl : List (Str × Addr)} {S : List (Addr × Obj) → Prop} {P : Nat → Value → Prop} {Fin : List Value → List (Addr × Obj) → Prop} {news : List (Addr × Obj)} {n : Nat} (K : Nat → List Value → List (Addr × Obj) → Prop)
    (hS : ∀ i ys nw, K i ys nw → S nw) (h0 : K 0 [] news)
    (turn : ∀ i ys nw v I oI C oC D m₂ h tk (E' : Value → Shared → Prop), i < n → ys.length = i → P i v → K i ys nw → LCg.NsObj oC m₂ → m₂ x = some v → Fr h₀ L h m → News h₀ L h ((I, oI) :: (C, oC) :: (D, LCg.lst ys) :: nw) → LCg.Off3 I C D nw → ((@Ne Nat I C) ∧ (@Ne Nat I D) ∧ (@Ne Nat C D)) →
      wpAny (model prog w) A (eval elt (compEnvC scope cl C env)) (TurnEndJ h₀ L m { s with heap := h, toks := tk } I oI C oC D (LCg.lst ys) (fun y nw' => K (i + 1) (ys ++ [y]) nw')) E' { s with heap := h, toks := tk })
    (fin : ∀ ys nw, ys.length = n → K n ys nw → Fin ys nw) :
    LCg.CompRest prog w A h₀ L m env elt x scope cl s S P Fin n 0 [] news := by
  have key : ∀ k i (ys : List Value) nw, i + k = n → ys.length = i → K i ys nw → LCg.CompRest prog w A h₀ L m env elt x scope cl s S P Fin k i ys nw := by
    intro k
    induction k with
    | zero =>
      intro i ys nw hi hl hg
      have hin : i = n := by omega
      subst hin
      exact LCg.CompRest.zero (fin ys nw hl hg)
    | succ k ih =>
      intro i ys nw hi hl hg
      refine LCg.CompRest.succ fun v I oI C oC D m₂ h tk E' hP hC hx F N off ne => ?_
      refine wpAny_mono (turn i ys nw v I oI C oC D m₂ h tk E' (by omega) hl hP hg hC hx F N off ne) (fun y s₂ ht => ?_) fun _ _ e => e
      obtain ⟨h', tk', nw', rfl, F', N', off', g⟩ := ht
      exact LCg.CompEnd.intro F' N' nw' (fun p hp => hp) off' (hS _ _ _ g) (ih (i + 1) (ys ++ [y]) nw' (by omega) (by simp [hl]) g)
  exact key n 0 [] news (by omega) rfl h0

/-- pop of the last of a ledger's list -/
theorem pop_M {D : Addr} {rest : List (Addr × Obj)} {its : List Value} {x : Value} {n : Nat} {Q : Value → Shared → Prop} (F : Fr h₀ L s.heap m) (N : News h₀ L s.heap ((D, listOf (its ++ [x]).toArray n) :: rest)) (hr : ∀ p ∈ rest, p.1 ≠ D) (hz : (its ++ [x]).length ≤ sizeLine)
    (h : ∀ h', Fr h₀ L h' m → News h₀ L h' ((D, listOf its.toArray (n + 1)) :: rest) → Q x { s with heap := h' }) : wpAny (model prog w) A (call (.builtin "list.pop") [.ref D]) Q E s := by
  refine kl_pop (p := its) (y := x) F N ?_ (Upd.head hr) (by simpa using hz) h
  have : ∀ (l : List Value) (z : Value), kl_last (l ++ [z]) = some (l, z) := by
    intro l z
    induction l with
    | nil => rfl
    | cons a r ih => show (match kl_last (r ++ [z]) with | some (p, y) => some (a :: p, y) | none => some ([], a)) = _; rw [ih]
  simpa using this its x
end
end Mine
namespace Mine
section
variable {prog : Program} {w : World} {A : Around} {E : Value → Shared → Prop} {s : Shared} {h₀ : Heap} {L : Addr} {m : Str → Option Value} {news : List (Addr × Obj)}
theorem lst_truthy {D : Addr} {items : List Value} {Q : Bool → Shared → Prop} (hl : s.heap.IsList D items.toArray) (hb : items.length ≤ 100000) (h0 : items = [] → ∀ tk, Q false { s with toks := tk }) (h1 : items ≠ [] → ∀ tk, Q true { s with toks := tk }) : wpAny (model prog w) A (truthy (.ref D)) Q E s := by
  refine wpAny_truthy_list hl (by simp; omega) ?_
  cases items with
  | nil => exact h0 rfl _
  | cons x r => exact h1 (by simp) _
theorem st_truthy {l : Tx} {t : Tok} {Q : Bool → Shared → Prop} (hb : l.length ≤ 1000) (h0 : l = [] → ∀ tk, Q false { s with toks := tk }) (h1 : l ≠ [] → ∀ tk, Q true { s with toks := tk }) : wpAny (model prog w) A (truthy (.str (st l) t)) Q E s := by
  refine PySem.P.truthy_str (by rw [st_len]; omega) ?_
  rw [st_len]
  cases l with
  | nil => exact h0 rfl _
  | cons x r =>
    rw [show (((x :: r).length : Int) != 0) = true from by rw [bne_iff_ne]; simp; omega]
    exact h1 (by simp) _
theorem src_sub {ax : Addr} {its : Array Value} {own news : List (Addr × Obj)} (h : LCg.SrcAt h₀ ax its own) (hs : ∀ p ∈ own, p ∈ news) : LCg.SrcAt h₀ ax its news := by
  rcases h with h | ⟨o, hm, r⟩
  · exact .inl h
  · exact .inr ⟨o, hs _ hm, r⟩
theorem part_N {x y : Str} {t u : Tok} {Q : Value → Shared → Prop} (F : Fr h₀ L s.heap m) (N : News h₀ L s.heap news) (hy : (y.length == 0) = false) (hx : x.length ≤ 1000)
    (h : ∀ ta tb tc h' k D, Fr h₀ L h' m → News h₀ L h' ((D, { cls := .type "tuple", data := .seq #[.str (Txt.partition x y).1 ta, .str (Txt.partition x y).2.1 tb, .str (Txt.partition x y).2.2 tc] }) :: news) → (∀ p ∈ news, p.1 < D) → Q (.ref D) { s with heap := h', toks := k }) :
    wpAny (model prog w) A (call (.builtin "str.partition") [.str x t, .str y u]) Q E s :=
  partitionN F N hy (fun ta tb tc h' k F' N' => h ta tb tc h' k _ F' N' fun p hp => Heap.lt_size (N p hp).1) (by unfold sizeLine; omega)
end
end Mine
namespace Mine
theorem turn_push {h₀ : Heap} {L : Addr} {m : Str → Option Value} {s : Shared} {I : Addr} {oI : Obj} {C : Addr} {oC : Obj} {D : Addr} {oD : Obj} {K : Value → List (Addr × Obj) → Prop} {v : Value} {h' : Heap} {tk : Nat} {d x y : Addr × Obj} {own : List (Addr × Obj)}
    (F : Fr h₀ L h' m) (N : News h₀ L h' (d :: (I, oI) :: (C, oC) :: (D, oD) :: x :: y :: own)) (off : LCg.Off3 I C D (x :: y :: own)) (h1 : d.1 ≠ I) (h2 : d.1 ≠ C) (h3 : d.1 ≠ D) (k : K v (x :: y :: d :: own)) :
    TurnEndJ h₀ L m s I oI C oC D oD K v { s with heap := h', toks := tk } := by
  refine TurnEndJ.intro F N (x :: y :: d :: own) (fun p hp => ?_) ⟨off.1, off.2.1, ⟨h1, h2, h3⟩, off.2.2⟩ k
  simp only [List.mem_cons] at hp ⊢
  rcases hp with rfl | rfl | rfl | rfl | rfl | rfl | hp <;> simp [*]
theorem snoc_get {ys : List Value} {y v : Value} {j : Nat} (h : (ys ++ [y])[j]? = some v) : (ys[j]? = some v) ∨ (j = ys.length ∧ v = y) := by
  rcases Nat.lt_or_ge j ys.length with hlt | hge
  · rw [List.getElem?_append_left hlt] at h; exact .inl h
  · rw [List.getElem?_append_right hge] at h
    have hj0 : j - ys.length = 0 := by
      rcases Nat.eq_zero_or_pos (j - ys.length) with h0 | h0
      · exact h0
      · rw [List.getElem?_eq_none (by simp; omega)] at h; cases h
    rw [hj0] at h
    simp at h
    exact .inr ⟨by omega, h.symm⟩
end Mine
namespace Mine
theorem append_5 {prog : Program} {w : World} {A : Around} {E : Value → Shared → Prop} {s : Shared} {h₀ : Heap} {L D : Addr} {m : Str → Option Value} {own : List (Addr × Obj)} {d y c1 : Addr × Obj} {its : List Value} {n : Nat} {x : Value} {Q : Value → Shared → Prop}
    (F : Fr h₀ L s.heap m) (N : News h₀ L s.heap (d :: y :: (D, listOf its.toArray n) :: c1 :: own)) (hd : d.1 ≠ D) (hy : y.1 ≠ D) (k1 : c1.1 ≠ D) (hown : ∀ p ∈ own, p.1 ≠ D)
    (h : ∀ h', Fr h₀ L h' m → News h₀ L h' (y :: (D, listOf (its ++ [x]).toArray (n + 1)) :: c1 :: d :: own) → Q .none { s with heap := h' }) (hsz : its.length ≤ 100000) : wpAny (model prog w) A (call (.builtin "list.append") [.ref D, x]) Q E s := by
  refine append_M (n := n) (its := its.toArray) F N (by simp) (y :: c1 :: d :: own) (fun p hp => ?_) (fun h' F' N' => h h' F' fun p hp => N' p ?_) (by simp [sizeLine]; omega)
  · simp only [List.mem_cons] at hp ⊢
    rcases hp with rfl | rfl | rfl | hp
    · exact ⟨by simp, hy⟩
    · exact ⟨by simp, k1⟩
    · exact ⟨by simp, hd⟩
    · exact ⟨by simp [hp], hown p hp⟩
  · rw [List.push_toArray]
    simp only [List.mem_cons] at hp ⊢
    rcases hp with rfl | rfl | rfl | rfl | hp <;> simp [*]
end Mine

end

section
open PySem PySem.W PySem.Calls PyProof.Rows
set_option Elab.async false
set_option maxRecDepth 100000
set_option maxHeartbeats 8000000
namespace Mine
local macro_rules | `(tactic| walk_at "mine enter") => `(tactic| (refine' enter ?k3 ?k5 ?k6 ?k7 ?k8 ?k9 ?kB ?_ ?c2 ?c3 ?c4 ?c5; (case k3 => k_asm); (case k5 => k_asm); (case k6 => k_is); (case k7 => k_is); (case k8 => ktr_room); (case k9 => exact BindsTo.of_eq rfl); (case c5 => decide); (case kB => exact locs rfl); (case c2 => exact rfl); (case c3 => exact rfl); (case c4 => exact rfl); k_whole; intro L' h' F' N'; (try dsimp only); (try k_fold)))
local macro_rules | `(tactic| walk_at "mine enterV") => `(tactic| ((case k3 => k_asm); (case k5 => k_asm); (case k6 => k_is); (case k7 => k_is); (case k8 => ktr_room); (case c5 => decide); (case kB => exact fun _ => locs rfl); (case c2 => exact rfl); (case c3 => exact rfl); (case c4 => exact rfl); (case kG => exact fun _ => rfl)))
local macro_rules | `(tactic| walk_at "mine go") => `(tactic| repeat' ((fail_if_success (with_reducible show wpAny _ _ (pyIter _) _ _ _)); (fail_if_success (with_reducible show wpAny _ _ (exec (Stmt.While _ _ _ _) _) _ _ _)); (fail_if_success (with_reducible show LCg.CompSrc _ _ _ _ _ _ _ _ _ _ _ _ _ _)); (first | (k_unfold; (try dsimp only)) | (k_end; wrow_close) | walk1 | (dsimp only; walk1) | (leave1; walk_say "STEP leave1"; try dsimp only) | fail "no step")))
local macro_rules | `(tactic| walk_at "mine tup") => `(tactic| first | (rename Fr _ _ _ _ => F9; exact F9.tup (by assumption)) | exact News.isTup (by k_asm) (by k_mem))
local macro_rules | `(tactic| walk_at "mine lst") => `(tactic| first | exact News.isList (by k_asm) (by k_mem) | (rename Fr _ _ _ _ => F9; exact F9.lst (by assumption)))
local macro_rules | `(tactic| walk_at "truthy ref") => `(tactic| (k_here; (refine tup_truthy (by walk_at "mine tup") (by assumption) (by omega) ?_ ?_ <;> intro he')))
local macro_rules | `(tactic| walk_at "call builtin:len") => `(tactic| (k_here; (first | refine tup_len (by walk_at "mine tup") (by assumption) (by omega) ?_ | refine lst_len (by walk_at "mine lst") (by assumption) (by omega) ?_)))
local macro_rules | `(tactic| walk_at "StarOf ref") => `(tactic| (k_here; (first | refine tup_star (by k_asm) (by k_asm) (by walk_at "mine tup") (by assumption) ?_ | refine lst_star (by k_asm) (by k_asm) (by walk_at "mine lst") (by assumption) ?_); intro h' F' N'; (try dsimp only [List.nil_append, List.cons_append])))
local macro_rules | `(tactic| walk_at "call builtin:all") => `(tactic| (k_here; (refine tup_all (by rfl) (by k_asm) (by k_asm) (by walk_at "mine tup") (by assumption) (by assumption) ?_); intro h' tk' F' N'))
local macro_rules | `(tactic| walk_at "call type:list") => `(tactic| (k_here; (refine list_copyKT (by k_asm) (by k_asm) (by walk_at "mine tup") ?_ (by simp only [List.size_toArray, sizeLine]; omega)); intro D' c' h' F' N' l1'))
local macro_rules | `(tactic| k_room) => `(tactic| ktr_room)
local macro_rules | `(tactic| k_inst) => `(tactic| first | (refine' inst_up ?iF ?i1 ?i2; (case iF => k_asm); (case i1 => assumption); (case i2 => assumption)) | fail "no object")
local macro_rules | `(tactic| walk_at "eval Call Attribute") => `(tactic| (k_here; (with_reducible show wpAny _ _ (eval (Expr.Call (Expr.Attribute _ _ _) [Expr.Starred _ _] [] _) _) _ _ _); refine methodCall_S ?_))
local macro_rules | `(tactic| walk_at "callWith ref") => `(tactic| (k_here; (with_reducible show wpAny _ _ (callWith _ (Value.ref _) _ (backTo _ (starEach [Expr.Starred _ _] _)) []) _ _ _); k_dflt (refine' callWith_SM ?kX ?k0 ?k1 ?k2 ?_; (case kX => k_asm); (case k0 => k_asm); (case k1 => k_mem); (case k2 => k_is); k_whole)))
local macro_rules | `(tactic| walk_at "getAttr ref") => `(tactic| (k_here; k_dflt (refine' get_sm ?k1 ?k2 ?k4 ?k5 ?k6 ?k7 ?k8 ?k9 ?k10 ?k11 ?k12 ?k13 ?_; (case k4 => k_inst); (case k1 => k_asm); (case k2 => k_asm); (case k7 => k_is); (case k5 => k_is); (case k6 => k_is); (case k8 => k_is); (case k9 => k_is); (case k10 => k_is); (case k11 => k_handed); (case k12 => decide +kernel); (case k13 => k_get); k_whole)))
local macro_rules | `(tactic| walk_at "mine tell") => `(tactic| ((case tB => k_asm); (case tF => k_asm); (case tX => k_asm); (case tN => k_asm); (case tT => k_asm); (case tf => rfl); (case tk => rfl); (case td => first | ktr_room | (dsimp only; omega) | (simp only [depth_deeper]; omega)); (case tu => first | omega | (dsimp only; omega) | k_units)))
local macro_rules | `(tactic| walk_at "mine enterVC") => `(tactic| ((case k3 => k_asm); (case k5 => k_asm); (case k6 => k_is); (case k7 => k_is); (case k8 => ktr_room); (case kK => exact fun _ => rfl); (case kN => decide +kernel); (case c2 => exact rfl); (case c3 => exact rfl); (case c4 => exact rfl); (case kG => exact fun _ => rfl)))
local macro_rules | `(tactic| walk_at "call type:map") => `(tactic| (k_here; (first | refine mapTup_N (prog := _) (w := _) (by k_asm) (by k_asm) (by walk_at "mine tup") (by assumption) (by assumption) ?_ | refine mapLst_N (by k_asm) (by k_asm) (by walk_at "mine lst") (by assumption) (by assumption) ?_); intro M' h' F' N' mo'))
local macro_rules | `(tactic| walk_at "call builtin:sum") => `(tactic| (k_here; refine sumMap_N (by rfl) (by assumption) (by k_asm) (by k_asm) ?_; intro h' tk' t' F' N'))
local macro_rules | `(tactic| walk_at "call builtin:max") => `(tactic| (k_here; refine maxMap_N (by rfl) (by assumption) (by k_asm) (by k_asm) (by assumption) ?_; intro h' tk' t' k' hk' F' N'))
local macro_rules | `(tactic| walk_at "mine slice") => `(tactic| ((with_reducible rename Fr _ _ _ _ => F'); (with_reducible rename News _ _ _ _ => N'); first
  | ((with_reducible show wpAny _ _ (subscriptTail _ (Expr.Slice none (some _) none _) _ _) _ _ _); (refine slice_strN_ns (hsz := ?hsz) (s := ⟨_, _, _, _, _⟩) F' N' ?_); (case hsz => (unfold sizeLine; omega)))
  | ((with_reducible show wpAny _ _ (subscriptTail _ (Expr.Slice (some _) none none _) _ _) _ _ _); (refine slice_strN_sn (hsz := ?hsz) (s := ⟨_, _, _, _, _⟩) F' N' ?_); (case hsz => (unfold sizeLine; omega)))
  | ((with_reducible show wpAny _ _ (subscriptTail _ (Expr.Slice (some _) (some _) none _) _ _) _ _ _); (refine slice_strN_ss (hsz := ?hsz) (s := ⟨_, _, _, _, _⟩) F' N' ?_); (case hsz => (unfold sizeLine; omega)))))
local macro_rules | `(tactic| walk_at "subscriptTail") => `(tactic| (k_here; (with_reducible show wpAny _ _ (subscriptTail _ (Expr.Slice _ _ _ _) (Value.str _ _) (Value.ref _)) _ _ _); walk_at "mine slice"; intro _ _ _ _ _))
local macro_rules | `(tactic| walk_at "eval ListComp") => `(tactic| (k_here; k_dflt (refine LCg.ListComp_U (F₀ := by k_asm) (by with_unfolding_all rfl) (by decide) (by rfl) (by decide) (by rfl) ?_)))
local macro_rules | `(tactic| walk_at "call ref") => `(tactic| (k_here; (with_reducible show wpAny _ _ (call (Value.ref 303) _) _ _ _); k_dflt (refine' Tells1.use (lawpiece_c ⟨rfl, rfl⟩ (by assumption) (by assumption) (by assumption) (by assumption)) ?tB ?tF ?tX ?tN ?tT ?tf ?tk ?td ?tu ?tI ?_; walk_at "mine tell"; (case tI => (refine' LCg.SrcAt.list ?sA ?sB ?sC; (case sC => k_asm); (case sB => exact Fr.keep (by k_asm)); (case sA => exact src_sub (by assumption) (fun p hp => by simp [hp]))))); intro v' h' tk' F' N' st' e'; obtain ⟨t', e'⟩ := e'; subst e'))
local macro_rules | `(tactic| walk_at "call builtin:len") => `(tactic| (k_here; (with_reducible show wpAny _ _ (call (Value.builtin "len") [Value.str (Mine.st _) _]) _ _ _); (refine len_stN (by assumption) ?_); intro tk' t'))
local macro_rules | `(tactic| walk_at "truthy ref") => `(tactic| (k_here; (refine lst_truthy (by walk_at "mine lst") (by omega) ?_ ?_ <;> intro he' tk')))
local macro_rules | `(tactic| walk_at "truthy str") => `(tactic| (k_here; (refine st_truthy (by assumption) ?_ ?_ <;> intro he' tk')))
local macro_rules | `(tactic| walk_at "exec Assign cons ListComp") => `(tactic| (k_here; k_dflt (refine LCg.Assign_ListComp_U (F₀ := by k_asm) (by rfl) (by with_unfolding_all rfl) (by with_unfolding_all rfl) (by decide) (by rfl) (by decide) (by rfl) (by rfl) (by rfl) ?_)))
/-- the lists of texts on the stack -/
def StackIs (h₀ : Heap) (own : List (Addr × Obj)) (items : List Value) (us : List (List Str)) : Prop :=
  items.length = us.length ∧ ∀ (j : Nat) (u : List Str), us[j]? = some u → ∃ la vs, items[j]? = some (.ref la) ∧ StrsAre vs u ∧ LCg.SrcAt h₀ la vs.toArray own
def weight (us : List (List Str)) : Nat := (us.map fun u => 2 * (u.getD 0 Str.empty).length + 1).sum
def lettersIn (us : List (List Str)) : Nat := (us.map fun u => lettersOf 21 (u.map tx)).sum
theorem weight_snoc (us : List (List Str)) (u : List Str) : weight (us ++ [u]) = weight us + (2 * (u.getD 0 Str.empty).length + 1) := by
  unfold weight; simp
theorem letters_snoc (us : List (List Str)) (u : List Str) : lettersIn (us ++ [u]) = lettersIn us + lettersOf 21 (u.map tx) := by
  unfold lettersIn; simp
theorem len_weight : ∀ us : List (List Str), us.length ≤ weight us
  | [] => Nat.le_refl _
  | u :: r => by
    have := len_weight r
    unfold weight at this ⊢
    simp only [List.map_cons, List.sum_cons, List.length_cons]
    omega
theorem map_tx_cut (g : Tx → Tx) (ts : List Str) : (ts.map fun y => Mine.st (g (tx y))).map tx = (ts.map tx).map g := by
  rw [List.map_map, List.map_map]; rfl
theorem stack_pop {h₀ : Heap} {own : List (Addr × Obj)} {its : List Value} {x : Value} {us : List (List Str)} (h : StackIs h₀ own (its ++ [x]) us) :
    ∃ us' u la vs, us = us' ++ [u] ∧ x = .ref la ∧ StrsAre vs u ∧ LCg.SrcAt h₀ la vs.toArray own ∧ StackIs h₀ own its us' := by
  have hl := h.1
  simp only [List.length_append, List.length_singleton] at hl
  rcases List.eq_nil_or_concat us with rfl | ⟨us', u, rfl⟩
  · simp at hl
  · have hl' : its.length = us'.length := by simp at hl; omega
    obtain ⟨la, vs, e1, e2, e3⟩ := h.2 us'.length u (by simp)
    rw [← hl', List.getElem?_append_right (Nat.le_refl _)] at e1
    simp at e1
    refine ⟨us', u, la, vs, by simp, e1, e2, e3, hl', fun j v hj => ?_⟩
    have hjl : j < us'.length := (List.getElem?_eq_some_iff.mp hj).1
    obtain ⟨la', vs', f1, f2, f3⟩ := h.2 j v (by simp [List.getElem?_append_left hjl, hj])
    exact ⟨la', vs', by rwa [List.getElem?_append_left (by omega)] at f1, f2, f3⟩
theorem stack_push {h₀ : Heap} {own own2 : List (Addr × Obj)} {its : List Value} {us : List (List Str)} {la : Addr} {vs : List Value} {u : List Str} (h : StackIs h₀ own its us) (hs : ∀ p ∈ own, p ∈ own2) (e2 : StrsAre vs u) (e3 : LCg.SrcAt h₀ la vs.toArray own2) :
    StackIs h₀ own2 (its ++ [.ref la]) (us ++ [u]) := by
  refine ⟨by simp [h.1], fun j v hj => ?_⟩
  rcases Nat.lt_or_ge j us.length with hlt | hge
  · rw [List.getElem?_append_left hlt] at hj
    obtain ⟨la', vs', f1, f2, f3⟩ := h.2 j v hj
    exact ⟨la', vs', by rw [List.getElem?_append_left (by rw [h.1]; exact hlt)]; exact f1, f2, src_sub f3 hs⟩
  · rw [List.getElem?_append_right hge] at hj
    have hj0 : j - us.length = 0 := by
      rcases Nat.eq_zero_or_pos (j - us.length) with h0 | h0
      · exact h0
      · rw [List.getElem?_eq_none (by simp; omega)] at hj; cases hj
    rw [hj0] at hj
    simp at hj
    subst hj
    have e : j = its.length := by rw [h.1]; omega
    subst e
    exact ⟨la, vs, by simp, e2, e3⟩
theorem stack_sub {h₀ : Heap} {own own2 : List (Addr × Obj)} {its : List Value} {us : List (List Str)} (h : StackIs h₀ own its us) (hs : ∀ p ∈ own, p ∈ own2) : StackIs h₀ own2 its us :=
  ⟨h.1, fun j u hj => let ⟨la, vs, e1, e2, e3⟩ := h.2 j u hj; ⟨la, vs, e1, e2, src_sub e3 hs⟩⟩
def CutAt (own : List (Addr × Obj)) (v : Value) (P : Tx) (x : Str) : Prop := ∃ lc ta tm tc, v = .ref lc ∧ (lc, ({ cls := .type "tuple", data := .seq #[.str (Mine.st (bef P (tx x))) ta, tm, .str (Mine.st (aft P (tx x))) tc] } : Obj)) ∈ own
local macro_rules | `(tactic| walk_at "call builtin:str.partition") => `(tactic| (k_here; (refine part_N (by k_asm) (by k_asm) (by assumption) (by omega) ?_); intro ta' tb' tc' h' k' D' F' N' l1'))
theorem cut_of {x : Str} {P : Tx} {ta tb tc : Tok} (h : P <:+: tx x) : ({ cls := .type "tuple", data := .seq #[.str (Txt.partition x (Mine.st P)).1 ta, .str (Txt.partition x (Mine.st P)).2.1 tb, .str (Txt.partition x (Mine.st P)).2.2 tc] } : Obj)
    = { cls := .type "tuple", data := .seq #[.str (Mine.st (bef P (tx x))) ta, .str (Txt.partition x (Mine.st P)).2.1 tb, .str (Mine.st (aft P (tx x))) tc] } := by
  obtain ⟨e1, e2⟩ := partition_eq x (Mine.st P) (by rw [tx_st]; exact h)
  rw [e1, e2, tx_st]
theorem lawletters_c {prog : Program} {w : World} (fill : PySem.Challenge.rw_ah5039_01 = PySem.Challenge.rw_ah5039_01 ∧ hd.heap_39 = hd.heap_39) {vs : List Value} {ts : List Str} {a : Addr} (hi : StrsAre vs ts) (hb1 : 2 ≤ ts.length) (hb2 : ts.length ≤ 4) (hb20 : ∀ t ∈ ts, t.length ≤ 20) :
    Tells1 prog w (hd.heap_39 w.params) 6 120 (.ref 308) [.ref a] (fun h => h.IsList a vs.toArray) (fun v _ _ => ∃ t, v = .int (lettersOf 21 (ts.map tx) : Nat) t) := by
  revert fill
  k_fill
  intro _
  intro p loose mean mg mb dp un gd outer A₀ base s Q B X T hdp hu hI ret
  k_dflt (refine' enterC (binds := [("texts", .ref a)]) ?k3 ?k5 ?k6 ?k7 ?k8 ?k9 ?kK ?kN ?_ ?c2 ?c3 ?c4; (case k3 => k_asm); (case k5 => k_asm); (case k6 => k_is); (case k7 => k_is); (case k8 => ktr_room); (case k9 => exact BindsTo.of_eq rfl); (case kK => rfl); (case kN => decide +kernel); (case c2 => exact rfl); (case c3 => exact rfl); (case c4 => exact rfl))
  intro L h₁ tk cells F N Y
  k_cells Y
  try simp only [List.cons_append, List.nil_append] at N
  dsimp only
  try k_fold
  walk_at "mine go"
  rename Fr _ _ _ _ => F
  rename News _ _ _ _ => N
  rename _ ∧ _ => hl9
  clear hl9
  rename (_ : Nat) < _ => hl8
  refine mid_J (h₀ := s.heap) (L := L) (fun m news => ∃ t, m "letters" = some (.int (lettersOf 21 (ts.map tx) : Nat) t)) ?hw ?hk
  case hw =>
    refine While_inv2 (n₀ := weight [ts]) (fun n m news => ∃ l items c oP own us k tl vP, m "heap" = some (.ref l) ∧ m "letters" = some (.int (k : Nat) tl) ∧ news = (l, listOf items.toArray c) :: (L + 1, oP) :: own ∧ OwnOff own [l, L + 1] ∧ l ≠ L + 1
      ∧ oP.data = .cell vP ∧ StackIs s.heap own items us ∧ n = weight us ∧ k + lettersIn us = lettersOf 21 (ts.map tx) ∧ (∀ u ∈ us, u.length = ts.length ∧ ∀ t ∈ u, t.length ≤ 20) ∧ weight us ≤ 10000) F (fun p hp => N p (.tail _ hp)) ?w0 ?wturn
    case w0 =>
      have hg0 := getD_le hb20 0
      refine ⟨_, [_], 0, _, [], [ts], 0, _, _, rfl, rfl, rfl, (fun p hp => nomatch hp), Nat.ne_of_gt hl8, by assumption, ⟨rfl, fun j u hj => ?_⟩, rfl, ?_, ?_, ?_⟩
      · cases j with
        | zero =>
          have e : ts = u := by simpa using hj
          subst e
          exact ⟨a, vs, rfl, hi, .inl hI⟩
        | succ j => simp at hj
      · simp [lettersIn]
      · intro u hu
        rw [List.mem_singleton.mp hu]
        exact ⟨rfl, hb20⟩
      · simp only [weight, List.map_cons, List.map_nil, List.sum_cons, List.sum_nil]
        omega
    case wturn =>
      clear F N
      rintro n m₁ news₁ h tk F N ⟨l, items, c, oP, own, us, k, tl, vP, hh, hlt, rfl, hoff, n1, dP, hst, rfl, hsum, hus, hwt⟩
      replace F := Fr.name "letters" _ (Fr.name "heap" _ F hh) hlt
      have hul := Nat.le_trans (len_weight us) hwt
      have hil : items.length ≤ 100000 := by have := hst.1; omega
      walk_at "mine go"
      · have hemp : items = [] := by simpa using ‹items.isEmpty = true›
        have hus0 : us = [] := by
          have := hst.1
          rw [hemp] at this
          exact List.eq_nil_of_length_eq_zero this.symm
        rw [hus0] at hsum
        rename Fr _ _ _ _ => F2
        rename News _ _ _ _ => N2
        refine AfterJ.intro F2 N2 _ (fun p hp => hp) ⟨tl, ?_⟩
        have e9 : k = lettersOf 21 (ts.map tx) := by simpa [lettersIn] using hsum
        rw [← e9]; rfl
      · have hne : items ≠ [] := by
          have := ‹items.isEmpty = false›
          intro e; rw [e] at this; cases this
        rename Fr _ _ _ _ => F2
        rename News _ _ _ _ => N2
        try clear F
        try clear N
        obtain ⟨its, x, rfl⟩ : ∃ its x, items = its ++ [x] := by
          rcases List.eq_nil_or_concat items with h9 | ⟨its, x, h9⟩
          · exact absurd h9 hne
          · exact ⟨its, x, by simpa using h9⟩
        obtain ⟨us', u, la, uvs, rfl, rfl, hui, husrc, hst'⟩ := stack_pop hst
        refine pop_M F2 N2 ?hr9 (by unfold sizeLine; omega) ?_
        case hr9 =>
          intro p hp
          rcases List.mem_cons.mp hp with rfl | hp
          · exact Ne.symm n1
          · exact hoff p hp l (by simp)
        intro h' F N
        clear F2 N2
        obtain ⟨hu1, hu20⟩ := hus u (by simp)
        have hub1 : 2 ≤ u.length := by omega
        have hub2 : u.length ≤ 4 := by omega
        have hpl : (pieceOf (u.map tx)).length ≤ 1000 := by
          rw [pieceOf_eq (by simpa using hub1)]
          have h1 := (lcsOf_infix (u.map tx) (tx (u.getD 0 Str.empty)) (List.mem_map_of_mem (getD_mem (by omega)))).length_le
          rw [tx_len] at h1
          have h2 := getD_le hu20 0
          omega
        have hul9 : uvs.length ≤ 1000 := by rw [strs_len hui]; omega
        walk_at "mine go"
        · have hP0 : pieceOf (u.map tx) = [] := by assumption
          rename Fr _ _ _ _ => F2
          rename News _ _ _ _ => N2
          refine ⟨_, _, _, _, weight us', rfl, F2, N2, ?_, ⟨l, its, c + 1, _, own, us', k, tl, _, rfl, rfl, rfl, hoff, n1, by assumption, hst', rfl, ?_, fun v hv => hus v (by simp [hv]), by simp only [weight_snoc] at hwt; omega⟩⟩
          · rw [weight_snoc]; omega
          · have e0 : lettersOf 21 (u.map tx) = 0 := by
              rw [letters_step, if_pos (by rw [← pieceOf_eq (by simpa using hub1)]; exact hP0)]
            rw [← hsum]
            rw [letters_snoc, e0]
            omega
        · have hP1 : pieceOf (u.map tx) ≠ [] := by assumption
          have hinf : ∀ i, i < u.length → pieceOf (u.map tx) <:+: tx (u.getD i Str.empty) := fun i hlt => by
            rw [pieceOf_eq (by simpa using hub1)]; exact lcsOf_infix _ _ (List.mem_map_of_mem (getD_mem hlt))
          have hy : ((Mine.st (pieceOf (u.map tx))).length == 0) = false := by
            rw [st_len, beq_eq_false_iff_ne]; exact fun e => hP1 (List.eq_nil_of_length_eq_zero e)
          have hstr : ∀ (i : Nat) (v : Value), uvs[i]? = some v → ∃ t, v = .str (u.getD i Str.empty) t := fun i v h => SetStr.strs_at hui i v h
          have hvl := strs_len hui
          have hg20 : ∀ i, (u.getD i Str.empty).length ≤ 20 := fun i => getD_le hu20 i
          rename Fr _ _ _ _ => F2
          rename News _ _ _ _ => N2
          rename (_ : Obj).data = Data.cell (some _) => dP2
          refine .inl ⟨la, _, _, rfl, rfl, F2, N2, src_sub husrc (fun p hp => by simp [hp]), by simp only [List.size_toArray, sizeLine]; omega, ?_⟩
          rintro s2 ⟨g', rfl⟩
          refine rest_J (fun i ys nw => ∃ own2 oP2 tP, nw = (l, listOf its.toArray (c + 1)) :: (L + 1, oP2) :: own2 ∧ oP2.data = .cell (some (.str (Mine.st (pieceOf (u.map tx))) tP)) ∧ OwnOff own2 [l, L + 1] ∧ (∀ p ∈ own, p ∈ own2) ∧ ∀ j v, ys[j]? = some v → CutAt own2 v (pieceOf (u.map tx)) (u.getD j Str.empty)) ?hS ⟨own, _, _, rfl, dP2, hoff, fun p hp => hp, by simp⟩ ?turn ?fin
          case hS =>
            rintro i ys nw ⟨own2, oP2, tP, rfl, _, _, hsub, _⟩
            exact src_sub husrc fun p hp => by simp [hsub p hp]
          case turn =>
            clear F2 N2 dP2
            rintro i ys nw v I oI C oC D m₂ h tk E' hin hyl hP ⟨own2, oP2, tP, rfl, dP2, hoff2, hsub, hcuts⟩ hC hx F N off ne
            obtain ⟨t, rfl⟩ := hstr i v (by simpa using hP)
            have hxl := hg20 i
            walk_at "mine go"
            rename Fr _ _ _ _ => F3
            rename News _ _ _ _ => N3
            rename (∀ p : Addr × Obj, p ∈ _ → p.1 < _) => hD3
            have hin' : i < u.length := by rw [← hvl]; simpa using hin
            rw [cut_of (hinf i hin')] at N3
            refine turn_push F3 N3 off (Nat.ne_of_gt (hD3 _ (.head _))) (Nat.ne_of_gt (hD3 _ (.tail _ (.head _)))) (Nat.ne_of_gt (hD3 _ (.tail _ (.tail _ (.head _))))) ⟨_ :: own2, oP2, tP, rfl, dP2, ownoff_cons hoff2 ?_, fun p hp => .tail _ (hsub p hp), ?_⟩
            · intro b hb
              simp only [List.mem_cons, List.not_mem_nil, or_false] at hb
              rcases hb with rfl | rfl
              · exact Nat.ne_of_gt (hD3 _ (.tail _ (.tail _ (.tail _ (.head _)))))
              · exact Nat.ne_of_gt (hD3 _ (.tail _ (.tail _ (.tail _ (.tail _ (.head _))))))
            · intro j v hj
              rcases snoc_get hj with h9 | ⟨e9, rfl⟩
              · obtain ⟨lc, ta, tm, tc, e1, e2⟩ := hcuts j v h9
                exact ⟨lc, ta, tm, tc, e1, .tail _ e2⟩
              · rw [e9, hyl]
                exact ⟨_, _, _, _, rfl, .head _⟩
          case fin =>
            clear F2 N2 dP2
            rintro ys nw hyl ⟨own2, oP2, tP, rfl, dP2, hoff2, hsub, hcuts⟩
            have hyl' : ys.length = u.length := by rw [← hvl]; simpa using hyl
            walk_at "mine go"
            rename Fr _ _ _ _ => F3
            rename News _ _ _ _ => N3
            rename _ ∧ _ => hD3
            refine LCg.CompSrc.ledger rfl F3 N3 (.head _) (by simp only [List.size_toArray, sizeLine]; omega) ?_
            intro g'
            refine rest_inv (fun i v => ∃ t, v = .str ((u.map fun y => Mine.st (bef (pieceOf (u.map tx)) (tx y))).getD i Str.empty) t) (.inr ⟨_, .head _, rfl, _, rfl⟩) ?turn2 ?fin2
            case turn2 =>
              clear F3 N3
              intro i zs v I oI C oC D m₂ h tk E' hin2 hP hC hx F N off ne
              obtain ⟨lc, ta, tm, tc, rfl, hlc⟩ := hcuts i v (by simpa using hP)
              replace N : News _ _ _ (_ :: _) := fun p hp => by
                rcases List.mem_cons.mp hp with rfl | hp
                · exact N _ (.tail _ (.tail _ (.tail _ (.tail _ (.tail _ (.tail _ hlc))))))
                · exact N p hp
              walk_at "mine go"
              have hi2 : i < u.length := by rw [← hyl']; simpa using hin2
              exact TurnEnd.intro F N (fun p hp => .tail _ hp) ⟨_, by rw [getD_map' _ hi2]⟩
            case fin2 =>
              intro zs hzl hzs
              have hzl' : zs.length = u.length := by rw [← hyl']; simpa using hzl
              have hzi : StrsAre zs (u.map fun y => Mine.st (bef (pieceOf (u.map tx)) (tx y))) := strs_of (by simpa using hzl') hzs
              walk_at "mine go"
              rename Fr _ _ _ _ => F4
              rename News _ _ _ _ => N4
              clear F3 N3
              rename _ ∧ _ => hD4
              refine append_5 F4 N4 (Ne.symm hD4.2.1) (Ne.symm hD3.1) (Ne.symm n1) (OwnOff.ne hoff2 (by simp)) ?_ (by simp at hil; omega)
              clear F4 N4
              intro h' F N
              walk_at "mine go"
              rename Fr _ _ _ _ => F5
              rename News _ _ _ _ => N5
              refine LCg.CompSrc.ledger rfl F5 N5 (.head _) (by simp only [List.size_toArray, sizeLine]; omega) ?_
              intro g'
              refine rest_inv (fun i v => ∃ t, v = .str ((u.map fun y => Mine.st (aft (pieceOf (u.map tx)) (tx y))).getD i Str.empty) t) (.inr ⟨_, .head _, rfl, _, rfl⟩) ?turn3 ?fin3
              case turn3 =>
                clear F5 N5
                intro i zs v I oI C oC D m₂ h tk E' hin2 hP hC hx F N off ne
                obtain ⟨lc, ta, tm, tc, rfl, hlc⟩ := hcuts i v (by simpa using hP)
                replace N : News _ _ _ (_ :: _) := fun p hp => by
                  rcases List.mem_cons.mp hp with rfl | hp
                  · exact N _ (.tail _ (.tail _ (.tail _ (.tail _ (.tail _ (.tail _ (.tail _ hlc)))))))
                  · exact N p hp
                walk_at "mine go"
                have hi2 : i < u.length := by rw [← hyl']; simpa using hin2
                exact TurnEnd.intro F N (fun p hp => .tail _ hp) ⟨_, by rw [getD_map' _ hi2]⟩
              case fin3 =>
                intro zs2 hzl2 hzs2
                have hzl2' : zs2.length = u.length := by rw [← hyl']; simpa using hzl2
                have hzi2 : StrsAre zs2 (u.map fun y => Mine.st (aft (pieceOf (u.map tx)) (tx y))) := strs_of (by simpa using hzl2') hzs2
                walk_at "mine go"
                rename Fr _ _ _ _ => F4
                rename News _ _ _ _ => N4
                clear F5 N5
                rename _ ∧ _ => hD6
                refine append_5 F4 N4 (Ne.symm hD6.2.1) (Ne.symm hD3.1) (Ne.symm n1) ?_ ?_ (by simp at hil ⊢; omega)
                · intro p hp
                  rcases List.mem_cons.mp hp with rfl | hp
                  · exact Ne.symm hD4.2.1
                  · exact OwnOff.ne hoff2 (by simp) p hp
                clear F4 N4
                intro h' F N
                walk_at "mine go"
                have h0i : 0 < u.length := by omega
                have hinf0 := hinf 0 h0i
                have hcb := bef_le hinf0
                have hca := aft_le hinf0
                have hcut := congrArg List.length (cut_eq hinf0)
                have hPpos : 0 < (pieceOf (u.map tx)).length := List.length_pos_iff.mpr hP1
                have hg0 := hg20 0
                simp only [List.length_append] at hcut
                rw [tx_len] at hcb hca hcut
                have eb : ((u.map fun y => Mine.st (bef (pieceOf (u.map tx)) (tx y))).getD 0 Str.empty).length = (bef (pieceOf (u.map tx)) (tx (u.getD 0 Str.empty))).length := by rw [getD_map' _ h0i, st_len]
                have ea : ((u.map fun y => Mine.st (aft (pieceOf (u.map tx)) (tx y))).getD 0 Str.empty).length = (aft (pieceOf (u.map tx)) (tx (u.getD 0 Str.empty))).length := by rw [getD_map' _ h0i, st_len]
                have hw9 : weight (us' ++ [u.map fun y => Mine.st (bef (pieceOf (u.map tx)) (tx y))] ++ [u.map fun y => Mine.st (aft (pieceOf (u.map tx)) (tx y))]) < weight (us' ++ [u]) := by
                  rw [weight_snoc, weight_snoc, weight_snoc, eb, ea]; omega
                refine ⟨_, _, _, _, weight (us' ++ [u.map fun y => Mine.st (bef (pieceOf (u.map tx)) (tx y))] ++ [u.map fun y => Mine.st (aft (pieceOf (u.map tx)) (tx y))]), rfl, F, (fun p hp => N p (.tail _ hp)), hw9,
                  ⟨l, its ++ [_] ++ [_], _, oP2, _ :: _ :: own2, us' ++ [_] ++ [_], k + (pieceOf (u.map tx)).length, _, _, rfl, rfl, rfl, ownoff_cons (ownoff_cons hoff2 ?_) ?_, n1, dP2, stack_push (own := _ :: _ :: own2) (stack_push (own := own) hst' (fun p hp => .tail _ (.tail _ (hsub p hp))) hzi (.inr ⟨_, .tail _ (.head _), rfl, _, rfl⟩)) (fun p hp => hp) hzi2 (.inr ⟨_, .head _, rfl, _, rfl⟩), rfl, ?_, ?_, by omega⟩⟩
                · intro b hb
                  simp only [List.mem_cons, List.not_mem_nil, or_false] at hb
                  rcases hb with rfl | rfl
                  · exact Ne.symm hD4.2.1
                  · exact Ne.symm hD4.2.2.1
                · intro b hb
                  simp only [List.mem_cons, List.not_mem_nil, or_false] at hb
                  rcases hb with rfl | rfl
                  · exact Ne.symm hD6.2.1
                  · exact Ne.symm hD6.2.2.1
                · have hum : 2 ≤ (u.map tx).length := by simpa using hub1
                  have e1 : lettersOf 21 (u.map tx) = lettersOf 20 ((u.map tx).map (bef (pieceOf (u.map tx)))) + (pieceOf (u.map tx)).length + lettersOf 20 ((u.map tx).map (aft (pieceOf (u.map tx)))) := by
                    rw [letters_step 20, ← pieceOf_eq hum, if_neg hP1]
                  have hg : ∀ g : Tx → Tx, ((u.map tx).map g).getD 0 [] = g (tx (u.getD 0 Str.empty)) := fun g => by
                    cases u with
                    | nil => simp at h0i
                    | cons a r => rfl
                  have f1 := lettersOf_fuel 20 ((u.map tx).map (bef (pieceOf (u.map tx)))) (by simpa using hub1) (by rw [hg]; omega)
                  have f2 := lettersOf_fuel 20 ((u.map tx).map (aft (pieceOf (u.map tx)))) (by simpa using hub1) (by rw [hg]; omega)
                  rw [letters_snoc] at hsum
                  rw [letters_snoc, letters_snoc, map_tx_cut (bef (pieceOf (u.map tx))), map_tx_cut (aft (pieceOf (u.map tx))), f1, f2]
                  omega
                · intro v hv
                  rcases List.mem_append.mp hv with hv | hv
                  · rcases List.mem_append.mp hv with hv | hv
                    · exact hus v (by simp [hv])
                    · rw [List.mem_singleton.mp hv]
                      refine ⟨by simpa using hu1, fun t ht => ?_⟩
                      obtain ⟨y, hy, rfl⟩ := List.mem_map.mp ht
                      have h1 := bef_le (show pieceOf (u.map tx) <:+: tx y by rw [pieceOf_eq (by simpa using hub1)]; exact lcsOf_infix _ _ (List.mem_map_of_mem hy))
                      have h2 := hu20 y hy
                      rw [st_len]; rw [tx_len] at h1; omega
                  · rw [List.mem_singleton.mp hv]
                    refine ⟨by simpa using hu1, fun t ht => ?_⟩
                    obtain ⟨y, hy, rfl⟩ := List.mem_map.mp ht
                    have h1 := aft_le (show pieceOf (u.map tx) <:+: tx y by rw [pieceOf_eq (by simpa using hub1)]; exact lcsOf_infix _ _ (List.mem_map_of_mem hy))
                    have h2 := hu20 y hy
                    rw [st_len]; rw [tx_len] at h1; omega
  case hk =>
    clear F N
    rintro h tk m news F N ⟨t, ht⟩
    replace F := Fr.name "letters" _ F ht
    walk_at "mine go"
    rename Fr _ _ _ _ => F2
    exact ret _ _ _ F2.keep ⟨_, rfl⟩

end Mine

end

section
open PySem PySem.W PySem.Calls PyProof.Rows
set_option Elab.async false
set_option maxRecDepth 100000
set_option maxHeartbeats 4000000
namespace Mine
abbrev esH1 (h : Heap) (x : Str) (t : Tok) : Heap := h.push { cls := .type "str_ascii_iterator", data := .fields #[.str x t, .int 0 0] }
abbrev esH2 (h : Heap) (x : Str) (t : Tok) : Heap := (esH1 h x t).push { cls := .type "enumerate", data := .fields #[.none, .bool false, .ref h.objs.size, rawInt 0, .none, .none] }
theorem meets_enum_str (x : Str) (t : Tok) (ha : x.cps.all (· < 128) = true) :
    Meets (Builtin.«enumerate.__new__» ⟨[.type "enumerate", .str x t], []⟩) (fun _ R s => R (.ok (.ret (.ref (esH1 s.heap x t).objs.size))) { s with heap := esH2 s.heap x t }) :=
  .of_wp fun prog w A R s h => by
    obtain ⟨hp, g, d, tk, os⟩ := s
    have hsub := sub_enumerate
    wp_walk
    refine wpAny_stack_any fun st => wpAny_pure ?_
    split
    · rename_i c _ _ _ _ _
      cases (c == Value.type "enumerate")
      · wp_walk using wpAny_pyIter_ascii ha
        exact ⟨_, rfl, h⟩
      · wp_walk using wpAny_pyIter_ascii ha
        exact ⟨_, rfl, h⟩
    · wp_walk using wpAny_pyIter_ascii ha
      exact ⟨_, rfl, h⟩
/-- an enumerate over a plain text, at its i-th sign -/
def EnumAt (h : Heap) (e it : Addr) (x : Str) (t : Tok) (i : Nat) : Prop := (∃ old, IsEnum h e it i old) ∧ h.IsStrIter it "str_ascii_iterator" x t i
section
variable {prog : Program} {w : World} {A : Around} {E : Value → Shared → Prop} {s : Shared} {h₀ : Heap} {L : Addr} {m : Str → Option Value} {news : List (Addr × Obj)}
theorem enum_N {x : Str} {t : Tok} {Q : Value → Shared → Prop} (ha : x.cps.all (· < 128) = true) (F : Fr h₀ L s.heap m) (N : News h₀ L s.heap news)
    (h : ∀ e it h', Fr h₀ L h' m → News h₀ L h' news → EnumAt h' e it x t 0 → L ≠ e → L ≠ it → h₀.get? e = none → h₀.get? it = none → e ≠ it → LCg.Off1 e news → LCg.Off1 it news → Q (.ref e) { s with heap := h' }) :
    wpAny (model prog w) A (call (.type "enumerate") [.str x t]) Q E s := by
  have z1 : (esH1 s.heap x t).objs.size = s.heap.objs.size + 1 := Heap.size_push ..
  refine callType_new PySem.F.called_enumerate (by decide) (PySem.F.typeCall_enumerate_1 _) (PySem.F.newCall_enumerate_1 _) (fun obj => PySem.F.args_object_init_2 obj _) PySem.F.entry_enumerate_new (meets_enum_str x t ha) ?_
  have g2 : (esH2 s.heap x t).get? (esH1 s.heap x t).objs.size = some _ := Heap.get?_push_size _ rfl
  have g1 : (esH2 s.heap x t).get? s.heap.objs.size = some _ := Heap.get?_push_of_some _ (Heap.get?_push_size _ rfl)
  have k : ∀ b o, s.heap.get? b = some o → (esH2 s.heap x t).get? b = some o := fun b o e => Heap.get?_push_of_some _ (Heap.get?_push_of_some _ e)
  have hL : L < s.heap.objs.size := F.ns.lt
  have fresh : ∀ a, s.heap.objs.size ≤ a → h₀.get? a = none := fun a ha => by
    cases e : h₀.get? a with
    | none => rfl
    | some o => exact absurd (Heap.lt_size (F.keep _ _ e)) (Nat.not_lt.mpr ha)
  have offA : ∀ (a : Addr), s.heap.objs.size ≤ a → ∀ {l : List (Addr × Obj)}, (∀ p ∈ l, p ∈ news) → LCg.Off1 a l := fun a ha l => by
    induction l with
    | nil => intro _; trivial
    | cons p r ih => exact fun hs => ⟨Nat.ne_of_lt (Nat.lt_of_lt_of_le (Heap.lt_size (N p (hs p (.head _))).1) ha), ih fun q hq => hs q (.tail _ hq)⟩
  refine ⟨⟨_, g2, rfl⟩, ?_⟩
  rw [z1] at g2
  show Q (.ref (esH1 s.heap x t).objs.size) _
  rw [z1]
  exact h _ _ _ (F.keeps k) (N.grown k) ⟨⟨_, g2⟩, ⟨_, g1, rfl, rfl⟩⟩ (Nat.ne_of_lt (Nat.lt_succ_of_lt hL)) (Nat.ne_of_lt hL) (fresh _ (Nat.le_succ _)) (fresh _ (Nat.le_refl _)) (Nat.ne_of_gt (Nat.lt_succ_self _)) (offA _ (Nat.le_succ _) fun p hp => hp) (offA _ (Nat.le_refl _) fun p hp => hp)

def TurnE (h₀ : Heap) (L e it : Addr) (oe oi : Obj) (J : (Str → Option Value) → List (Addr × Obj) → Prop) (s : Shared) (Q : Flow → Shared → Prop) (f : Flow) (s' : Shared) : Prop :=
  match f with
  | .next | .cont => ∃ h' tk' m' news', s' = { s with heap := h', toks := tk' } ∧ Fr h₀ L h' m' ∧ News h₀ L h' ((e, oe) :: (it, oi) :: news') ∧ LCg.Off1 e news' ∧ LCg.Off1 it news' ∧ J m' news'
  | .brk => Q .next s'
  | .ret v => Q (.ret v) s'
theorem TurnE.intro {e it : Addr} {oe oi : Obj} {J : (Str → Option Value) → List (Addr × Obj) → Prop} {Q : Flow → Shared → Prop} {h' : Heap} {tk : Nat} {m' : Str → Option Value} {all : List (Addr × Obj)}
    (F : Fr h₀ L h' m') (N : News h₀ L h' all) (news' : List (Addr × Obj)) (sub : ∀ p ∈ (e, oe) :: (it, oi) :: news', p ∈ all) (off : LCg.Off1 e news') (off2 : LCg.Off1 it news') (j : J m' news') :
    TurnE h₀ L e it oe oi J s Q .next { s with heap := h', toks := tk } := ⟨h', tk, m', news', rfl, F, fun p hp => N p (sub p hp), off, off2, j⟩
theorem off1_all {I : Addr} : ∀ {l : List (Addr × Obj)}, LCg.Off1 I l → ∀ p ∈ l, p.1 ≠ I
  | [], _, p, hp => by cases hp
  | q :: r, h, p, hp => by
    rcases List.mem_cons.mp hp with rfl | hp
    · exact h.1
    · exact off1_all h.2 p hp
theorem loopE {elts : List Expr} {kk : Nat} {tpos : Pos} {body orelse : List Stmt} {env : Env} {e it : Addr} {x : Str} {t : Tok} {Q : Flow → Shared → Prop} {m₀ : Str → Option Value} {news₀ : List (Addr × Obj)} (hh : A.handled = none) (J : Nat → (Str → Option Value) → List (Addr × Obj) → Prop)
    (hst : EnumAt s.heap e it x t 0) (F : Fr h₀ L s.heap m₀) (N : News h₀ L s.heap news₀) (hLe : L ≠ e) (hLi : L ≠ it) (he₀ : h₀.get? e = none) (hi₀ : h₀.get? it = none) (hei : e ≠ it) (off : LCg.Off1 e news₀) (offi : LCg.Off1 it news₀) (hj : J 0 m₀ news₀)
    (turn : ∀ i c m₁ news₁ oe oi T ti tc h tk, x.cps[i]? = some c → J i m₁ news₁ → LCg.Off1 e news₁ → LCg.Off1 it news₁ → e ≠ T → it ≠ T → (∀ p ∈ news₁, p.1 ≠ T) → Fr h₀ L h m₁ →
      News h₀ L h ((T, ({ cls := .type "tuple", data := .seq #[.int (i : Int) ti, .str ⟨#[c]⟩ tc] } : Obj)) :: (e, oe) :: (it, oi) :: news₁) →
      wpAny (model prog w) A (assign (.Tuple elts kk tpos) env (.ref T)) (fun _ s' => wpAny (model prog w) A (execs body env) (TurnE h₀ L e it oe oi (J (i + 1)) { s with heap := h, toks := tk } Q) (fun _ _ => False) s') (fun _ _ => False) { s with heap := h, toks := tk })
    (done : ∀ m₁ news₁ h tk, J x.cps.size m₁ news₁ → Fr h₀ L h m₁ → News h₀ L h news₁ → wpAny (model prog w) A (execs orelse env) Q (fun _ _ => False) { s with heap := h, toks := tk }) :
    codeAny (model prog w) A (.forLoop (.Tuple elts kk tpos) (.ref e) body orelse env) (fun r s' => match r with | .ok f => Q f s' | .error e => cameBackBy (model prog w) A env E e s') s := by
  refine codeAny_forLoop_any (fun k s' => ∃ h tk m news i, s' = { s with heap := h, toks := tk } ∧ EnumAt h e it x t i ∧ Fr h₀ L h m ∧ News h₀ L h news ∧ LCg.Off1 e news ∧ LCg.Off1 it news ∧ J i m news ∧ i ≤ x.cps.size ∧ k = x.cps.size + 1 - i) ?_ (x.cps.size + 1)
    ⟨s.heap, s.toks, m₀, news₀, 0, rfl, hst, F, N, off, offi, hj, Nat.zero_le _, rfl⟩
  rintro k s' ⟨h, tk, m, news, i, rfl, ⟨⟨old, hE⟩, hI⟩, F', N', off', offi', hj', hi, rfl⟩
  have D := Draws.strAscii (prog := prog) (w := w) (A := A.in1) hh it x t
  rcases Nat.lt_or_ge i x.cps.size with hlt | hge
  · refine wpAny_pyNext_enum_itemD D hE hI hlt hei (by simpa using hei) fun v h₂ tk₂ hP hO hI₂ hT hsz hk => ?_
    obtain ⟨c, u, hc, rfl⟩ := hP
    refine wpAny_letOwnedTupleGo_enum hO fun h₃ hE₃ hs₃ => ?_
    have hTe : h.objs.size ≠ e := Nat.ne_of_gt (Heap.lt_size hE)
    have hTi : h.objs.size ≠ it := by obtain ⟨_, q, _⟩ := hI; exact Nat.ne_of_gt (Heap.lt_size q)
    have k3 : ∀ b o, b ≠ e → b ≠ it → h.get? b = some o → h₃.get? b = some o := fun b o h1 h2 q => (hs₃.2 b h1).trans (hk b o h1 h2 q)
    have hI₃ : h₃.IsStrIter it "str_ascii_iterator" x t (i + 1) := by obtain ⟨o, q, r⟩ := hI₂; exact ⟨o, (hs₃.2 it (Ne.symm hei)).trans q, r⟩
    obtain ⟨oi, hoi, hr⟩ := hI₃
    have F₃ : Fr h₀ L h₃ m := ⟨F'.ns.at' fun o q => k3 L o hLe hLi q, fun b o q => k3 b o (fun q' => by rw [q', he₀] at q; cases q) (fun q' => by rw [q', hi₀] at q; cases q) (F'.keep b o q), F'.above⟩
    have hfresh : h₀.get? h.objs.size = none := next_is_new F'
    have N₃ : News h₀ L h₃ ((h.objs.size, ({ cls := .type "tuple", data := .seq #[.int (i : Int) tk₂, .str ⟨#[c]⟩ u] } : Obj)) :: (e, _) :: (it, oi) :: news) := fun p hp => by
      rcases List.mem_cons.mp hp with rfl | hp
      · exact ⟨(hs₃.2 _ hTe).trans hT, Nat.ne_of_gt F'.ns.lt, hfresh⟩
      · rcases List.mem_cons.mp hp with rfl | hp
        · exact ⟨hE₃, Ne.symm hLe, he₀⟩
        · rcases List.mem_cons.mp hp with rfl | hp
          · exact ⟨hoi, Ne.symm hLi, hi₀⟩
          · exact ⟨k3 _ _ (off1_all off' p hp) (off1_all offi' p hp) (N' p hp).1, (N' p hp).2⟩
    refine wpAny_mono (turn i c m news _ oi h.objs.size tk₂ u h₃ _ hc hj' off' offi' (Ne.symm hTe) (Ne.symm hTi) (fun p hp => Nat.ne_of_lt (Heap.lt_size (N' p hp).1)) F₃ N₃) (fun _ s₃ h₄ => ?_) fun _ _ q => q.elim
    refine wpAny_mono h₄ (fun f s₄ h₅ => ?_) fun _ _ q => q.elim
    have fin : ∀ {oe oi' : Obj}, (∃ old, oe = { cls := .type "enumerate", dict := none, data := .fields #[.none, .bool false, .ref it, rawInt ((i + 1 : Nat) : Int), .none, old], slots := #[] }) → oi' = oi →
        (∃ h' tk' m' news', s₄ = { s with heap := h', toks := tk' } ∧ Fr h₀ L h' m' ∧ News h₀ L h' ((e, oe) :: (it, oi') :: news') ∧ LCg.Off1 e news' ∧ LCg.Off1 it news' ∧ J (i + 1) m' news') →
        ∃ q, q < x.cps.size + 1 - i ∧ ∃ h tk m news j, s₄ = { s with heap := h, toks := tk } ∧ EnumAt h e it x t j ∧ Fr h₀ L h m ∧ News h₀ L h news ∧ LCg.Off1 e news ∧ LCg.Off1 it news ∧ J j m news ∧ j ≤ x.cps.size ∧ q = x.cps.size + 1 - j := by
      rintro oe oi' ⟨old', rfl⟩ rfl ⟨h', tk', m', news', rfl, F₄, N₄, off₄, offi₄, hj₄⟩
      exact ⟨x.cps.size + 1 - (i + 1), by omega, h', tk', m', news', i + 1, rfl, ⟨⟨old', (N₄ _ (.head _)).1⟩, ⟨oi', (N₄ _ (.tail _ (.head _))).1, hr⟩⟩, F₄, fun p hp => N₄ p (.tail _ (.tail _ hp)), off₄, offi₄, hj₄, hlt, rfl⟩
    cases f with
    | next => exact fin ⟨_, rfl⟩ rfl h₅
    | cont => exact fin ⟨_, rfl⟩ rfl h₅
    | brk => exact h₅
    | ret v => exact h₅
  · have hin : i = x.cps.size := by omega
    subst hin
    refine wpAny_pyNext_enum_endD D hE hI fun h₂ hx => ?_
    have k2 : ∀ b o, b ≠ it → h.get? b = some o → h₂.get? b = some o := fun b o h1 q => hx b o h1 q
    exact wpAny_mono (done m news h₂ tk hj' ⟨F'.ns.at' fun o q => k2 L o hLi q, fun b o q => k2 b o (fun q' => by rw [q', hi₀] at q; cases q) (F'.keep b o q), F'.above⟩
      fun p hp => ⟨k2 _ _ (off1_all offi' p hp) (N' p hp).1, (N' p hp).2⟩) (fun _ _ q => q) fun _ _ q => q.elim
end
end Mine

end

section
open PySem PySem.W PySem.Calls PyProof.Rows
set_option Elab.async false
set_option maxRecDepth 100000
namespace Mine
/-- a list object with these items -/
def IsRow (o : Obj) (its : List Value) : Prop := o.cls = .type "list" ∧ ∃ c, o.data = .seq its.toArray c
section
variable {prog : Program} {w : World} {A : Around} {E : Value → Shared → Prop} {s : Shared} {h₀ : Heap} {L : Addr} {m : Str → Option Value} {news : List (Addr × Obj)}
theorem row_list {h : Heap} {D : Addr} {o : Obj} {its : List Value} (N : News h₀ L h news) (hm : (D, o) ∈ news) (r : IsRow o its) : h.IsList D its.toArray := ⟨o, (N _ hm).1, r.1, r.2⟩
/-- xs[k] for a list at hand, its item told -/
theorem sub_int {value slice : Expr} {l : Addr} {its : List Value} {k : Int} {u : Tok} {n : Nat} {v : Value} {Q : Value → Shared → Prop} (hl : s.heap.IsList l its.toArray) (hx : its[n]? = some v) (hk : k = (n : Int)) (hn : n < 100000) (h : Q v s)
    (hs : subscripted slice false (.ref l) (.int k u) = operate [.ref l, .int k u] (getItem (.ref l) (.int k u)) := by with_unfolding_all rfl) :
    wpAny (model prog w) A (subscriptTail value slice (.ref l) (.int k u)) Q E s := by
  subst hk
  exact tail_any hl.typeIs slot_list_getitem.lookup (wpAny_getItem_list hl (by omega) (by omega) (by simpa using hx) h) hs
/-- xs[k] = v for a list of the ledger -/
theorem set_M {D : Addr} {o : Obj} {its : List Value} {k : Int} {n : Nat} {u : Tok} {v : Value} {Q : Unit → Shared → Prop} (F : Fr h₀ L s.heap m) (N : News h₀ L s.heap news) (hm : (D, o) ∈ news) (r : IsRow o its) (hk : k = (n : Int)) (hn : n < its.length) (hb : n < 100000)
    (rest : List (Addr × Obj)) (hr : ∀ p ∈ rest, p ∈ news ∧ p.1 ≠ D)
    (h : ∀ h' o', Fr h₀ L h' m → News h₀ L h' ((D, o') :: rest) → IsRow o' (its.set n v) → Q () { s with heap := h' }) : wpAny (model prog w) A (setItem (.ref D) (.int k u) v) Q E s := by
  subst hk
  have z := N (D, o) hm
  refine wpAny_setItem_list (row_list N hm r) (by omega) (by omega) (by simp; omega) fun h' hl' hs => ?_
  obtain ⟨o', ho', hc', n', hd'⟩ := hl'
  refine h h' o' (F.change hs z.2.1 z.2.2) (fun p hp => ?_) ⟨hc', n', by rw [hd']; simp⟩
  rcases List.mem_cons.mp hp with rfl | hp
  · exact ⟨ho', z.2⟩
  · have y := hr p hp
    exact ⟨hs.extBut _ _ y.2 (N p y.1).1, (N p y.1).2⟩
theorem rep_N {l : Addr} {x : Value} {c : Nat} {k : Int} {n : Nat} {u : Tok} {Q : Value → Shared → Prop} (F : Fr h₀ L s.heap m) (N : News h₀ L s.heap news) (hm : (l, listOf #[x] c) ∈ news) (hk : k = (n : Int)) (hn : n ≤ 1000)
    (h : ∀ D h', Fr h₀ L h' m → News h₀ L h' ((D, listOf (List.replicate n x).toArray 0) :: news) → (∀ p ∈ news, p.1 < D) → Q (.ref D) { s with heap := h' }) : wpAny (model prog w) A (binaryOp .Mult (.ref l) (.int k u)) Q E s := by
  subst hk
  refine mul_list F N (N _ hm).1 (by omega) (by omega) (by simp; omega) fun h' F' N' => h _ _ F' ?_ fun p hp => Heap.lt_size (N p hp).1
  have e : (List.foldl (fun x1 x2 => x1 ++ x2) #[] (List.replicate (if (#[x] : Array Value).isEmpty = true then 0 else (n : Int).toNat) #[x])) = (List.replicate n x).toArray := by
    rw [listMul_foldl]
    simp [lm_rep_flat_one]
  rw [e] at N'
  exact N'
end
end Mine
namespace Mine
theorem turn_push2 {h₀ : Heap} {L : Addr} {m : Str → Option Value} {s : Shared} {I : Addr} {oI : Obj} {C : Addr} {oC : Obj} {D : Addr} {oD : Obj} {K : Value → List (Addr × Obj) → Prop} {v : Value} {h' : Heap} {tk : Nat} {d d1 x : Addr × Obj} {own : List (Addr × Obj)}
    (F : Fr h₀ L h' m) (N : News h₀ L h' (d :: d1 :: (I, oI) :: (C, oC) :: (D, oD) :: x :: own)) (off : LCg.Off3 I C D (x :: own)) (h1 : d.1 ≠ I) (h2 : d.1 ≠ C) (h3 : d.1 ≠ D) (k : K v (x :: d :: own)) :
    TurnEndJ h₀ L m s I oI C oC D oD K v { s with heap := h', toks := tk } := by
  refine TurnEndJ.intro F N (x :: d :: own) (fun p hp => ?_) ⟨off.1, ⟨h1, h2, h3⟩, off.2⟩ k
  simp only [List.mem_cons] at hp ⊢
  rcases hp with rfl | rfl | rfl | rfl | rfl | hp <;> simp [*]
/-- the rows of a table -/
structure RowsIs (own : List (Addr × Obj)) (ys : List Value) (n m : Nat) (vals : Nat → Nat → Int) : Prop where
  len : ys.length = n
  row : ∀ q, q < n → ∃ R o its, ys[q]? = some (.ref R) ∧ (R, o) ∈ own ∧ IsRow o its ∧ its.length = m ∧ ∀ j, j < m → ∃ t, its[j]? = some (.int (vals q j) t)
  inj : ∀ (q q' : Nat) (R : Addr), ys[q]? = some (.ref R) → ys[q']? = some (.ref R) → q = q'
theorem RowsIs.snoc {own : List (Addr × Obj)} {ys : List Value} {n m : Nat} {vals : Nat → Nat → Int} {R : Addr} {o : Obj} {its : List Value} (h : RowsIs own ys n m vals) (hR : ∀ p ∈ own, p.1 ≠ R) (r : IsRow o its) (hl : its.length = m) (hv : ∀ j, j < m → ∃ t, its[j]? = some (.int (vals n j) t)) :
    RowsIs ((R, o) :: own) (ys ++ [.ref R]) (n + 1) m vals := by
  have hold : ∀ (q : Nat) (R' : Addr), ys[q]? = some (.ref R') → R' ≠ R := fun q R' e => by
    have hq : q < n := by rw [← h.len]; exact (List.getElem?_eq_some_iff.mp e).1
    obtain ⟨R2, o2, its2, e1, e2, _⟩ := h.row q hq
    rw [e] at e1; cases e1
    exact hR _ e2
  have get : ∀ (q : Nat) (R' : Addr), (ys ++ [Value.ref R])[q]? = some (.ref R') → (ys[q]? = some (.ref R')) ∨ (q = ys.length ∧ R' = R) := fun q R' e => by
    rcases snoc_get e with h9 | ⟨h9, h8⟩
    · exact .inl h9
    · cases h8; exact .inr ⟨h9, rfl⟩
  refine ⟨by simp [h.len], fun q hq => ?_, fun q q' R' e e' => ?_⟩
  · rcases Nat.lt_succ_iff_lt_or_eq.mp hq with h1 | rfl
    · obtain ⟨R2, o2, its2, e1, e2, e3, e4, e5⟩ := h.row q h1
      exact ⟨R2, o2, its2, by rw [List.getElem?_append_left (by rw [h.len]; exact h1)]; exact e1, .tail _ e2, e3, e4, e5⟩
    · exact ⟨R, o, its, by rw [← h.len]; simp, .head _, r, hl, hv⟩
  · rcases get q R' e with a | ⟨a, b⟩ <;> rcases get q' R' e' with c | ⟨c, d⟩
    · exact h.inj q q' R' a c
    · exact absurd d (hold q R' a)
    · exact absurd b (hold q' R' c)
    · rw [a, c]
theorem RowsIs.sub {own own2 : List (Addr × Obj)} {ys : List Value} {n m : Nat} {vals : Nat → Nat → Int} (h : RowsIs own ys n m vals) (hs : ∀ p ∈ own, p ∈ own2) : RowsIs own2 ys n m vals :=
  ⟨h.len, fun q hq => let ⟨R, o, its, a, b, c⟩ := h.row q hq; ⟨R, o, its, a, hs _ b, c⟩, h.inj⟩
end Mine
namespace Mine
/-- the ledger without an address -/
def without (R : Addr) (own : List (Addr × Obj)) : List (Addr × Obj) := own.filter fun p => decide (p.1 ≠ R)
theorem without_mem {R : Addr} {own : List (Addr × Obj)} {p : Addr × Obj} : p ∈ without R own ↔ p ∈ own ∧ p.1 ≠ R := by simp [without]
theorem RowsIs.set {own : List (Addr × Obj)} {ys : List Value} {n m : Nat} {vals : Nat → Nat → Int} {q j : Nat} {R : Addr} {o' : Obj} {its : List Value} {v : Int} {t : Tok} (h : RowsIs own ys n m vals) (hq : ys[q]? = some (.ref R)) (hl : its.length = m)
    (hv : ∀ b, b < m → ∃ t, its[b]? = some (.int (vals q b) t)) (r : IsRow o' (its.set j (.int v t))) :
    RowsIs ((R, o') :: without R own) ys n m (fun a b => if a = q ∧ b = j then v else vals a b) := by
  refine ⟨h.len, fun a ha => ?_, h.inj⟩
  by_cases e : a = q
  · subst e
    refine ⟨R, o', its.set j (.int v t), hq, .head _, r, by simp [hl], fun b hb => ?_⟩
    by_cases e2 : b = j
    · subst e2
      exact ⟨t, by rw [List.getElem?_set_self (by omega)]; simp⟩
    · obtain ⟨t', ht⟩ := hv b hb
      exact ⟨t', by rw [List.getElem?_set_ne (by omega), ht]; simp [e2]⟩
  · obtain ⟨R2, o2, its2, e1, e2, e3, e4, e5⟩ := h.row a ha
    have hne : R2 ≠ R := fun e9 => e (h.inj a q R (by rw [e1, e9]) hq)
    exact ⟨R2, o2, its2, e1, .tail _ (without_mem.mpr ⟨e2, hne⟩), e3, e4, fun b hb => by
      obtain ⟨t', ht⟩ := e5 b hb
      exact ⟨t', by rw [ht]; simp [e]⟩⟩
theorem RowsIs.to {own : List (Addr × Obj)} {ys : List Value} {n m : Nat} {vals vals' : Nat → Nat → Int} (h : RowsIs own ys n m vals) (e : ∀ a b, a < n → b < m → vals a b = vals' a b) : RowsIs own ys n m vals' :=
  ⟨h.len, fun q hq => let ⟨R, o, its, a, b, c, d, f⟩ := h.row q hq; ⟨R, o, its, a, b, c, d, fun j hj => by rw [← e q j hq hj]; exact f j hj⟩, h.inj⟩
end Mine
namespace Mine
/-- an enumerate just made -/
structure EnumNew (h₀ : Heap) (L : Addr) (h : Heap) (e it : Addr) (x : Str) (t : Tok) (news : List (Addr × Obj)) : Prop where
  at_ : EnumAt h e it x t 0
  le : L ≠ e
  li : L ≠ it
  e0 : h₀.get? e = none
  i0 : h₀.get? it = none
  ei : e ≠ it
  oe : LCg.Off1 e news
  oi : LCg.Off1 it news
section
variable {prog : Program} {w : World} {A : Around} {E : Value → Shared → Prop} {s : Shared} {h₀ : Heap} {L : Addr} {m : Str → Option Value} {news : List (Addr × Obj)}
theorem enum_N2 {x : Str} {t : Tok} {Q : Value → Shared → Prop} (ha : x.cps.all (· < 128) = true) (F : Fr h₀ L s.heap m) (N : News h₀ L s.heap news)
    (h : ∀ e it h', Fr h₀ L h' m → News h₀ L h' news → EnumNew h₀ L h' e it x t news → Q (.ref e) { s with heap := h' }) :
    wpAny (model prog w) A (call (.type "enumerate") [.str x t]) Q E s := enum_N ha F N fun e it h' F' N' a b c d f g k l => h e it h' F' N' ⟨a, b, c, d, f, g, k, l⟩
theorem iterE {elts : List Expr} {kk : Nat} {tpos : Pos} {body orelse : List Stmt} {env : Env} {e it : Addr} {x : Str} {t : Tok} {Q : Flow → Shared → Prop} {m₀ : Str → Option Value} {news₀ : List (Addr × Obj)} (hh : A.handled = none) (J : Nat → (Str → Option Value) → List (Addr × Obj) → Prop)
    (hn : EnumNew h₀ L s.heap e it x t news₀) (F : Fr h₀ L s.heap m₀) (N : News h₀ L s.heap news₀) (hj : J 0 m₀ news₀)
    (turn : ∀ e it i c m₁ news₁ oe oi T ti tc h tk, x.cps[i]? = some c → J i m₁ news₁ → LCg.Off1 e news₁ → LCg.Off1 it news₁ → e ≠ it → e ≠ T → it ≠ T → (∀ p ∈ news₁, p.1 ≠ T) → Fr h₀ L h m₁ →
      News h₀ L h ((T, ({ cls := .type "tuple", data := .seq #[.int (i : Int) ti, .str ⟨#[c]⟩ tc] } : Obj)) :: (e, oe) :: (it, oi) :: news₁) →
      wpAny (model prog w) A (assign (.Tuple elts kk tpos) env (.ref T)) (fun _ s' => wpAny (model prog w) A (execs body env) (TurnE h₀ L e it oe oi (J (i + 1)) { s with heap := h, toks := tk } Q) (fun _ _ => False) s') (fun _ _ => False) { s with heap := h, toks := tk })
    (done : ∀ m₁ news₁ h tk, J x.cps.size m₁ news₁ → Fr h₀ L h m₁ → News h₀ L h news₁ → wpAny (model prog w) A (execs orelse env) Q (fun _ _ => False) { s with heap := h, toks := tk }) :
    wpAny (model prog w) A (pyIter (.ref e)) (fun it' s₂ => codeAny (model prog w) A (.forLoop (.Tuple elts kk tpos) it' body orelse env) (fun r s' => match r with | .ok f => Q f s' | .error e => cameBackBy (model prog w) A env E e s') s₂) E s := by
  obtain ⟨old, hE⟩ := hn.at_.1
  exact wpAny_pyIter_enum hE (loopE hh J hn.at_ F N hn.le hn.li hn.e0 hn.i0 hn.ei hn.oe hn.oi hj (fun i c m₁ news₁ oe oi T ti tc h tk a b c' d e9 f g => turn e it i c m₁ news₁ oe oi T ti tc h tk a b c' d hn.ei e9 f g) done)
end
end Mine
namespace Mine
theorem off1_without {I R : Addr} {o' : Obj} {own : List (Addr × Obj)} (h : LCg.Off1 I own) (hR : R ≠ I) : LCg.Off1 I ((R, o') :: without R own) := by
  refine ⟨hR, ?_⟩
  have : ∀ {l : List (Addr × Obj)}, (∀ p ∈ l, p.1 ≠ I) → LCg.Off1 I l := by
    intro l
    induction l with
    | nil => intro _; trivial
    | cons q r ih => exact fun h => ⟨h q (.head _), ih fun p hp => h p (.tail _ hp)⟩
  exact this fun p hp => off1_all h p (without_mem.mp hp).1
theorem ownoff_without {own : List (Addr × Obj)} {adr : List Addr} {R : Addr} {o' : Obj} (h : OwnOff own adr) (hR : ∀ b ∈ adr, R ≠ b) : OwnOff ((R, o') :: without R own) adr := fun q hq b hb => by
  rcases List.mem_cons.mp hq with rfl | hq
  · exact hR b hb
  · exact h q (without_mem.mp hq).1 b hb
end Mine

end

section
local macro_rules | `(tactic| walk_at "mine pad D3 0") => `(tactic| skip)
local macro_rules | `(tactic| walk_at "mine pad D3 1") => `(tactic| skip)
open PySem PySem.W PySem.Calls PyProof.Rows
set_option Elab.async false
set_option maxRecDepth 100000
set_option maxHeartbeats 8000000
namespace Mine
local macro_rules | `(tactic| walk_at "mine enter") => `(tactic| (refine' enter ?k3 ?k5 ?k6 ?k7 ?k8 ?k9 ?kB ?_ ?c2 ?c3 ?c4 ?c5; (case k3 => k_asm); (case k5 => k_asm); (case k6 => k_is); (case k7 => k_is); (case k8 => ktr_room); (case k9 => exact BindsTo.of_eq rfl); (case c5 => decide); (case kB => exact locs rfl); (case c2 => exact rfl); (case c3 => exact rfl); (case c4 => exact rfl); k_whole; intro L' h' F' N'; (try dsimp only); (try k_fold)))
local macro_rules | `(tactic| walk_at "mine enterV") => `(tactic| ((case k3 => k_asm); (case k5 => k_asm); (case k6 => k_is); (case k7 => k_is); (case k8 => ktr_room); (case c5 => decide); (case kB => exact fun _ => locs rfl); (case c2 => exact rfl); (case c3 => exact rfl); (case c4 => exact rfl); (case kG => exact fun _ => rfl)))
local macro_rules | `(tactic| walk_at "mine go") => `(tactic| repeat' ((fail_if_success (with_reducible show wpAny _ _ (pyIter _) _ _ _)); (fail_if_success (with_reducible show wpAny _ _ (exec (Stmt.While _ _ _ _) _) _ _ _)); (fail_if_success (with_reducible show LCg.CompSrc _ _ _ _ _ _ _ _ _ _ _ _ _ _)); (first | (k_unfold; (try dsimp only)) | (k_end; wrow_close) | walk1 | (dsimp only; walk1) | (leave1; walk_say "STEP leave1"; try dsimp only) | fail "no step")))
local macro_rules | `(tactic| walk_at "mine tup") => `(tactic| first | (rename Fr _ _ _ _ => F9; exact F9.tup (by assumption)) | exact News.isTup (by k_asm) (by k_mem))
local macro_rules | `(tactic| walk_at "mine lst") => `(tactic| first | exact News.isList (by k_asm) (by k_mem) | (rename Fr _ _ _ _ => F9; exact F9.lst (by assumption)))
local macro_rules | `(tactic| walk_at "truthy ref") => `(tactic| (k_here; (refine tup_truthy (by walk_at "mine tup") (by assumption) (by omega) ?_ ?_ <;> intro he')))
local macro_rules | `(tactic| walk_at "call builtin:len") => `(tactic| (k_here; (first | refine tup_len (by walk_at "mine tup") (by assumption) (by omega) ?_ | refine lst_len (by walk_at "mine lst") (by assumption) (by omega) ?_)))
local macro_rules | `(tactic| walk_at "StarOf ref") => `(tactic| (k_here; (first | refine tup_star (by k_asm) (by k_asm) (by walk_at "mine tup") (by assumption) ?_ | refine lst_star (by k_asm) (by k_asm) (by walk_at "mine lst") (by assumption) ?_); intro h' F' N'; (try dsimp only [List.nil_append, List.cons_append])))
local macro_rules | `(tactic| walk_at "call builtin:all") => `(tactic| (k_here; (refine tup_all (by rfl) (by k_asm) (by k_asm) (by walk_at "mine tup") (by assumption) (by assumption) ?_); intro h' tk' F' N'))
local macro_rules | `(tactic| walk_at "call type:list") => `(tactic| (k_here; (refine list_copyKT (by k_asm) (by k_asm) (by walk_at "mine tup") ?_ (by simp only [List.size_toArray, sizeLine]; omega)); intro D' c' h' F' N' l1'))
local macro_rules | `(tactic| k_room) => `(tactic| ktr_room)
local macro_rules | `(tactic| k_inst) => `(tactic| first | (refine' inst_up ?iF ?i1 ?i2; (case iF => k_asm); (case i1 => assumption); (case i2 => assumption)) | fail "no object")
local macro_rules | `(tactic| walk_at "eval Call Attribute") => `(tactic| (k_here; (with_reducible show wpAny _ _ (eval (Expr.Call (Expr.Attribute _ _ _) [Expr.Starred _ _] [] _) _) _ _ _); refine methodCall_S ?_))
local macro_rules | `(tactic| walk_at "callWith ref") => `(tactic| (k_here; (with_reducible show wpAny _ _ (callWith _ (Value.ref _) _ (backTo _ (starEach [Expr.Starred _ _] _)) []) _ _ _); k_dflt (refine' callWith_SM ?kX ?k0 ?k1 ?k2 ?_; (case kX => k_asm); (case k0 => k_asm); (case k1 => k_mem); (case k2 => k_is); k_whole)))
local macro_rules | `(tactic| walk_at "getAttr ref") => `(tactic| (k_here; k_dflt (refine' get_sm ?k1 ?k2 ?k4 ?k5 ?k6 ?k7 ?k8 ?k9 ?k10 ?k11 ?k12 ?k13 ?_; (case k4 => k_inst); (case k1 => k_asm); (case k2 => k_asm); (case k7 => k_is); (case k5 => k_is); (case k6 => k_is); (case k8 => k_is); (case k9 => k_is); (case k10 => k_is); (case k11 => k_handed); (case k12 => decide +kernel); (case k13 => k_get); k_whole)))
local macro_rules | `(tactic| walk_at "mine tell") => `(tactic| ((case tB => k_asm); (case tF => k_asm); (case tX => k_asm); (case tN => k_asm); (case tT => k_asm); (case tf => rfl); (case tk => rfl); (case td => first | ktr_room | (dsimp only; omega) | (simp only [depth_deeper]; omega)); (case tu => first | omega | (dsimp only; omega) | k_units)))
local macro_rules | `(tactic| walk_at "mine enterVC") => `(tactic| ((case k3 => k_asm); (case k5 => k_asm); (case k6 => k_is); (case k7 => k_is); (case k8 => ktr_room); (case kK => exact fun _ => rfl); (case kN => decide +kernel); (case c2 => exact rfl); (case c3 => exact rfl); (case c4 => exact rfl); (case kG => exact fun _ => rfl)))
local macro_rules | `(tactic| walk_at "call type:map") => `(tactic| (k_here; (first | refine mapTup_N (prog := _) (w := _) (by k_asm) (by k_asm) (by walk_at "mine tup") (by assumption) (by assumption) ?_ | refine mapLst_N (by k_asm) (by k_asm) (by walk_at "mine lst") (by assumption) (by assumption) ?_); intro M' h' F' N' mo'))
local macro_rules | `(tactic| walk_at "call builtin:sum") => `(tactic| (k_here; refine sumMap_N (by rfl) (by assumption) (by k_asm) (by k_asm) ?_; intro h' tk' t' F' N'))
local macro_rules | `(tactic| walk_at "call builtin:max") => `(tactic| (k_here; refine maxMap_N (by rfl) (by assumption) (by k_asm) (by k_asm) (by assumption) ?_; intro h' tk' t' k' hk' F' N'))
local macro_rules | `(tactic| walk_at "mine slice") => `(tactic| ((with_reducible rename Fr _ _ _ _ => F'); (with_reducible rename News _ _ _ _ => N'); first
  | ((with_reducible show wpAny _ _ (subscriptTail _ (Expr.Slice none (some _) none _) _ _) _ _ _); (refine slice_strN_ns (hsz := ?hsz) (s := ⟨_, _, _, _, _⟩) F' N' ?_); (case hsz => (unfold sizeLine; omega)))
  | ((with_reducible show wpAny _ _ (subscriptTail _ (Expr.Slice (some _) none none _) _ _) _ _ _); (refine slice_strN_sn (hsz := ?hsz) (s := ⟨_, _, _, _, _⟩) F' N' ?_); (case hsz => (unfold sizeLine; omega)))
  | ((with_reducible show wpAny _ _ (subscriptTail _ (Expr.Slice (some _) (some _) none _) _ _) _ _ _); (refine slice_strN_ss (hsz := ?hsz) (s := ⟨_, _, _, _, _⟩) F' N' ?_); (case hsz => (unfold sizeLine; omega)))))
local macro_rules | `(tactic| walk_at "subscriptTail") => `(tactic| (k_here; (with_reducible show wpAny _ _ (subscriptTail _ (Expr.Slice _ _ _ _) (Value.str _ _) (Value.ref _)) _ _ _); walk_at "mine slice"; intro _ _ _ _ _))
local macro_rules | `(tactic| walk_at "eval ListComp") => `(tactic| (k_here; k_dflt (refine LCg.ListComp_U (F₀ := by k_asm) (by with_unfolding_all rfl) (by decide) (by rfl) (by decide) (by rfl) ?_)))
local macro_rules | `(tactic| walk_at "exec For Tuple Call") => `(tactic| (k_here; k_dflt (refine wpAny_For ?_)))
local macro_rules | `(tactic| walk_at "call builtin:len") => `(tactic| (k_here; (with_reducible show wpAny _ _ (call (Value.builtin "len") [Value.str _ _]) _ _ _); (refine len_bound (by first | assumption | omega) ?_); intro tk' t'))
local macro_rules | `(tactic| walk_at "exec Assign cons ListComp") => `(tactic| (k_here; k_dflt (refine LCg.Assign_ListComp_U (F₀ := by k_asm) (by rfl) (by with_unfolding_all rfl) (by with_unfolding_all rfl) (by decide) (by rfl) (by decide) (by rfl) (by rfl) (by rfl) ?_)))
local macro_rules | `(tactic| walk_at "binaryOp Mult") => `(tactic| (k_here; (with_reducible show wpAny _ _ (binaryOp Operator.Mult (Value.ref _) (Value.int _ _)) _ _ _); (refine rep_N (n := _) (by k_asm) (by k_asm) (by k_mem) ?hk ?hn ?_; (case' hk => rfl); (case' hn => omega)); intro D' h' F' N' l1'))
local macro_rules | `(tactic| walk_at "call type:enumerate") => `(tactic| (k_here; (with_reducible show wpAny _ _ (call (Value.type "enumerate") [Value.str _ _]) _ _ _); k_dflt (refine enum_N2 (by assumption) (by k_asm) (by k_asm) ?_); intro e' it' h' F' N' en'))
theorem allLt_mem {D : Addr} : ∀ {l : List (Addr × Obj)}, AllLt D l → ∀ p ∈ l, p.1 < D
  | [], _, p, hp => by cases hp
  | q :: r, h, p, hp => by
    rcases List.mem_cons.mp hp with rfl | hp
    · exact h.1
    · exact allLt_mem h.2 p hp
set_option hygiene false in
local macro_rules | `(tactic| walk_at "subscriptTail") => `(tactic| (k_here; (with_reducible show wpAny _ _ (subscriptTail _ _ (Value.ref _) (Value.int _ _)) _ _ _); k_dflt (first
  | refine sub_int (by first | walk_at "mine lst" | exact row_list (by k_asm) (by k_mem) (by assumption)) sub0 (by omega) (by omega) ?_
  | refine sub_int (by first | walk_at "mine lst" | exact row_list (by k_asm) (by k_mem) (by assumption)) sub1 (by omega) (by omega) ?_
  | refine sub_int (by first | walk_at "mine lst" | exact row_list (by k_asm) (by k_mem) (by assumption)) sub2 (by omega) (by omega) ?_
  | refine sub_int (by first | walk_at "mine lst" | exact row_list (by k_asm) (by k_mem) (by assumption)) sub3 (by omega) (by omega) ?_
  | refine sub_int (by first | walk_at "mine lst" | exact row_list (by k_asm) (by k_mem) (by assumption)) sub4 (by omega) (by omega) ?_)))
theorem item_eq_iff2 {x y : Str} {i j : Nat} (hx : i < x.length) (hy : j < y.length) : (Txt.item x (i : Int) == Txt.item y (j : Int)) = true ↔ (tx x)[i]? = (tx y)[j]? := by
  have h1 : i < (tx x).length := by rw [tx_len]; exact hx
  have h2 : j < (tx y).length := by rw [tx_len]; exact hy
  rw [item_at x hx, item_at y hy, st_beq, beq_iff_eq, List.getElem?_eq_getElem h1, List.getElem?_eq_getElem h2]
  simp
/-- LCSSeq._dynamic: the answer is as long as the table says -/
theorem dynamic_c {prog : Program} {w : World} (fill : PySem.Challenge.rw_ah5039_01 = PySem.Challenge.rw_ah5039_01 ∧ hd.heap_39 = hd.heap_39) (self : Value) (x y : Str) (tx' ty' : Tok) (hx : x.length ≤ 20) (hy : y.length ≤ 20) (ax : x.cps.all (· < 128) = true) (ay : y.cps.all (· < 128) = true) :
    Tells1 prog w (hd.heap_39 w.params) 3 60 (.ref 203) [self, .str x tx', .str y ty'] (fun _ => True) (fun v _ _ => ∃ r t, v = .str r t ∧ r.length = lcsT (tx x) (tx y) x.length y.length) := by
  revert fill
  k_fill
  intro _
  intro p loose mean mg mb dp un gd outer A₀ base s Q B X T hdp hu hI ret
  k_dflt (refine' enterC (binds := [("self", self), ("seq1", .str x tx'), ("seq2", .str y ty')]) ?k3 ?k5 ?k6 ?k7 ?k8 ?k9 ?kK ?kN ?_ ?c2 ?c3 ?c4; (case k3 => k_asm); (case k5 => k_asm); (case k6 => k_is); (case k7 => k_is); (case k8 => ktr_room); (case k9 => exact BindsTo.of_eq rfl); (case kK => rfl); (case kN => decide +kernel); (case c2 => exact rfl); (case c3 => exact rfl); (case c4 => exact rfl))
  intro L h₁ tk cells F N Y
  k_cells Y
  try simp only [List.cons_append, List.nil_append] at N
  dsimp only
  try k_fold
  walk_at "mine go"
  rename IsRange _ _ _ _ _ _ _ _ => hr
  rename Fr _ _ _ _ => F
  rename News _ _ _ _ => N
  refine LCg.CompSrc.range (n := x.length + 1) rfl F N hr (small_up (by omega) (by omega) (by omega) (by omega)) (by rw [rangeSize_one]; split <;> omega) (by unfold sizeLine; omega) ?_
  intro g'
  refine rest_J (fun i ys nw => ∃ own oY, nw = (L + 1, oY) :: own ∧ oY.data = .cell (some (.str y ty')) ∧ OwnOff own [L + 1] ∧ RowsIs own ys i (y.length + 1) (fun _ _ => 0)) (fun _ _ _ _ => trivial) ⟨[], _, rfl, by assumption, (fun p hp => nomatch hp), ⟨rfl, fun q hq => absurd hq (Nat.not_lt_zero _), by simp⟩⟩ ?turn ?fin
  case turn =>
    clear F N hr
    rintro i ys nw v I oI C oC D m₂ h tk E' hin hyl hP ⟨own, oY, rfl, dY, hoff, hrows⟩ hC hx9 F N off ne
    obtain ⟨t, rfl⟩ := hP
    walk_at "mine go"
    rename Fr _ _ _ _ => F3
    rename News _ _ _ _ => N3
    rename _ ∧ _ => hD3
    rename Tok => tz
    have hown : ∀ p ∈ own, p.1 < _ := fun p hp => allLt_mem hD3.2.2.2.2.2 p hp
    refine turn_push2 F3 N3 off (Nat.ne_of_gt hD3.2.1) (Nat.ne_of_gt hD3.2.2.1) (Nat.ne_of_gt hD3.2.2.2.1) ⟨_ :: own, oY, rfl, dY, ownoff_cons hoff ?_, RowsIs.snoc hrows (its := (List.replicate ((y.length : Int) + 1).toNat [Value.int 0 _]).flatten) (fun p hp => Nat.ne_of_lt (hown p hp)) ⟨rfl, 0, rfl⟩ ?_ ?_⟩
    · intro b hb
      rw [List.mem_singleton.mp hb]
      exact Nat.ne_of_gt hD3.2.2.2.2.1
    · rw [lm_rep_flat_one]; simp
    · intro j hj
      rw [lm_rep_flat_one]
      exact ⟨_, by rw [List.getElem?_replicate, if_pos (by omega)]⟩
  case fin =>
    clear F N hr
    rintro ys nw hyl ⟨own, oY, rfl, dY, hoff, hrows⟩
    walk_at "mine go"
    rename Fr _ _ _ _ => F
    rename News _ _ _ _ => N
    rename EnumNew _ _ _ _ _ _ _ _ => en
    refine iterE rfl (fun i m news => m "seq1" = some (.str x tx') ∧ ∃ lg own oY, m "lengths" = some (.ref lg) ∧ news = (lg, LCg.lst ys) :: (L + 1, oY) :: own ∧ oY.data = .cell (some (.str y ty')) ∧ OwnOff own [lg, L + 1] ∧ lg ≠ L + 1
      ∧ RowsIs own ys (x.length + 1) (y.length + 1) (fun q j => if q ≤ i then (lcsT (tx x) (tx y) q j : Nat) else 0)) en F N
      ?j0 ?turn ?done
    case j0 =>
      refine ⟨rfl, _, own, oY, rfl, rfl, dY, ?j1, ?j2, ?j3⟩
      case j1 =>
        rename _ ∧ _ => ho9
        exact ownoff_add hoff (off1_all ho9.2)
      case j2 =>
        rename _ ∧ _ => ho9
        exact Ne.symm ho9.1
      refine hrows.to fun a b ha hb => ?_
      split
      · rename_i h0
        have : a = 0 := by omega
        subst this
        simp [lcsT]
      · rfl
    case turn =>
      try clear F N
      rintro e1 it1 i c m₁ news₁ oe oi T' ti tc h tk hc ⟨hs1, lg, own, oY, hlg, rfl, dY, hoff, n1, hrows⟩ off offi nei neT niT hnT F N
      replace F := Fr.name "lengths" _ (Fr.name "seq1" _ F hs1) hlg
      have off' := off
      have offi' := offi
      simp only [LCg.Off1, and_true] at off offi
      walk_at "mine go"
      have hil : i < x.length := (Array.getElem?_eq_some_iff.mp hc).1
      have hoffA : ∀ p ∈ own, p.1 ≠ lg ∧ p.1 ≠ L + 1 := fun p hp => ⟨hoff p hp _ (by simp), hoff p hp _ (by simp)⟩
      try clear F N
      rename EnumNew _ _ _ _ _ _ _ _ => en2
      rename Fr _ _ _ _ => F
      rename News _ _ _ _ => N
      refine iterE rfl (fun j m news => m "seq1" = some (.str x tx') ∧ m "lengths" = some (.ref lg) ∧ m "i" = some (.int (i : Int) ti) ∧ m "char1" = some (.str ⟨#[c]⟩ tc) ∧ ∃ own oY, news = (T', ({ cls := .type "tuple", data := .seq #[.int (i : Int) ti, .str ⟨#[c]⟩ tc] } : Obj)) :: (e1, oe) :: (it1, oi) :: (lg, LCg.lst ys) :: (L + 1, oY) :: own ∧ oY.data = .cell (some (.str y ty'))
        ∧ OwnOff own [T', e1, it1, lg, L + 1] ∧ RowsIs own ys (x.length + 1) (y.length + 1) (fun q j' => if q ≤ i then (lcsT (tx x) (tx y) q j' : Nat) else if q = i + 1 ∧ j' ≤ j then (lcsT (tx x) (tx y) q j' : Nat) else 0)) en2 F N ?k0 ?turn2 ?done2
      case k0 =>
        refine ⟨rfl, rfl, rfl, rfl, own, oY, rfl, dY, ?_, hrows.to fun a b ha hb => ?_⟩
        · exact ownoff_add (ownoff_add (ownoff_add hoff (off1_all offi.2.2)) (off1_all off.2.2)) fun p hp => hnT p (.tail _ (.tail _ hp))
        · try dsimp only
          split
          · rfl
          · split
            · rename_i h1 h2
              have : b = 0 := by omega
              subst this
              rw [lcsT_zero_right]; rfl
            · rfl
      case turn2 =>
        clear F N en2
        rintro e2 it2 j c2 m₂ news₂ oe2 oi2 T2 ti2 tc2 h tk hc2 ⟨hs2, hlg2, hi2, hch2, own2, oY2, rfl, dY2, hoff2, hrows2⟩ off2 offi2 nei2 neT2 niT2 hnT2 F N
        replace F := Fr.name "char1" _ (Fr.name "i" _ (Fr.name "lengths" _ (Fr.name "seq1" _ F hs2) hlg2) hi2) hch2
        have hjl : j < y.length := (Array.getElem?_eq_some_iff.mp hc2).1
        obtain ⟨R0, o0, its0, sub0, hm0, hr0, hl0, hv0⟩ := hrows2.row i (by omega)
        obtain ⟨R1, o1, its1, sub1, hm1, hr1, hl1, hv1⟩ := hrows2.row (i + 1) (by omega)
        obtain ⟨t00, sub2⟩ := hv0 j (by omega)
        obtain ⟨t01, sub3⟩ := hv0 (j + 1) (by omega)
        obtain ⟨t10, sub4⟩ := hv1 j (by omega)
        have N2 := N
        replace N : News _ _ _ ((R1, o1) :: (R0, o0) :: _) := fun p hp => by
          rcases List.mem_cons.mp hp with rfl | hp
          · exact N _ (.tail _ (.tail _ (.tail _ (.tail _ (.tail _ (.tail _ (.tail _ (.tail _ hm1))))))))
          · rcases List.mem_cons.mp hp with rfl | hp
            · exact N _ (.tail _ (.tail _ (.tail _ (.tail _ (.tail _ (.tail _ (.tail _ (.tail _ hm0))))))))
            · exact N p hp
        have hR1 : ∀ b ∈ [T', e1, it1, lg, L + 1], R1 ≠ b := fun b hb => hoff2 _ hm1 b hb
        have hRe : R1 ≠ e2 := off1_all off2 (R1, o1) (.tail _ (.tail _ (.tail _ (.tail _ (.tail _ hm1)))))
        have hRi : R1 ≠ it2 := off1_all offi2 (R1, o1) (.tail _ (.tail _ (.tail _ (.tail _ (.tail _ hm1)))))
        have hset : ∀ (h9 : Heap) (big : List (Addr × Obj)), News s.heap L h9 big → (∀ p ∈ (e2, oe2) :: (it2, oi2) :: (T', ({ cls := .type "tuple", data := .seq #[.int (i : Int) ti, .str ⟨#[c]⟩ tc] } : Obj)) :: (e1, oe) :: (it1, oi) :: (lg, LCg.lst ys) :: (L + 1, oY2) :: own2, p ∈ big) →
            ∀ p ∈ (e2, oe2) :: (it2, oi2) :: (T', ({ cls := .type "tuple", data := .seq #[.int (i : Int) ti, .str ⟨#[c]⟩ tc] } : Obj)) :: (e1, oe) :: (it1, oi) :: (lg, LCg.lst ys) :: (L + 1, oY2) :: without R1 own2, p ∈ big ∧ p.1 ≠ R1 := by
          intro h9 big _ hsub p hp
          simp only [List.mem_cons] at hp
          rcases hp with rfl | rfl | rfl | rfl | rfl | rfl | rfl | hp
          · exact ⟨hsub _ (by simp), Ne.symm hRe⟩
          · exact ⟨hsub _ (by simp), Ne.symm hRi⟩
          · exact ⟨hsub _ (by simp), Ne.symm (hR1 _ (by simp))⟩
          · exact ⟨hsub _ (by simp), Ne.symm (hR1 _ (by simp))⟩
          · exact ⟨hsub _ (by simp), Ne.symm (hR1 _ (by simp))⟩
          · exact ⟨hsub _ (by simp), Ne.symm (hR1 _ (by simp))⟩
          · exact ⟨hsub _ (by simp), Ne.symm (hR1 _ (by simp))⟩
          · have := without_mem.mp hp
            exact ⟨hsub _ (by simp [this.1]), this.2⟩
        walk_at "mine go"
        all_goals
          rename Fr _ _ _ _ => F3
          rename News _ _ _ _ => N3
          refine set_M (n := j + 1) F3 N3 (.head _) hr1 (by omega) (by omega) (by omega) _ (hset _ _ N3 fun p hp => .tail _ (.tail _ (.tail _ hp))) ?_
          intro h9 o9 F9 N9 hr9
          walk_at "mine go"
          refine TurnE.intro F9 N9 ((T', ({ cls := .type "tuple", data := .seq #[.int (i : Int) ti, .str ⟨#[c]⟩ tc] } : Obj)) :: (e1, oe) :: (it1, oi) :: (lg, LCg.lst ys) :: (L + 1, oY2) :: (R1, o9) :: without R1 own2) ?_
            ⟨off2.1, off2.2.1, off2.2.2.1, off2.2.2.2.1, off2.2.2.2.2.1, off1_without off2.2.2.2.2.2 hRe⟩ ⟨offi2.1, offi2.2.1, offi2.2.2.1, offi2.2.2.2.1, offi2.2.2.2.2.1, off1_without offi2.2.2.2.2.2 hRi⟩
            ⟨rfl, rfl, rfl, rfl, _, oY2, rfl, dY2, ownoff_without hoff2 hR1, (RowsIs.set hrows2 sub1 hl1 hv1 hr9).to fun a b ha hb => ?_⟩
          · intro p hp
            simp only [List.mem_cons] at hp ⊢
            rcases hp with h | h | h | h | h | h | h | h | h <;> simp [h]
        all_goals
          have gx : (tx x)[i]? = some c := by rw [← hc]; exact Array.getElem?_toList ..
          have gy : (tx y)[j]? = some c2 := by rw [← hc2]; exact Array.getElem?_toList ..
          have gT : lcsT (tx x) (tx y) (i + 1) (j + 1) = if (tx x)[i]? = (tx y)[j]? then lcsT (tx x) (tx y) i j + 1 else max (lcsT (tx x) (tx y) (i + 1) j) (lcsT (tx x) (tx y) i (j + 1)) := by rw [lcsT]
          rw [gx, gy] at gT
        · have ee : c = c2 := by
            have := ‹((⟨#[c]⟩ : Str) == ⟨#[c2]⟩) = true›
            simpa using this
          rw [if_pos (by rw [ee])] at gT
          exact rows_eq gT
        · have ee : c ≠ c2 := by
            have := ‹((⟨#[c]⟩ : Str) == ⟨#[c2]⟩) = false›
            intro e9
            rw [e9] at this
            simp at this
          rw [if_neg (by simpa using ee)] at gT
          first | exact rows_ne gT | exact rows_ne2 gT
      case done2 =>
        clear F N en2
        rintro m₂ news₂ h tk ⟨hs2, hlg2, hi2, hch2, own2, oY2, rfl, dY2, hoff2, hrows2⟩ F N
        walk_at "mine go"
        refine TurnE.intro F N ((lg, LCg.lst ys) :: (L + 1, oY2) :: own2) (fun p hp => .tail _ hp) ⟨off.1, off.2.1, off1_of (OwnOff.ne hoff2 (by simp))⟩ ⟨offi.1, offi.2.1, off1_of (OwnOff.ne hoff2 (by simp))⟩
          ⟨hs2, lg, own2, oY2, hlg2, rfl, dY2, fun p hp b hb => hoff2 p hp b (by simp at hb ⊢; rcases hb with h | h <;> simp [h]), n1, hrows2.to fun a b ha hb => ?_⟩
        by_cases h1 : a ≤ i
        · simp only [if_pos h1, if_pos (Nat.le_succ_of_le h1)]
        · by_cases h2 : a = i + 1
          · simp only [if_neg h1]
            rw [if_pos ⟨h2, Nat.le_of_lt_succ hb⟩, if_pos (by omega)]
          · simp only [if_neg h1]
            rw [if_neg (fun h => h2 h.1), if_neg (by omega)]
    case done =>
      try clear F N
      rintro m₁ news₁ h tk ⟨hs1, lg, own, oY, hlg, rfl, dY, hoff, n1, hrows⟩ F N
      replace F := Fr.name "lengths" _ (Fr.name "seq1" _ F hs1) hlg
      walk_at "mine go"
      rename Fr _ _ _ _ => F
      rename News _ _ _ _ => N
      have ax9 : x.cps.size = x.length := rfl
      have hrows' : RowsIs own ys (x.length + 1) (y.length + 1) (fun q j => ((lcsT (tx x) (tx y) q j : Nat) : Int)) := hrows.to fun a b ha hb => by
        rw [ax9, if_pos (by omega)]
      refine mid_J (h₀ := s.heap) (L := L) (fun m news => ∃ r t, m "result" = some (.str r t) ∧ r.length = lcsT (tx x) (tx y) x.length y.length) ?hw ?hk
      case hk =>
        clear F N
        rintro h tk m news F N ⟨r, t, hr, hrl⟩
        replace F := Fr.name "result" _ F hr
        walk_at "mine go"
        rename Fr _ _ _ _ => F2
        exact ret _ _ _ F2.keep ⟨_, _, rfl, hrl⟩
      case hw =>
        refine While_inv2 (n₀ := x.length + y.length) (fun n m news => m "seq1" = some (.str x tx') ∧ m "lengths" = some (.ref lg) ∧ news = (lg, LCg.lst ys) :: (L + 1, oY) :: own ∧ ∃ i j r ti tj tr, m "i" = some (.int (i : Nat) ti) ∧ m "j" = some (.int (j : Nat) tj) ∧ m "result" = some (.str r tr) ∧ i ≤ x.length ∧ j ≤ y.length ∧ n = i + j ∧ r.length + lcsT (tx x) (tx y) i j = lcsT (tx x) (tx y) x.length y.length) F (fun p hp => N p (.tail _ hp))
          ⟨rfl, rfl, rfl, x.length, y.length, _, _, _, _, rfl, rfl, rfl, Nat.le_refl _, Nat.le_refl _, rfl, by rw [show (Str.ofString "").length = 0 from by decide +kernel]; exact Nat.zero_add _⟩ ?wturn
        case wturn =>
          clear F N
          rintro n m₂ news₂ h tk F N ⟨hs2, hlg2, rfl, i, j, r, ti, tj, tr, hi2, hj2, hr2, hib, hjb, rfl, hsum⟩
          replace F := Fr.name "result" _ (Fr.name "j" _ (Fr.name "i" _ (Fr.name "lengths" _ (Fr.name "seq1" _ F hs2) hlg2) hi2) hj2) hr2
          have hrl : r.length ≤ 20 := by
            have := lcsT_le (tx x) (tx y) x.length y.length
            omega
          rcases Nat.eq_zero_or_pos i with hi0 | hi0
          · subst hi0
            rw [lcsT_zero_left] at hsum
            walk_at "mine go"
            all_goals exact AfterJ.intro F N [] (fun p hp => nomatch hp) ⟨_, _, rfl, by omega⟩
          · rcases Nat.eq_zero_or_pos j with hj0 | hj0
            · subst hj0
              rw [lcsT_zero_right] at hsum
              walk_at "mine go"
              all_goals exact AfterJ.intro F N [] (fun p hp => nomatch hp) ⟨_, _, rfl, by omega⟩
            · obtain ⟨R0, o0, its0, sub0, hm0, hr0, hl0, hv0⟩ := hrows'.row (i - 1) (by omega)
              obtain ⟨R1, o1, its1, sub1, hm1, hr1, hl1, hv1⟩ := hrows'.row i (by omega)
              obtain ⟨t00, sub2⟩ := hv1 j (by omega)
              obtain ⟨t01, sub3⟩ := hv0 j (by omega)
              obtain ⟨t10, sub4⟩ := hv1 (j - 1) (by omega)
              replace N : News _ _ _ ((R1, o1) :: (R0, o0) :: _) := fun p hp => by
                rcases List.mem_cons.mp hp with rfl | hp
                · exact N _ (.tail _ (.tail _ hm1))
                · rcases List.mem_cons.mp hp with rfl | hp
                  · exact N _ (.tail _ (.tail _ hm0))
                  · exact N p hp
              have hstep := lcsT_step (tx x) (tx y) hi0 hj0
              have ei : ((i : Int) - 1) = ((i - 1 : Nat) : Int) := by omega
              have ej : ((j : Int) - 1) = ((j - 1 : Nat) : Int) := by omega
              walk_at "mine go"
              all_goals try (exfalso; omega)
              · rename Fr _ _ _ _ => F9
                rename News _ _ _ _ => N9
                rw [ei] at F9
                exact ⟨_, _, _, _, i - 1 + j, rfl, F9, (fun p hp => N9 p (.tail _ (.tail _ hp))), by omega, rfl, rfl, rfl, i - 1, j, r, _, _, _, rfl, rfl, rfl, by omega, hjb, rfl, by omega⟩
              · rename Fr _ _ _ _ => F9
                rename News _ _ _ _ => N9
                rw [ej] at F9
                exact ⟨_, _, _, _, i + (j - 1), rfl, F9, (fun p hp => N9 p (.tail _ (.tail _ hp))), by omega, rfl, rfl, rfl, i, j - 1, r, _, _, _, rfl, rfl, rfl, hib, by omega, rfl, by omega⟩
              · rename Fr _ _ _ _ => F9
                rename News _ _ _ _ => N9
                rename (_ == _) = true => hq
                rw [ei, ej] at hq
                have hq' := (item_eq_iff2 (by omega) (by omega)).mp hq
                rw [if_pos hq'] at hstep
                rw [ei, ej] at F9
                exact ⟨_, _, _, _, i - 1 + (j - 1), rfl, F9, (fun p hp => N9 p (.tail _ (.tail _ hp))), by omega, rfl, rfl, rfl, i - 1, j - 1, Txt.item x ((i - 1 : Nat) : Int) ++ r, _, _, _, rfl, rfl, rfl, by omega, by omega, rfl, by rw [← ei]; omega⟩
              · rename (_ == _) = false => hq
                rw [ei, ej] at hq
                rw [if_neg (fun e => by rw [(item_eq_iff2 (by omega) (by omega)).mpr e] at hq; cases hq)] at hstep
                omega

end Mine

end

section
open PySem PySem.W PySem.Calls PyProof.Rows
set_option Elab.async false
set_option maxRecDepth 100000
set_option maxHeartbeats 4000000
namespace Mine
/-- a zip over plain texts -/
structure ZN (h : Heap) (z TI TO : Addr) (its : List Addr) (f0 f1 : Value) : Prop where
  hz : h.get? z = some { cls := .type "zip", dict := none, data := .fields #[f0, f1, .bool false, .ref TI, .ref TO], slots := #[] }
  hTI : h.get? TI = some { cls := .type "tuple", data := .seq (its.map Value.ref).toArray }
  hTO : ∃ kept : Array Value, kept.size = its.length ∧ h.get? TO = some { cls := .type "tuple", data := .seq kept }
def ItAt (h : Heap) (it : Addr) (x : Str) (k : Nat) : Prop := ∃ t, h.IsStrIter it (strIterType x) x t k
theorem next_item_U {prog : Program} {w : World} {A : Around} {E : Value → Shared → Prop} {s : Shared} {it : Addr} {x : Str} {t : Tok} {i c : Nat} {Q : Value → Shared → Prop} (hit : s.heap.IsStrIter it (strIterType x) x t i) (hx : x.cps[i]? = some c)
    (hQ : ∀ h', h'.IsStrIter it (strIterType x) x t (i + 1) → Heap.SameBut it s.heap h' → Q (.str ⟨#[c]⟩ s.toks) { s with heap := h', toks := s.toks + 1 }) :
    wpAny (model prog w) A (Builtin.SmallTypes.nextOf (.ref it)) Q E s := by
  unfold strIterType at hit hQ
  split at hit
  · rename_i h9
    simp only [h9, if_true] at hQ
    exact wpAny_nextOf_ascii_item hit hx hQ
  · rename_i h9
    simp only [h9, if_false] at hQ
    exact wpAny_nextOf_wide_item hit hx hQ
theorem next_end_U {prog : Program} {w : World} {A : Around} {E : Value → Shared → Prop} {s : Shared} {it : Addr} {x : Str} {t : Tok} {i : Nat} {Q : Value → Shared → Prop} (hh : A.handled = none)
    (hit : s.heap.IsStrIter it (strIterType x) x t i) (hx : x.cps[i]? = none)
    (hE : ∀ h' e, Heap.ExtBut it s.heap h' → (∃ o, h'.get? e = some o ∧ o.cls = .type "StopIteration") → E (.ref e) { s with heap := h' }) :
    wpAny (model prog w) A (Builtin.SmallTypes.nextOf (.ref it)) Q E s := by
  unfold strIterType at hit
  split at hit
  · exact wpAny_nextOf_ascii_end hh hit hx hE
  · exact wpAny_nextOf_wide_end hh hit hx hE
section
variable {prog : Program} {w : World} {A : Around} {E : Value → Shared → Prop} {s : Shared}
theorem upd_kept {T : Addr} {kept : Array Value} {x : Value} {k : Nat} {Q : Unit → Shared → Prop} (hT : s.heap.get? T = some { cls := .type "tuple", data := .seq kept }) (hz : kept.size ≤ sizeLine)
    (h : ∀ h', h'.get? T = some { cls := .type "tuple", data := .seq (kept.setIfInBounds k x) } → Heap.SameBut T s.heap h' → Q () { s with heap := h' }) :
    wpAny (model prog w) A (updateSeq T (·.setIfInBounds k x)) Q E s := by
  refine wpAny_updateSeq hT rfl (h _ ?_ (Heap.SameBut.update ..)) hz (by simp; omega)
  rw [Heap.get?_update_self _ hT rfl]
  simp [Obj.mapSeq]
/-- where the texts' iterators stand -/
def AtAll (h : Heap) (its : List Addr) (xs : List Str) (pos : Nat → Nat) : Prop := ∀ j it, its[j]? = some it → ∃ x, xs[j]? = some x ∧ ItAt h it x (pos j)
theorem AtAll.but {h h' : Heap} {its : List Addr} {xs : List Str} {pos : Nat → Nat} (H : AtAll h its xs pos) (k : ∀ it ∈ its, ∀ o, h.get? it = some o → h'.get? it = some o) : AtAll h' its xs pos := fun j it hj => by
  obtain ⟨x, hx, t, o, ho, r⟩ := H j it hj
  exact ⟨x, hx, t, o, k it (List.mem_of_getElem? hj) o ho, r⟩
theorem drop_cons {α : Type} {l rest : List α} {x : α} {j : Nat} (h : l.drop j = x :: rest) : l[j]? = some x ∧ l.drop (j + 1) = rest := by
  have h1 : l[j]? = some x := by
    have := congrArg (fun l => l[0]?) h
    simpa using this
  refine ⟨h1, ?_⟩
  have := congrArg List.tail h
  simpa using this
theorem drop_nil {α : Type} {l : List α} {j : Nat} (h : l.drop j = []) (hj : j ≤ l.length) : j = l.length := by
  have := congrArg List.length h
  simp at this; omega
theorem zn_next0 {z TI TO : Addr} {its : List Addr} {xs : List Str} {Q : Value → Shared → Prop} {k : Nat}
    (Z : ZN s.heap z TI TO its .none (.bool false)) (hnd : (z :: TI :: TO :: its).Nodup) (hat : AtAll s.heap its xs fun _ => k) (hk : ∀ x ∈ xs, k < x.length) (hne : its ≠ []) (hsz : its.length ≤ 1000) 
    (hQ : ∀ h' tk (vals : List Value) (T : Addr), ZN h' z TI TO its (rawInt T) (.bool false) → AtAll h' its xs (fun _ => k + 1) → T = s.heap.objs.size → IsTup h' T vals.toArray → vals.length = its.length →
      (∀ j x, xs[j]? = some x → j < its.length → ∃ c t, x.cps[k]? = some c ∧ vals[j]? = some (.str ⟨#[c]⟩ t)) → (∀ c o, c ≠ z → c ≠ TO → c ∉ its → s.heap.get? c = some o → h'.get? c = some o) → Q (.ref T) { s with heap := h', toks := tk }) :
    wpAny (model prog w) A (Builtin.«zip.__next__» ⟨[.ref z], []⟩) (fun fin s' => ∃ v, fin = .done (.ret v) ∧ Q v s') E s := by
  obtain ⟨hz, hTI, kept, hks, hTO⟩ := Z
  have nzTI : z ≠ TI := by intro e; subst e; simp at hnd
  have nzTO : z ≠ TO := by intro e; subst e; simp at hnd
  have nTITO : TI ≠ TO := by intro e; subst e; simp at hnd
  have nzi : z ∉ its := by simp at hnd; exact fun h => hnd.1.2.2 h
  have nTIi : TI ∉ its := by simp at hnd; exact fun h => hnd.2.1.2 h
  have nTOi : TO ∉ its := by simp at hnd; exact fun h => hnd.2.2.1 h
  have ndi : its.Nodup := by simp at hnd; exact hnd.2.2.2
  show wpAny _ _ (field (.ref z) 2 >>= _) _ _ _
  refine wpAny_bind (wpAny_field hz rfl (x := .bool false) rfl ?_)
  show wpAny _ _ (field (.ref z) 3 >>= _) _ _ _
  refine wpAny_bind (wpAny_field hz rfl (x := .ref TI) rfl ?_)
  refine wpAny_bind (wpAny_seqItems hTI rfl ?_)
  have he : ((its.map Value.ref).toArray).isEmpty = false := by cases its with | nil => exact absurd rfl hne | cons a r => rfl
  simp only [he, Bool.false_eq_true, if_false]
  show wpAny _ _ (Builtin.SmallTypes.ownedTupleIsFree (.ref z) >>= _) _ _ _
  refine wpAny_bind ?_
  unfold Builtin.SmallTypes.ownedTupleIsFree
  refine wpAny_bind (wpAny_field hz rfl (x := .none) rfl (wpAny_pure ?_))
  simp only [if_true]
  refine wpAny_bind (wpAny_rule ?_)
  refine wpAny_bind (wpAny_field hz rfl (x := .ref TO) rfl ?_)
  refine wpAny_bind (wpAny_setField_rec hz (by simp) fun h₁ hz₁ hs₁ => ?_)
  replace hz₁ : h₁.get? z = some { cls := .type "zip", dict := none, data := .fields #[.ellipsis, .bool false, .bool false, .ref TI, .ref TO], slots := #[] } := hz₁
  refine wpAny_bind ?_
  refine wpAny_forIn_list _ (fun rest b s' => ∃ (j : Nat) (h' : Heap) (tk : Nat) (kept : Array Value), b = (none, ()) ∧ rest = (its.map Value.ref).zipIdx.drop j ∧ j ≤ its.length ∧ s' = { s with heap := h', toks := tk } ∧ h'.objs.size = s.heap.objs.size ∧
      h'.get? z = some { cls := .type "zip", dict := none, data := .fields #[.ellipsis, .bool false, .bool false, .ref TI, .ref TO], slots := #[] } ∧ kept.size = its.length ∧ h'.get? TO = some { cls := .type "tuple", data := .seq kept } ∧
      AtAll h' its xs (fun q => if q < j then k + 1 else k) ∧ (∀ q x, q < j → xs[q]? = some x → ∃ c t, x.cps[k]? = some c ∧ kept[q]? = some (.str ⟨#[c]⟩ t)) ∧ (∀ c o, c ≠ z → c ≠ TO → c ∉ its → s.heap.get? c = some o → h'.get? c = some o)) _ ?turn ?fin _ _ ?init
  case init =>
    refine ⟨0, h₁, s.toks, kept, rfl, rfl, Nat.zero_le _, rfl, hs₁.1, hz₁, hks, hs₁.extBut _ _ (Ne.symm nzTO) hTO, ?_, fun q x hq => absurd hq (Nat.not_lt_zero _), fun c o h1 _ _ e => hs₁.extBut _ _ h1 e⟩
    exact AtAll.but hat fun it hi o e => hs₁.extBut _ _ (fun e9 => nzi (e9 ▸ hi)) e
  case turn =>
    rintro ⟨v, q⟩ rest b s' ⟨j, h', tk, kept', rfl, hrest, hj, rfl, hz', hgz, hks', hgO, hall, hvals, hkp⟩
    obtain ⟨hxj, hrest'⟩ := drop_cons hrest.symm
    have hj2 : j < its.length := by
      have := (List.getElem?_eq_some_iff.mp hxj).1
      simpa using this
    have hit : its[j]? = some (its[j]) := List.getElem?_eq_getElem hj2
    generalize its[j] = it at hit
    have hvq : v = .ref it ∧ q = j := by
      rw [List.getElem?_zipIdx, List.getElem?_map, hit] at hxj
      simp at hxj
      exact ⟨hxj.1.symm, hxj.2.symm⟩
    obtain ⟨rfl, rfl⟩ := hvq
    obtain ⟨x, hx, t, hI⟩ := hall _ _ hit
    simp only [Nat.lt_irrefl, if_false] at hI
    have hxl := hk x (List.mem_of_getElem? hx)
    have hc : x.cps[k]? = some (x.cps[k]'hxl) := Array.getElem?_eq_getElem hxl
    generalize x.cps[k]'hxl = c at hc
    have hitm : it ∈ its := List.mem_of_getElem? hit
    have nit : it ≠ z := fun e => nzi (e ▸ hitm)
    have nit2 : it ≠ TO := fun e => nTOi (e ▸ hitm)
    refine wpAny_bind (wpAny_onRaise ?_)
    show wpAny _ _ (Builtin.SmallTypes.nextOf (.ref it) >>= _) _ _ _
    refine wpAny_bind (next_item_U hI hc fun h₂ hI₂ hs₂ => wpAny_pure ?_)
    have hO₂ := hs₂.extBut _ _ (Ne.symm nit2) hgO
    refine wpAny_bind (wpAny_seqItems hO₂ rfl ?_)
    refine wpAny_bind (upd_kept hO₂ (by rw [hks']; unfold sizeLine; omega) fun h₃ hO₃ hs₃ => ?_)
    refine wpAny_bind (wpAny_letGo (wpAny_pure ?_))
    refine ⟨_ + 1, h₃, _, _, rfl, hrest'.symm, hj2, rfl, by rw [hs₃.1, hs₂.1, hz'], hs₃.extBut _ _ nzTO (hs₂.extBut _ _ (Ne.symm nit) hgz), by simpa using hks', hO₃, ?_, ?_, ?_⟩
    · intro q' it' hq'
      by_cases e : it' = it
      · subst e
        have : q' = q := (List.getElem?_inj (List.getElem?_eq_some_iff.mp hq').1 ndi).mp (by rw [hq', hit])
        subst this
        refine ⟨x, hx, t, ?_⟩
        dsimp only
        rw [if_pos (Nat.lt_succ_self _)]
        exact hI₂.extBut hs₃.extBut nit2
      · obtain ⟨x', hx', t', hI'⟩ := hall _ _ hq'
        refine ⟨x', hx', t', ?_⟩
        have ne : q' ≠ q := fun e9 => by subst e9; rw [hit] at hq'; exact e (Option.some.inj hq').symm
        have hi' : it' ∈ its := List.mem_of_getElem? hq'
        have := (hI'.extBut hs₂.extBut e).extBut hs₃.extBut (fun e => nTOi (e ▸ hi'))
        dsimp only at this ⊢
        by_cases hlt : q' < q
        · rw [if_pos (by omega)]; rw [if_pos hlt] at this; exact this
        · rw [if_neg (by omega)]; rw [if_neg hlt] at this; exact this
    · intro q' x' hq' hx'
      by_cases e : q' = q
      · subst e
        rw [hx] at hx'; cases hx'
        exact ⟨c, _, hc, by rw [Array.getElem?_setIfInBounds_self_of_lt (by omega)]⟩
      · obtain ⟨c', t', a, b⟩ := hvals q' x' (by omega) hx'
        exact ⟨c', t', a, by rw [Array.getElem?_setIfInBounds_ne (by omega)]; exact b⟩
    · intro c' o h1 h2 h3 e
      exact hs₃.extBut _ _ h2 (hs₂.extBut _ _ (fun e9 => h3 (e9 ▸ hitm)) (hkp c' o h1 h2 h3 e))
  case fin =>
    rintro b s' ⟨j, h', tk, kept', rfl, hrest, hj, rfl, hz', hgz, hks', hgO, hall, hvals, hkp⟩
    have hjl : j = its.length := by
      have := drop_nil hrest.symm (by simpa using hj)
      simpa using this
    subst hjl
    dsimp only
    refine wpAny_bind (wpAny_seqItems hgO rfl ?_)
    refine wpAny_bind (wpAny_newTuple ?_ (by simp [hks']; unfold sizeLine; omega))
    unfold Builtin.SmallTypes.ownedTupleHandOut
    have hzlt : z < h'.objs.size := Heap.lt_size hgz
    have hz₆ := Heap.get?_push_of_some ({ cls := .type "tuple", data := .seq kept'.toList.toArray } : Obj) hgz
    refine wpAny_bind (wpAny_bind (wpAny_setField_rec hz₆ (by simp) fun h₇ hz₇ hs₇ => ?_))
    refine wpAny_setField_rec hz₇ (by simp) fun h₈ hz₈ hs₈ => ?_
    have up : ∀ c o, c ≠ z → h'.get? c = some o → h₈.get? c = some o := fun c o c1 e => hs₈.extBut _ _ c1 (hs₇.extBut _ _ c1 (Heap.get?_push_of_some _ e))
    have hT₈ : h₈.get? h'.objs.size = some { cls := .type "tuple", data := .seq kept'.toList.toArray } := hs₈.extBut _ _ (Nat.ne_of_gt hzlt) (hs₇.extBut _ _ (Nat.ne_of_gt hzlt) (Heap.get?_push_size _ rfl))
    refine wpAny_pure ⟨_, rfl, ?_⟩
    refine hQ h₈ _ kept'.toList _ ⟨hz₈, up _ _ (Ne.symm nzTI) (hkp _ _ (Ne.symm nzTI) nTITO nTIi hTI), kept', hks', up _ _ (Ne.symm nzTO) hgO⟩ ?_ hz' ⟨_, hT₈, rfl, _, rfl⟩ (by simpa using hks') (fun q x hx hq => ?_) fun c o h1 h2 h3 e => up _ _ h1 (hkp _ _ h1 h2 h3 e)
    · intro q it hq
      obtain ⟨x, hx, hI⟩ := hall q it hq
      dsimp only at hI
      rw [if_pos (List.getElem?_eq_some_iff.mp hq).1] at hI
      obtain ⟨t, hI⟩ := hI
      obtain ⟨o, ho, r⟩ := hI
      exact ⟨x, hx, t, o, up _ _ (fun e9 => nzi (e9 ▸ List.mem_of_getElem? hq)) ho, r⟩
    · obtain ⟨c, t, a, b⟩ := hvals q x hq hx
      exact ⟨c, t, a, by simpa using b⟩
end
end Mine
namespace Mine
section
variable {prog : Program} {w : World} {A : Around} {E : Value → Shared → Prop} {s : Shared}
theorem any_loadIfAlive {M : Model} {a : Addr} {Q : Option Obj → Shared → Prop} (h : Q (s.heap.get? a) s) : wpAny M A (loadIfAlive a) Q E s := fun Γ p hΓ => by
  unfold loadIfAlive
  rw [Sem.wp_loadIfAlive]
  exact wpAny_pure h Γ p hΓ
/-- the owned tuple is still held: not free -/
theorem zn_notFree {z TI TO T : Addr} {its : List Addr} {b : Bool} {oT : Obj} {Q : Bool → Shared → Prop} (Z : ZN s.heap z TI TO its (rawInt T) (.bool b)) (hzI : z ≠ TI) (hzO : z ≠ TO) (hT : s.heap.get? T = some oT)
    (h : ∀ h', ZN h' z TI TO its (rawInt T) (.bool true) → Heap.SameBut z s.heap h' → Q false { s with heap := h' }) : wpAny (model prog w) A (Builtin.SmallTypes.ownedTupleIsFree (.ref z)) Q E s := by
  obtain ⟨hz, hTI, kept, hks, hTO⟩ := id Z
  unfold Builtin.SmallTypes.ownedTupleIsFree
  refine wpAny_bind (wpAny_field hz rfl (x := rawInt T) rfl ?_)
  show wpAny _ _ (loadIfAlive (T : Int).toNat >>= _) _ _ _
  refine wpAny_bind (any_loadIfAlive ?_)
  rw [Int.toNat_natCast, hT]
  simp only [Option.isNone_some, Bool.false_eq_true, if_false]
  show wpAny _ _ (field (.ref z) 1 >>= _) _ _ _
  refine wpAny_bind (wpAny_field hz rfl (x := .bool b) rfl ?_)
  cases b with
  | true =>
    rw [show (Value.bool true != Value.bool true) = false from by decide]
    simp only [Bool.false_eq_true, if_false]
    exact wpAny_pure (h _ Z (.refl ..))
  | false =>
    rw [show (Value.bool false != Value.bool true) = true from by decide]
    simp only [if_true]
    refine wpAny_bind (wpAny_setField_rec hz (by simp) fun h₁ hz₁ hs₁ => wpAny_pure (h _ ⟨hz₁, hs₁.extBut _ _ (Ne.symm hzI) hTI, kept, hks, hs₁.extBut _ _ (Ne.symm hzO) hTO⟩ hs₁))
theorem zn_next1 {z TI TO T0 : Addr} {its : List Addr} {xs : List Str} {Q : Value → Shared → Prop} {k : Nat} {b : Bool} {oT : Obj}
    (Z : ZN s.heap z TI TO its (rawInt T0) (.bool b)) (hT0 : s.heap.get? T0 = some oT) (hnd : (z :: TI :: TO :: its).Nodup) (hat : AtAll s.heap its xs fun _ => k) (hk : ∀ x ∈ xs, k < x.length) (hne : its ≠ []) (hsz : its.length ≤ 1000)
    (hQ : ∀ h' tk (vals : List Value) (T : Addr), ZN h' z TI TO its (rawInt T0) (.bool true) → AtAll h' its xs (fun _ => k + 1) → T = s.heap.objs.size → IsTup h' T vals.toArray → vals.length = its.length →
      (∀ j x, xs[j]? = some x → j < its.length → ∃ c t, x.cps[k]? = some c ∧ vals[j]? = some (.str ⟨#[c]⟩ t)) → (∀ c o, c ≠ z → c ≠ TO → c ∉ its → s.heap.get? c = some o → h'.get? c = some o) → Q (.ref T) { s with heap := h', toks := tk }) :
    wpAny (model prog w) A (Builtin.«zip.__next__» ⟨[.ref z], []⟩) (fun fin s' => ∃ v, fin = .done (.ret v) ∧ Q v s') E s := by
  obtain ⟨hz, hTI, kept, hks, hTO⟩ := id Z
  have nzTI : z ≠ TI := by intro e; subst e; simp at hnd
  have nzTO : z ≠ TO := by intro e; subst e; simp at hnd
  have nTITO : TI ≠ TO := by intro e; subst e; simp at hnd
  have nzi : z ∉ its := by simp at hnd; exact fun h => hnd.1.2.2 h
  have nTIi : TI ∉ its := by simp at hnd; exact fun h => hnd.2.1.2 h
  have nTOi : TO ∉ its := by simp at hnd; exact fun h => hnd.2.2.1 h
  have ndi : its.Nodup := by simp at hnd; exact hnd.2.2.2
  show wpAny _ _ (field (.ref z) 2 >>= _) _ _ _
  refine wpAny_bind (wpAny_field hz rfl (x := .bool false) rfl ?_)
  show wpAny _ _ (field (.ref z) 3 >>= _) _ _ _
  refine wpAny_bind (wpAny_field hz rfl (x := .ref TI) rfl ?_)
  refine wpAny_bind (wpAny_seqItems hTI rfl ?_)
  have he : ((its.map Value.ref).toArray).isEmpty = false := by cases its with | nil => exact absurd rfl hne | cons a r => rfl
  simp only [he, Bool.false_eq_true, if_false]
  show wpAny _ _ (Builtin.SmallTypes.ownedTupleIsFree (.ref z) >>= _) _ _ _
  refine wpAny_bind (zn_notFree Z nzTI nzTO hT0 fun h₁ Z₁ hs₁ => ?_)
  simp only [Bool.false_eq_true, if_false]
  refine wpAny_bind ?_
  refine wpAny_forIn_array' _ (fun rest b s' => ∃ (j : Nat) (h' : Heap) (tk : Nat) (acc : Array Value), b = (none, acc) ∧ rest = (its.map Value.ref).drop j ∧ j ≤ its.length ∧ s' = { s with heap := h', toks := tk } ∧ h'.objs.size = s.heap.objs.size ∧
      acc.size = j ∧ AtAll h' its xs (fun q => if q < j then k + 1 else k) ∧ (∀ q x, q < j → xs[q]? = some x → ∃ c t, x.cps[k]? = some c ∧ acc[q]? = some (.str ⟨#[c]⟩ t)) ∧ (∀ c o, c ∉ its → h₁.get? c = some o → h'.get? c = some o)) _ ?turn ?fin _ _ ?init
  case init =>
    refine ⟨0, h₁, s.toks, #[], rfl, by simp, Nat.zero_le _, rfl, hs₁.1, rfl, ?_, fun q x hq => absurd hq (Nat.not_lt_zero _), fun c o _ e => e⟩
    exact AtAll.but hat fun it hi o e => hs₁.extBut _ _ (fun e9 => nzi (e9 ▸ hi)) e
  case turn =>
    rintro v rest b s' ⟨j, h', tk, acc, rfl, hrest, hj, rfl, hz', haj, hall, hvals, hkp⟩
    obtain ⟨hxj, hrest'⟩ := drop_cons hrest.symm
    have hj2 : j < its.length := by
      have := (List.getElem?_eq_some_iff.mp hxj).1
      simpa using this
    have hit : its[j]? = some (its[j]) := List.getElem?_eq_getElem hj2
    generalize its[j] = it at hit
    have hvq : v = .ref it := by
      rw [List.getElem?_map, hit] at hxj
      simp at hxj
      exact hxj.symm
    subst hvq
    obtain ⟨x, hx, t, hI⟩ := hall _ _ hit
    simp only [Nat.lt_irrefl, if_false] at hI
    have hxl := hk x (List.mem_of_getElem? hx)
    have hc : x.cps[k]? = some (x.cps[k]'hxl) := Array.getElem?_eq_getElem hxl
    generalize x.cps[k]'hxl = c at hc
    have hitm : it ∈ its := List.mem_of_getElem? hit
    refine wpAny_bind (wpAny_holding ?_)
    show wpAny _ _ (Builtin.SmallTypes.nextOf (.ref it) >>= _) _ _ _
    refine wpAny_bind (next_item_U hI hc fun h₂ hI₂ hs₂ => wpAny_pure ?_)
    refine wpAny_pure ?_
    refine ⟨j + 1, h₂, _, _, rfl, hrest'.symm, hj2, rfl, by rw [hs₂.1, hz'], by simp [haj], ?_, ?_, ?_⟩
    · intro q' it' hq'
      by_cases e : it' = it
      · subst e
        have : q' = j := (List.getElem?_inj (List.getElem?_eq_some_iff.mp hq').1 ndi).mp (by rw [hq', hit])
        subst this
        refine ⟨x, hx, t, ?_⟩
        dsimp only
        rw [if_pos (Nat.lt_succ_self _)]
        exact hI₂
      · obtain ⟨x', hx', t', hI'⟩ := hall _ _ hq'
        refine ⟨x', hx', t', ?_⟩
        have ne : q' ≠ j := fun e9 => by subst e9; rw [hit] at hq'; exact e (Option.some.inj hq').symm
        have := (hI'.extBut hs₂.extBut e)
        dsimp only at this ⊢
        by_cases hlt : q' < j
        · rw [if_pos (by omega)]; rw [if_pos hlt] at this; exact this
        · rw [if_neg (by omega)]; rw [if_neg hlt] at this; exact this
    · intro q' x' hq' hx'
      by_cases e : q' = j
      · subst e
        rw [hx] at hx'; cases hx'
        refine ⟨c, tk, hc, ?_⟩
        show (acc.push _)[q']? = _
        rw [← haj, Array.getElem?_push_size]
      · obtain ⟨c', t', a, b⟩ := hvals q' x' (by omega) hx'
        refine ⟨c', t', a, ?_⟩
        show (acc.push _)[q']? = _
        rw [Array.getElem?_push, if_neg (by omega)]
        exact b
    · intro c' o h3 e
      exact hs₂.extBut _ _ (fun e9 => h3 (e9 ▸ hitm)) (hkp c' o h3 e)
  case fin =>
    rintro b s' ⟨j, h', tk, acc, rfl, hrest, hj, rfl, hz', haj, hall, hvals, hkp⟩
    have hjl : j = its.length := by
      have := drop_nil hrest.symm (by simpa using hj)
      simpa using this
    subst hjl
    dsimp only
    refine wpAny_bind (wpAny_newTuple ?_ (by simp [haj]; unfold sizeLine; omega))
    obtain ⟨hz₁, hTI₁, kept₁, hks₁, hTO₁⟩ := Z₁
    have up : ∀ c o, c ∉ its → h₁.get? c = some o → (h'.push { cls := .type "tuple", data := .seq acc.toList.toArray }).get? c = some o := fun c o h1 e => Heap.get?_push_of_some _ (hkp _ _ h1 e)
    refine wpAny_pure ⟨_, rfl, ?_⟩
    refine hQ _ _ acc.toList _ ⟨up _ _ nzi hz₁, up _ _ nTIi hTI₁, kept₁, hks₁, up _ _ nTOi hTO₁⟩ ?_ hz' ⟨_, Heap.get?_push_size _ rfl, rfl, _, rfl⟩ (by simpa using haj) (fun q x hx hq => ?_) fun c o h1 h2 h3 e => up _ _ h3 (hs₁.extBut _ _ h1 e)
    · intro q it hq
      obtain ⟨x, hx, hI⟩ := hall q it hq
      dsimp only at hI
      rw [if_pos (List.getElem?_eq_some_iff.mp hq).1] at hI
      obtain ⟨t, hI⟩ := hI
      obtain ⟨o, ho, r⟩ := hI
      exact ⟨x, hx, t, o, Heap.get?_push_of_some _ ho, r⟩
    · obtain ⟨c, t, a, b⟩ := hvals q x hq hx
      exact ⟨c, t, a, by simpa using b⟩
theorem zn_end {z TI TO T0 : Addr} {its : List Addr} {xs : List Str} {Q : Fin → Shared → Prop} {k : Nat} {b : Bool} {oT : Obj} (hh : A.handled = none)
    (Z : ZN s.heap z TI TO its (rawInt T0) (.bool b)) (hT0 : s.heap.get? T0 = some oT) (hnd : (z :: TI :: TO :: its).Nodup) (hat : AtAll s.heap its xs fun _ => k) (hlx : xs.length = its.length) (hend : ∃ x ∈ xs, x.length ≤ k)
    (hE : ∀ h' tk e, (∀ c o, c ≠ z → c ≠ TO → c ∉ its → s.heap.get? c = some o → h'.get? c = some o) → (∃ o, h'.get? e = some o ∧ o.cls = .type "StopIteration") → E (.ref e) { s with heap := h', toks := tk }) :
    wpAny (model prog w) A (Builtin.«zip.__next__» ⟨[.ref z], []⟩) Q E s := by
  obtain ⟨hz, hTI, kept, hks, hTO⟩ := id Z
  have nzTI : z ≠ TI := by intro e; subst e; simp at hnd
  have nzTO : z ≠ TO := by intro e; subst e; simp at hnd
  have nzi : z ∉ its := by simp at hnd; exact fun h => hnd.1.2.2 h
  have ndi : its.Nodup := by simp at hnd; exact hnd.2.2.2
  have hne : its ≠ [] := by
    rintro rfl
    obtain ⟨x, hx, _⟩ := hend
    have : xs = [] := List.eq_nil_of_length_eq_zero (by simpa using hlx)
    rw [this] at hx; cases hx
  show wpAny _ _ (field (.ref z) 2 >>= _) _ _ _
  refine wpAny_bind (wpAny_field hz rfl (x := .bool false) rfl ?_)
  show wpAny _ _ (field (.ref z) 3 >>= _) _ _ _
  refine wpAny_bind (wpAny_field hz rfl (x := .ref TI) rfl ?_)
  refine wpAny_bind (wpAny_seqItems hTI rfl ?_)
  have he : ((its.map Value.ref).toArray).isEmpty = false := by cases its with | nil => exact absurd rfl hne | cons a r => rfl
  simp only [he, Bool.false_eq_true, if_false]
  show wpAny _ _ (Builtin.SmallTypes.ownedTupleIsFree (.ref z) >>= _) _ _ _
  refine wpAny_bind (zn_notFree Z nzTI nzTO hT0 fun h₁ Z₁ hs₁ => ?_)
  simp only [Bool.false_eq_true, if_false]
  refine wpAny_bind ?_
  refine wpAny_forIn_array' _ (fun rest b s' => ∃ (j : Nat) (h' : Heap) (tk : Nat) (acc : Array Value), b = (none, acc) ∧ rest = (its.map Value.ref).drop j ∧ j ≤ its.length ∧ s' = { s with heap := h', toks := tk } ∧
      (∀ q x, q < j → xs[q]? = some x → k < x.length) ∧ AtAll h' its xs (fun q => if q < j then k + 1 else k) ∧ (∀ c o, c ∉ its → h₁.get? c = some o → h'.get? c = some o)) _ ?turn ?fin _ _ ?init
  case init =>
    refine ⟨0, h₁, s.toks, #[], rfl, by simp, Nat.zero_le _, rfl, fun q x hq => absurd hq (Nat.not_lt_zero _), ?_, fun c o _ e => e⟩
    exact AtAll.but hat fun it hi o e => hs₁.extBut _ _ (fun e9 => nzi (e9 ▸ hi)) e
  case turn =>
    rintro v rest b s' ⟨j, h', tk, acc, rfl, hrest, hj, rfl, hbig, hall, hkp⟩
    obtain ⟨hxj, hrest'⟩ := drop_cons hrest.symm
    have hj2 : j < its.length := by
      have := (List.getElem?_eq_some_iff.mp hxj).1
      simpa using this
    have hit : its[j]? = some (its[j]) := List.getElem?_eq_getElem hj2
    generalize its[j] = it at hit
    have hvq : v = .ref it := by
      rw [List.getElem?_map, hit] at hxj
      simp at hxj
      exact hxj.symm
    subst hvq
    obtain ⟨x, hx, t, hI⟩ := hall _ _ hit
    simp only [Nat.lt_irrefl, if_false] at hI
    have hitm : it ∈ its := List.mem_of_getElem? hit
    refine wpAny_bind (wpAny_holding ?_)
    show wpAny _ _ (Builtin.SmallTypes.nextOf (.ref it) >>= _) _ _ _
    rcases Nat.lt_or_ge k x.length with hxl | hxl
    · have hc : x.cps[k]? = some (x.cps[k]'hxl) := Array.getElem?_eq_getElem hxl
      generalize x.cps[k]'hxl = c at hc
      refine wpAny_bind (next_item_U hI hc fun h₂ hI₂ hs₂ => wpAny_pure ?_)
      refine wpAny_pure ?_
      refine ⟨j + 1, h₂, _, _, rfl, hrest'.symm, hj2, rfl, ?_, ?_, ?_⟩
      · intro q' x' hq' hx'
        by_cases e : q' = j
        · subst e
          rw [hx] at hx'; cases hx'
          exact hxl
        · exact hbig q' x' (by omega) hx'
      · intro q' it' hq'
        by_cases e : it' = it
        · subst e
          have : q' = j := (List.getElem?_inj (List.getElem?_eq_some_iff.mp hq').1 ndi).mp (by rw [hq', hit])
          subst this
          refine ⟨x, hx, t, ?_⟩
          dsimp only
          rw [if_pos (Nat.lt_succ_self _)]
          exact hI₂
        · obtain ⟨x', hx', t', hI'⟩ := hall _ _ hq'
          refine ⟨x', hx', t', ?_⟩
          have ne : q' ≠ j := fun e9 => by subst e9; rw [hit] at hq'; exact e (Option.some.inj hq').symm
          have := (hI'.extBut hs₂.extBut e)
          dsimp only at this ⊢
          by_cases hlt : q' < j
          · rw [if_pos (by omega)]; rw [if_pos hlt] at this; exact this
          · rw [if_neg (by omega)]; rw [if_neg hlt] at this; exact this
      · intro c' o h3 e
        exact hs₂.extBut _ _ (fun e9 => h3 (e9 ▸ hitm)) (hkp c' o h3 e)
    · refine wpAny_bind (next_end_U hh hI (Array.getElem?_eq_none hxl) fun h₂ e9 hs₂ he9 => ?_)
      exact hE h₂ _ e9 (fun c o h1 h2 h3 e => hs₂ _ _ (fun e9 => h3 (e9 ▸ hitm)) (hkp c o h3 (hs₁.extBut _ _ h1 e))) he9
  case fin =>
    rintro b s' ⟨j, h', tk, acc, rfl, hrest, hj, rfl, hbig, hall, hkp⟩
    exfalso
    have hjl : j = its.length := by
      have := drop_nil hrest.symm (by simpa using hj)
      simpa using this
    obtain ⟨x, hx, hxk⟩ := hend
    obtain ⟨q, hq, e⟩ := List.getElem_of_mem hx
    have := hbig q x (by omega) (by rw [List.getElem?_eq_getElem hq, e])
    omega
end
end Mine

end

section
open PySem PySem.W PySem.Calls PyProof.Rows
set_option Elab.async false
set_option maxRecDepth 100000
set_option maxHeartbeats 4000000
namespace Mine
theorem typeCall_zip (vs : List Value) : checkTypeCall "zip" ⟨vs, []⟩ = pure () := by kernel_rfl
theorem newCall_zip (a : Value) (vs : List Value) : checkBuiltinCall "zip.__new__" ⟨.type "zip" :: a :: vs, []⟩ = pure () := by kernel_rfl
theorem args_object_init_n (a : Value) (vs : List Value) : argsOk "object.__init__" ⟨a :: vs, []⟩ := by
  unfold argsOk; rw [signature?_of (id := "object.__init__") (n := ['_', '_', 't', 'i', 'n', 'i', '_', '_']) (o := ['t', 'c', 'e', 'j', 'b', 'o']) (by kernel_rfl) PySem.F.owner_object]; kernel_rfl
theorem zip_no_len : typeLookup (.type "zip") "__len__" = pure none := by rw [typeLookup_type, builtinLookup_eq_fast]; kernel_rfl
theorem zip_no_hint : typeLookup (.type "zip") "__length_hint__" = pure none := by rw [typeLookup_type, builtinLookup_eq_fast]; kernel_rfl
section
variable {prog : Program} {w : World} {A : Around} {E : Value → Shared → Prop} {s : Shared}
theorem any_iterAll {vs : List Value} {xs : List Str} {Q : List Value → Shared → Prop} (hv : StrsAre vs xs)
    (h : ∀ h' (its : List Addr), its.length = xs.length → (∀ it ∈ its, s.heap.objs.size ≤ it ∧ it < h'.objs.size) → its.Nodup → AtAll h' its xs (fun _ => 0) → s.heap.StaysIn h' → s.heap.objs.size ≤ h'.objs.size → Q (its.map Value.ref) { s with heap := h' }) :
    wpAny (model prog w) A (Builtin.SmallTypes.iterAll vs) Q E s := by
  have hl := strs_len hv
  unfold Builtin.SmallTypes.iterAll
  refine wpAny_bind ?_
  refine wpAny_forIn_list _ (fun rest b s' => ∃ (j : Nat) (h' : Heap) (its : List Addr), b = (its.map Value.ref).toArray ∧ rest = vs.drop j ∧ j ≤ vs.length ∧ s' = { s with heap := h' } ∧ its.length = j ∧
      (∀ it ∈ its, s.heap.objs.size ≤ it ∧ it < h'.objs.size) ∧ its.Nodup ∧ AtAll h' its xs (fun _ => 0) ∧ s.heap.StaysIn h' ∧ s.heap.objs.size ≤ h'.objs.size) _ ?turn ?fin _ _ ?init
  case init => exact ⟨0, s.heap, [], rfl, rfl, Nat.zero_le _, rfl, rfl, (by simp), List.nodup_nil, (fun j it hj => by simp at hj), (fun _ _ e => e), Nat.le_refl _⟩
  case turn =>
    rintro v rest b s' ⟨j, h', its, rfl, hrest, hj, rfl, hil, hin, hnd, hat, hst, hle⟩
    obtain ⟨hvj, hrest'⟩ := drop_cons hrest.symm
    have hj2 : j < vs.length := (List.getElem?_eq_some_iff.mp hvj).1
    obtain ⟨t, rfl⟩ := SetStr.strs_at hv j v hvj
    have hxj : xs[j]? = some (xs.getD j Str.empty) := by
      rw [List.getD_eq_getElem?_getD, List.getElem?_eq_getElem (by omega)]; rfl
    generalize xs.getD j Str.empty = x at *
    refine wpAny_bind (wpAny_holding (wpAny_pyIter_strU (wpAny_pure ?_)))
    have up : ∀ b o, h'.get? b = some o → (h'.push { cls := .type (strIterType x), data := .fields #[.str x t, .int 0 0] }).get? b = some o := fun b o e => Heap.get?_push_of_some _ e
    refine ⟨j + 1, _, its ++ [h'.objs.size], by simp, hrest'.symm, hj2, rfl, by simp [hil], ?_, ?_, ?_, fun b o e => up _ _ (hst _ _ e), by rw [Heap.size_push]; exact Nat.le_succ_of_le hle⟩
    · intro it hit
      rw [Heap.size_push]
      rcases List.mem_append.mp hit with hit | hit
      · exact ⟨(hin it hit).1, Nat.lt_succ_of_lt (hin it hit).2⟩
      · rw [List.mem_singleton.mp hit]
        exact ⟨hle, Nat.lt_succ_self _⟩
    · rw [List.nodup_append]
      refine ⟨hnd, by simp, fun a ha b hb => ?_⟩
      rw [List.mem_singleton.mp hb]
      exact Nat.ne_of_lt (hin a ha).2
    · intro q it hq
      rcases Nat.lt_or_ge q its.length with hlt | hge
      · rw [List.getElem?_append_left hlt] at hq
        obtain ⟨x', hx', t', o, ho, r⟩ := hat q it hq
        exact ⟨x', hx', t', o, up _ _ ho, r⟩
      · rw [List.getElem?_append_right hge] at hq
        have hq0 : q = its.length := by
          rcases Nat.lt_or_ge (q - its.length) 1 with h1 | h1
          · omega
          · rw [List.getElem?_eq_none (by simpa using h1)] at hq; cases hq
        subst hq0
        simp at hq
        subst hq
        exact ⟨x, by rw [hil]; exact hxj, t, _, Heap.get?_push_size _ rfl, rfl, rfl⟩
  case fin =>
    rintro b s' ⟨j, h', its, rfl, hrest, hj, rfl, hil, hin, hnd, hat, hst, hle⟩
    have hjl : j = vs.length := drop_nil hrest.symm hj
    refine wpAny_pure ?_
    simp only [List.toList_toArray]
    exact h h' its (by omega) hin hnd hat hst hle
theorem meets_zip_n (vs : List Value) (xs : List Str) : Meets (Builtin.«zip.__new__» ⟨.type "zip" :: vs, []⟩) (fun _ R s => StrsAre vs xs ∧ xs.length ≤ 1000 ∧
    (∀ h' (z TI TO : Addr) (its : List Addr), ZN h' z TI TO its .none (.bool false) → (z :: TI :: TO :: its).Nodup → AtAll h' its xs (fun _ => 0) → its.length = xs.length → (∀ a ∈ z :: TI :: TO :: its, s.heap.objs.size ≤ a ∧ a < h'.objs.size) → s.heap.StaysIn h' → R (.ok (.ret (.ref z))) { s with heap := h' })) :=
  .of_wp fun prog w A R s h => by
    obtain ⟨hv, hlen, h⟩ := h
    have hsub := sub_zip
    have hnc : ∀ (Q : Value × List Value → Shared → Prop) (E : Value → Shared → Prop) (s : Shared), Q (.type "zip", vs) s → wpAny (model prog w) A.in1 (Builtin.SmallTypes.newClass "zip" ⟨.type "zip" :: vs, []⟩) Q E s := by
      intro Q E s h
      obtain ⟨hp, g, d, tk, os⟩ := s
      wp_walk
      exact h
    show wpAny _ _ (Builtin.SmallTypes.newClass "zip" ⟨.type "zip" :: vs, []⟩ >>= _) _ _ _
    refine wpAny_bind (hnc _ _ _ ?_)
    dsimp only [List.length_nil]
    rw [if_neg (by decide)]
    refine wpAny_bind (any_iterAll hv fun h₁ its hil hin hnd hat hst hbase => ?_)
    refine wpAny_bind (wpAny_newTuple ?_ (by simp [hil]; unfold sizeLine; omega))
    refine wpAny_bind (wpAny_newTuple ?_ (by simp [hil]; unfold sizeLine; omega))
    refine wpAny_bind ?_
    simp only [Builtin.SmallTypes.newRecord]
    refine wpAny_newObj_type ?_ (by first | rfl | exact True.intro | (simp [sizeOk, Builtin.SmallTypes.ownedTupleFields]; unfold sizeLine; decide))
    refine wpAny_pure ⟨_, rfl, ?_⟩
    generalize hh2 : h₁.push { cls := .type "tuple", data := .seq (its.map Value.ref).toArray } = h₂
    have s2 : h₂.objs.size = h₁.objs.size + 1 := by rw [← hh2, Heap.size_push]
    have g1 : h₂.get? h₁.objs.size = some { cls := .type "tuple", data := .seq (its.map Value.ref).toArray } := by rw [← hh2]; exact Heap.get?_push_size _ rfl
    have u2 : ∀ b o, h₁.get? b = some o → h₂.get? b = some o := fun b o e => by rw [← hh2]; exact Heap.get?_push_of_some _ e
    generalize hh3 : h₂.push { cls := .type "tuple", data := .seq (List.map (fun _ => Value.none) (its.map Value.ref)).toArray } = h₃
    have s3 : h₃.objs.size = h₂.objs.size + 1 := by rw [← hh3, Heap.size_push]
    have g2 : h₃.get? h₂.objs.size = some { cls := .type "tuple", data := .seq (List.map (fun _ => Value.none) (its.map Value.ref)).toArray } := by rw [← hh3]; exact Heap.get?_push_size _ rfl
    have u3 : ∀ b o, h₂.get? b = some o → h₃.get? b = some o := fun b o e => by rw [← hh3]; exact Heap.get?_push_of_some _ e
    have u4 : ∀ (ob : Obj) b o, h₃.get? b = some o → (h₃.push ob).get? b = some o := fun ob b o e => Heap.get?_push_of_some _ e
    have hbig : ∀ it ∈ its, it < h₁.objs.size := fun it hit => (hin it hit).2
    refine h _ h₃.objs.size h₁.objs.size h₂.objs.size its ⟨Heap.get?_push_size _ rfl, u4 _ _ _ (u3 _ _ g1), _, by simp, u4 _ _ _ g2⟩ ?_ ?_ hil ?_ fun b o e => u4 _ _ _ (u3 _ _ (u2 _ _ (hst _ _ e)))
    · simp only [List.nodup_cons, List.mem_cons, not_or]
      have q1 : h₁.objs.size < h₃.objs.size := by omega
      have q2 : h₂.objs.size < h₃.objs.size := by omega
      have q3 : h₁.objs.size < h₂.objs.size := by omega
      refine ⟨⟨Nat.ne_of_gt q1, Nat.ne_of_gt q2, fun hm => ?_⟩, ⟨Nat.ne_of_lt q3, fun hm => ?_⟩, fun hm => ?_, hnd⟩
      · exact Nat.lt_irrefl _ (Nat.lt_trans (hbig _ hm) q1)
      · exact Nat.lt_irrefl _ (hbig _ hm)
      · exact Nat.lt_irrefl _ (Nat.lt_trans (hbig _ hm) q3)
    · exact AtAll.but hat fun it _ o e => u4 _ _ _ (u3 _ _ (u2 _ _ e))
    · intro a ha9
      rw [Heap.size_push]
      simp only [List.mem_cons] at ha9
      show s.heap.objs.size ≤ a ∧ a < h₃.objs.size + 1
      rcases ha9 with rfl | rfl | rfl | hm
      · exact ⟨by omega, Nat.lt_succ_self _⟩
      · exact ⟨hbase, Nat.lt_succ_of_lt (show h₁.objs.size < h₃.objs.size by omega)⟩
      · exact ⟨Nat.le_trans hbase (show h₁.objs.size ≤ h₂.objs.size by omega), Nat.lt_succ_of_lt (show h₂.objs.size < h₃.objs.size by omega)⟩
      · exact ⟨(hin a hm).1, Nat.lt_trans (hbig a hm) (by omega)⟩
theorem call_zip_n {vs : List Value} {xs : List Str} {Q : Value → Shared → Prop} (hv : StrsAre vs xs) (hne : xs ≠ []) (hlen : xs.length ≤ 1000)
    (h : ∀ h' (z TI TO : Addr) (its : List Addr), ZN h' z TI TO its .none (.bool false) → (z :: TI :: TO :: its).Nodup → AtAll h' its xs (fun _ => 0) → its.length = xs.length → (∀ a ∈ z :: TI :: TO :: its, s.heap.objs.size ≤ a ∧ a < h'.objs.size) → s.heap.StaysIn h' → Q (.ref z) { s with heap := h' }) :
    wpAny (model prog w) A (call (.type "zip") vs) Q E s := by
  cases vs with
  | nil => exact absurd (List.eq_nil_of_length_eq_zero (strs_len hv).symm) hne
  | cons v r =>
    refine callType_new PySem.F.called_zip (by decide) (typeCall_zip _) (newCall_zip _ _) (fun obj => args_object_init_n obj _) PySem.F.entry_zip_new (meets_zip_n (v :: r) xs) ⟨hv, hlen, fun h' z TI TO its Z nd at0 hl hfr hst => ?_⟩
    exact ⟨⟨_, Z.hz, rfl⟩, h h' z TI TO its Z nd at0 hl hfr hst⟩
end
end Mine

end

section
open PySem PySem.W PySem.Calls PyProof.Rows
set_option Elab.async false
set_option maxRecDepth 100000
set_option maxHeartbeats 4000000
namespace Mine
/-- a zip at its k-th draw; what it has handed out lies at N1 and above, all of its own below -/
structure ZS (h : Heap) (z TI TO : Addr) (its : List Addr) (xs : List Str) (N1 : Nat) (k : Nat) : Prop where
  f : (k = 0 ∧ ZN h z TI TO its .none (.bool false)) ∨ (∃ (T0 : Addr) (oT : Obj) (b : Bool), ZN h z TI TO its (rawInt T0) (.bool b) ∧ h.get? T0 = some oT ∧ N1 ≤ T0)
  at_ : AtAll h its xs (fun _ => k)
theorem ZN.but {h h' : Heap} {z TI TO : Addr} {its : List Addr} {f0 f1 : Value} (Z : ZN h z TI TO its f0 f1) (k : ∀ a, a = z ∨ a = TI ∨ a = TO → ∀ o, h.get? a = some o → h'.get? a = some o) : ZN h' z TI TO its f0 f1 :=
  let ⟨a, b, kept, c, d⟩ := Z; ⟨k _ (.inl rfl) _ a, k _ (.inr (.inl rfl)) _ b, kept, c, k _ (.inr (.inr rfl)) _ d⟩
theorem ZS.but {h h' : Heap} {z TI TO : Addr} {its : List Addr} {xs : List Str} {N1 k : Nat} {S : Addr} (Z : ZS h z TI TO its xs N1 k) (hS : S ∉ z :: TI :: TO :: its) (hSN : S < N1) (kp : ∀ a o, a ≠ S → h.get? a = some o → h'.get? a = some o) : ZS h' z TI TO its xs N1 k := by
  have e1 : ∀ a, a = z ∨ a = TI ∨ a = TO → a ≠ S := by
    rintro a h9 rfl
    rcases h9 with rfl | rfl | rfl <;> simp at hS
  refine ⟨?_, AtAll.but Z.at_ fun it hi o e => kp _ _ (fun e9 => hS (by rw [← e9]; simp [hi])) e⟩
  rcases Z.f with ⟨h0, q⟩ | ⟨T0, oT, b, q, r, t⟩
  · exact .inl ⟨h0, q.but fun a ha o e => kp _ _ (e1 a ha) e⟩
  · exact .inr ⟨T0, oT, b, q.but fun a ha o e => kp _ _ (e1 a ha) e, kp _ _ (fun e9 => by rw [e9] at t; exact absurd t (Nat.not_le.mpr hSN)) r, t⟩
/-- the row of the k-th signs -/
def RowOf (xs : List Str) (k : Nat) (vals : List Value) : Prop := vals.length = xs.length ∧ ∀ (j : Nat) (x : Str), xs[j]? = some x → ∃ c t, x.cps[k]? = some c ∧ vals[j]? = some (Value.str ⟨#[c]⟩ t)
section
variable {prog : Program} {w : World} {A : Around} {E : Value → Shared → Prop} {s : Shared}
theorem zs_type {z TI TO : Addr} {its : List Addr} {xs : List Str} {N1 k : Nat} (Z : ZS s.heap z TI TO its xs N1 k) : s.TypeIs (.ref z) "zip" := by
  rcases Z.f with ⟨_, q⟩ | ⟨_, _, _, q, _⟩
  · exact ⟨_, q.hz, rfl⟩
  · exact ⟨_, q.hz, rfl⟩
theorem zs_item {z TI TO : Addr} {its : List Addr} {xs : List Str} {N1 k : Nat} {Q : Option Value → Shared → Prop} (Z : ZS s.heap z TI TO its xs N1 k) (hnd : (z :: TI :: TO :: its).Nodup) (hlow : ∀ a ∈ z :: TI :: TO :: its, a < N1) (hk : ∀ x ∈ xs, k < x.length) (hne : its ≠ []) (hsz : its.length ≤ 1000) (hl : its.length = xs.length) (hN : N1 ≤ s.heap.objs.size)
    (hQ : ∀ h' tk (vals : List Value) (T : Addr), ZS h' z TI TO its xs N1 (k + 1) → N1 ≤ T → IsTup h' T vals.toArray → RowOf xs k vals → N1 ≤ h'.objs.size → (∀ c o, c ≠ z → c ≠ TO → c ∉ its → s.heap.get? c = some o → h'.get? c = some o) → Q (some (.ref T)) { s with heap := h', toks := tk }) :
    wpAny (model prog w) A (pyNext (.ref z)) Q E s := by
  have hT := zs_type Z
  have fin : ∀ h' tk (vals : List Value) (T : Addr) (T0 : Addr) (b : Bool) (oT : Obj), ZN h' z TI TO its (rawInt T0) (.bool b) → h'.get? T0 = some oT → N1 ≤ T0 → AtAll h' its xs (fun _ => k + 1) → T = s.heap.objs.size → IsTup h' T vals.toArray → vals.length = its.length →
      (∀ j x, xs[j]? = some x → j < its.length → ∃ c t, x.cps[k]? = some c ∧ vals[j]? = some (.str ⟨#[c]⟩ t)) → (∀ c o, c ≠ z → c ≠ TO → c ∉ its → s.heap.get? c = some o → h'.get? c = some o) → Q (some (.ref T)) { s with heap := h', toks := tk } := by
    intro h' tk vals T T0 b oT a0 a1 a2 a3 a4 a5 a6 a7 a8
    have hTl : T < h'.objs.size := a5.lt
    refine hQ h' tk vals T ⟨.inr ⟨T0, oT, b, a0, a1, a2⟩, a3⟩ (by rw [a4]; exact hN) a5 ⟨by rw [a6, hl], fun j x hx => a7 j x hx (by rw [hl]; exact (List.getElem?_eq_some_iff.mp hx).1)⟩ (by rw [a4] at hTl; exact Nat.le_of_lt (Nat.lt_of_le_of_lt hN hTl)) a8
  unfold pyNext
  rcases Z.f with ⟨_, q⟩ | ⟨T0, oT, b, q, r, t⟩
  · refine wpAny_bind (wpAny_attempt (wpAny_callSpecial?_slot (name := Str.ofString "__next__") hT PySem.F.slot_zip_next (wpAny_call_entry PySem.F.slot_zip_next hT PySem.F.entry_zip_next
      (zn_next0 q hnd Z.at_ hk hne hsz fun h' tk vals T a0 a3 a4 a5 a6 a7 a8 => wpAny_pure ?_) (PySem.F.args_zip_next_1 _))))
    have a5' := a5
    obtain ⟨oT, hoT, _⟩ := a5'
    exact fin h' tk vals T T false oT a0 hoT (by rw [a4]; exact hN) a3 a4 a5 a6 a7 a8
  · have hne9 : ∀ a ∈ z :: TI :: TO :: its, T0 ≠ a := fun a ha e => by have := hlow a ha; rw [← e] at this; exact absurd t (Nat.not_le.mpr this)
    refine wpAny_bind (wpAny_attempt (wpAny_callSpecial?_slot (name := Str.ofString "__next__") hT PySem.F.slot_zip_next (wpAny_call_entry PySem.F.slot_zip_next hT PySem.F.entry_zip_next
      (zn_next1 q r hnd Z.at_ hk hne hsz fun h' tk vals T a0 a3 a4 a5 a6 a7 a8 => wpAny_pure ?_) (PySem.F.args_zip_next_1 _))))
    exact fin h' tk vals T T0 true oT a0 (a8 _ _ (hne9 _ (by simp)) (hne9 _ (by simp)) (fun hm => hne9 T0 (by simp [hm]) rfl) r) t a3 a4 a5 a6 a7 a8
theorem zs_end {z TI TO : Addr} {its : List Addr} {xs : List Str} {N1 k : Nat} {Q : Option Value → Shared → Prop} (hh : A.handled = none) (Z : ZS s.heap z TI TO its xs N1 k) (hk0 : k ≠ 0) (hnd : (z :: TI :: TO :: its).Nodup) (hend : ∃ x ∈ xs, x.length ≤ k) (hl : its.length = xs.length)
    (hQ : ∀ h' tk, (∀ c o, c ≠ z → c ≠ TO → c ∉ its → s.heap.get? c = some o → h'.get? c = some o) → Q none { s with heap := h', toks := tk }) :
    wpAny (model prog w) A (pyNext (.ref z)) Q E s := by
  have hT := zs_type Z
  unfold pyNext
  rcases Z.f with ⟨h0, q⟩ | ⟨T0, oT, b, q, r, t⟩
  · exact absurd h0 hk0
  · refine wpAny_bind (wpAny_attempt (wpAny_callSpecial?_slot (name := Str.ofString "__next__") hT PySem.F.slot_zip_next
      (wpAny_call_entry PySem.F.slot_zip_next hT PySem.F.entry_zip_next (zn_end hh q r hnd Z.at_ hl.symm hend fun h' tk e hk he => ?_) (PySem.F.args_zip_next_1 _))))
    obtain ⟨o, ho, hc⟩ := he
    refine wpAny_bind (wpAny_isInstance (T := "StopIteration") (b := true) ⟨o, ho, hc⟩ isSubtype_stop ?_)
    exact wpAny_pure (hQ _ _ hk)
/-- the rows that have been handed out -/
def Rows (h : Heap) (xs : List Str) (N1 : Nat) (acc : Array Value) (k : Nat) : Prop := acc.size = k ∧ ∀ j, j < k → ∃ (T : Addr) (vals : List Value), acc[j]? = some (.ref T) ∧ N1 ≤ T ∧ IsTup h T vals.toArray ∧ RowOf xs j vals
theorem Rows.but {h h' : Heap} {xs : List Str} {N1 k : Nat} {acc : Array Value} (r : Rows h xs N1 acc k) (kp : ∀ a o, N1 ≤ a → h.get? a = some o → h'.get? a = some o) : Rows h' xs N1 acc k :=
  ⟨r.1, fun j hj => let ⟨T, vals, a, b, ⟨o, ho, c⟩, d⟩ := r.2 j hj; ⟨T, vals, a, b, ⟨o, kp _ _ b ho, c⟩, d⟩⟩
theorem zip_loop {R : Result → Shared → Prop} {z TI TO S : Addr} {its : List Addr} {xs : List Str} {N1 n : Nat} {res : Value} (hh : A.handled = none) (hnd : (z :: TI :: TO :: its).Nodup) (hlow : ∀ a ∈ z :: TI :: TO :: its, a < N1) (hS : S ∉ z :: TI :: TO :: its) (hSN : S < N1) (hne : its ≠ []) (hsz : its.length ≤ 1000) (hl : its.length = xs.length)
    (hmin : ∀ x ∈ xs, n ≤ x.length) (hend : ∃ x ∈ xs, x.length ≤ n) (hn0 : n ≠ 0) (hn : n ≤ 1000) :
    ∀ (r k : Nat) (s : Shared) (acc : Array Value) (c : Nat), n - k = r → k ≤ n → ZS s.heap z TI TO its xs N1 k → N1 ≤ s.heap.objs.size → s.heap.get? S = some { cls := .type "list", dict := none, data := .seq acc c, slots := #[] } → Rows s.heap xs N1 acc k →
    (∀ h' tk acc' c', h'.get? S = some { cls := .type "list", dict := none, data := .seq acc' c', slots := #[] } → Rows h' xs N1 acc' n → (∀ c o, c ≠ S → c ≠ z → c ≠ TO → c ∉ its → s.heap.get? c = some o → h'.get? c = some o) → R (.ok (.ret res)) { s with heap := h', toks := tk }) →
    codeAny (model prog w) A (.builtin "list.extend.loop" ⟨[.ref S, .ref z, res], []⟩) R s := by
  have eS : ∀ a ∈ z :: TI :: TO :: its, S ≠ a := fun a ha e => hS (e ▸ ha)
  have keepN : ∀ {h h' : Heap}, (∀ c o, c ≠ z → c ≠ TO → c ∉ its → h.get? c = some o → h'.get? c = some o) → ∀ a o, N1 ≤ a → h.get? a = some o → h'.get? a = some o := fun kp a o ha e => by
    refine kp a o ?_ ?_ ?_ e
    · intro e9; have := hlow z (by simp); rw [← e9] at this; exact absurd ha (Nat.not_le.mpr this)
    · intro e9; have := hlow TO (by simp); rw [← e9] at this; exact absurd ha (Nat.not_le.mpr this)
    · intro e9; have := hlow a (by simp [e9]); exact absurd ha (Nat.not_le.mpr this)
  intro r
  induction r with
  | zero =>
    intro k s acc c hr hk Z hN hS' hrows hR
    have hkn : k = n := by omega
    subst hkn
    refine codeAny_builtin PySem.F.entry_extend_loop ?_
    rw [Around.under_plainId PySem.F.plain_extend_loop _]
    show wpAny _ A.in1 (pyNext (.ref z) >>= _) _ _ s
    refine wpAny_bind (zs_end (A := A.in1) hh Z hn0 hnd hend hl fun h' tk kp => ?_)
    exact wpAny_pure (hR h' tk acc c (kp _ _ (eS _ (by simp)) (eS _ (by simp)) (fun hm => eS S (by simp [hm]) rfl) hS') (hrows.but (keepN kp)) fun c o _ h1 h2 h3 e => kp c o h1 h2 h3 e)
  | succ r ih =>
    intro k s acc c hr hk Z hN hS' hrows hR
    have hlt : k < n := by omega
    refine codeAny_builtin PySem.F.entry_extend_loop ?_
    rw [Around.under_plainId PySem.F.plain_extend_loop _]
    show wpAny _ A.in1 (pyNext (.ref z) >>= _) _ _ s
    refine wpAny_bind (zs_item (A := A.in1) Z hnd hlow (fun x hx => Nat.lt_of_lt_of_le hlt (hmin x hx)) hne hsz hl hN fun h' tk vals T Z' hNT hT hrow hN' kp => ?_)
    have hS2 := kp _ _ (eS _ (by simp)) (eS _ (by simp)) (fun hm => eS S (by simp [hm]) rfl) hS'
    have hTS : T ≠ S := fun e => by rw [e] at hNT; exact absurd hNT (Nat.not_le.mpr hSN)
    show wpAny _ A.in1 (updateSeq S (·.push (.ref T)) >>= _) _ _ _
    refine wpAny_bind ?_
    have oth : ∀ b o, b ≠ S → h'.get? b = some o → (h'.update S (Obj.mapSeq (·.push (Value.ref T)))).get? b = some o := fun b o hb e => (Heap.get?_update_other _ _ (Ne.symm hb)).trans e
    refine wpAny_updateSeq hS2 rfl (wpAny_pure ⟨plainId_quiet PySem.F.plain_extend_loop _, ih (k + 1) _ (acc.push (.ref T)) _ (by omega) hlt (Z'.but hS hSN fun a o ha e => oth a o ha e) ?_ (Heap.get?_update_self _ hS2 rfl) ?_ fun h'' tk'' acc' c' a1 a2 a3 => ?_⟩)
      (by rw [hrows.1]; unfold sizeLine; omega) (by show (acc.push _).size ≤ sizeLine + 1; rw [Array.size_push, hrows.1]; unfold sizeLine; omega)
    · exact Nat.le_trans hN' (Nat.le_of_eq (Heap.SameBut.update h' S (Obj.mapSeq (·.push (Value.ref T)))).1.symm)
    · refine ⟨by rw [Array.size_push, hrows.1], fun j hj => ?_⟩
      by_cases e : j = k
      · subst e
        obtain ⟨o, ho, rest⟩ := hT
        exact ⟨T, vals, by rw [← hrows.1]; simp, hNT, ⟨o, oth _ _ hTS ho, rest⟩, hrow⟩
      · obtain ⟨T', vals', b1, b2, ⟨o, ho, rest⟩, b4⟩ := hrows.2 j (by omega)
        refine ⟨T', vals', by rw [Array.getElem?_push, if_neg (by rw [hrows.1]; omega)]; exact b1, b2, ⟨o, oth _ _ (fun e9 => by rw [e9] at b2; exact absurd b2 (Nat.not_le.mpr hSN)) (keepN kp _ _ b2 ho), rest⟩, b4⟩
    · exact hR h'' tk'' acc' c' a1 a2 fun c o h0 h1 h2 h3 e => a3 c o h0 h1 h2 h3 (oth _ _ h0 (kp _ _ h1 h2 h3 e))
end
end Mine
namespace Mine
section
variable {prog : Program} {w : World} {A : Around} {E : Value → Shared → Prop} {s : Shared}
theorem pyIter_zs {z TI TO : Addr} {its : List Addr} {xs : List Str} {N1 k : Nat} {Q : Value → Shared → Prop} (Z : ZS s.heap z TI TO its xs N1 k) (h : Q (.ref z) s) : wpAny (model prog w) A (pyIter (.ref z)) Q E s := by
  rcases Z.f with ⟨_, q⟩ | ⟨_, _, _, q, _⟩
  · exact wpAny_pyIter_zip q.hz h
  · have hT := zs_type Z
    refine wpAny_pyIter_slot hT PySem.F.slot_zip_iter (wpAny_call_entry PySem.F.slot_zip_iter hT PySem.F.entry_zip_iter ?_ (PySem.F.args_zip_iter_1 _))
    show wpAny _ _ (ret (.ref z)) _ _ s
    exact wpAny_pure ⟨_, rfl, "zip", _, hT, PySem.F.slot_zip_next.lookup, h⟩
theorem zip_extend {R : Result → Shared → Prop} {z TI TO S : Addr} {its : List Addr} {xs : List Str} {N1 n : Nat} {res : Value} {c₀ : Nat} (hh : A.handled = none) (hnd : (z :: TI :: TO :: its).Nodup) (hlow : ∀ a ∈ z :: TI :: TO :: its, a < N1) (hS : S ∉ z :: TI :: TO :: its) (hSN : S < N1) (hne : its ≠ []) (hsz : its.length ≤ 1000) (hl : its.length = xs.length)
    (hmin : ∀ x ∈ xs, n ≤ x.length) (hend : ∃ x ∈ xs, x.length ≤ n) (hn0 : n ≠ 0) (hn : n ≤ 1000) (Z : ZS s.heap z TI TO its xs N1 0) (hN : N1 ≤ s.heap.objs.size)
    (hs : s.heap.get? S = some { cls := .type "list", data := .seq #[] c₀ })
    (hR : ∀ h' tk acc' c', h'.get? S = some { cls := .type "list", dict := none, data := .seq acc' c', slots := #[] } → Rows h' xs N1 acc' n → (∀ c o, c ≠ S → c ≠ z → c ≠ TO → c ∉ its → s.heap.get? c = some o → h'.get? c = some o) → R (.ok (.ret res)) { s with heap := h', toks := tk }) :
    wpAny (model prog w) A.in1 (Builtin.List.listExtendWith (.ref S) (.ref z) res)
      (fun fin s' => match fin with | .done f => R (.ok f) s' | .again c' => c'.quiet = true ∧ codeAny (model prog w) A c' R s') (fun e s' => R (.error e) s') s := by
  have hT := zs_type Z
  have hSz : S ≠ z := fun e => hS (by simp [e])
  unfold Builtin.List.listExtendWith
  refine wpAny_bind (wpAny_typeOf hT ?_)
  have h1 : Builtin.List.listSameRef (.ref S) (.ref z) = false := by simp [Builtin.List.listSameRef, hSz]
  have h2 : (Value.type "zip" == Value.type "list") = false := by decide
  have h3 : (Value.type "zip" == Value.type "tuple") = false := by decide
  simp only [h1, h2, h3, Bool.or_false, Bool.false_eq_true, if_false]
  refine wpAny_bind (pyIter_zs Z ?_)
  refine wpAny_bind (wpAny_holding ?_)
  unfold Builtin.List.listLengthHint
  refine wpAny_bind (wpAny_specialOf hT zip_no_len ?_)
  show wpAny _ A.in1 (specialOf (Value.ref z) (Str.ofString "__length_hint__") >>= _) _ _ _
  refine wpAny_bind (wpAny_specialOf hT zip_no_hint ?_)
  refine wpAny_pure ?_
  show wpAny _ A.in1 (rule "list.extend.makes-room" >>= fun _ => Builtin.List.listTouch (.ref S) >>= fun _ =>
    again (.builtin "list.extend.loop" ⟨[.ref S, .ref z, res], []⟩)) _ _ _
  refine wpAny_bind (wpAny_rule ?_)
  refine wpAny_bind ?_
  show wpAny _ A.in1 (updateSeq S (·.push .none) >>= fun _ => updateSeq S (·.pop)) _ _ _
  refine wpAny_bind (wpAny_updateSeq hs rfl ?_)
  have hS₂ := Heap.get?_update_self (Obj.mapSeq (·.push Value.none)) hs rfl
  refine wpAny_updateSeq (hz := by seq_fits) hS₂ rfl ?_
  have hS₃ := Heap.get?_update_self (Obj.mapSeq (·.pop)) hS₂ rfl
  have oth : ∀ b o, b ≠ S → s.heap.get? b = some o → ((s.heap.update S (Obj.mapSeq (·.push Value.none))).update S (Obj.mapSeq (·.pop))).get? b = some o :=
    fun b o hb e => (Heap.get?_update_other _ _ (Ne.symm hb)).trans ((Heap.get?_update_other _ _ (Ne.symm hb)).trans e)
  have hsz9 : ((s.heap.update S (Obj.mapSeq (·.push Value.none))).update S (Obj.mapSeq (·.pop))).objs.size = s.heap.objs.size :=
    (Heap.SameBut.update _ S (Obj.mapSeq (·.pop))).1.trans (Heap.SameBut.update _ S (Obj.mapSeq (·.push Value.none))).1
  refine wpAny_pure ⟨plainId_quiet PySem.F.plain_extend_loop _, zip_loop hh hnd hlow hS hSN hne hsz hl hmin hend hn0 hn n 0 _ _ _ rfl (Nat.zero_le _) (Z.but hS hSN fun a o ha e => oth a o ha e) (by rw [hsz9]; exact hN) hS₃ ⟨rfl, fun j hj => absurd hj (Nat.not_lt_zero _)⟩ fun h' tk acc' c' a1 a2 a3 => ?_⟩
  exact hR h' tk acc' c' a1 a2 fun c o h0 h1 h2 h3 e => a3 c o h0 h1 h2 h3 (oth _ _ h0 e)
/-- list(zip(..)) over plain texts -/
theorem list_zip {z TI TO : Addr} {its : List Addr} {xs : List Str} {n : Nat} {Q : Value → Shared → Prop} (hh : A.handled = none) (hnd : (z :: TI :: TO :: its).Nodup) (hlow : ∀ a ∈ z :: TI :: TO :: its, a < s.heap.objs.size) (hne : its ≠ []) (hsz : its.length ≤ 1000) (hl : its.length = xs.length)
    (hmin : ∀ x ∈ xs, n ≤ x.length) (hend : ∃ x ∈ xs, x.length ≤ n) (hn0 : n ≠ 0) (hn : n ≤ 1000) (Z : ZN s.heap z TI TO its .none (.bool false)) (at0 : AtAll s.heap its xs fun _ => 0)
    (hQ : ∀ h' tk acc' c', h'.get? s.heap.objs.size = some { cls := .type "list", dict := none, data := .seq acc' c', slots := #[] } → Rows h' xs (s.heap.objs.size + 1) acc' n → (∀ c o, c ≠ z → c ≠ TO → c ∉ its → s.heap.get? c = some o → h'.get? c = some o) → Q (.ref s.heap.objs.size) { s with heap := h', toks := tk }) :
    wpAny (model prog w) A (call (.type "list") [.ref z]) Q E s := by
  refine callType_codes (Q₁ := fun obj s₁ => obj = .ref s.heap.objs.size ∧ s₁ = { s with heap := s.heap.push { cls := .type "list", data := .seq #[] } }) PySem.F.called_list (PySem.F.typeCall_list_1 _) PySem.F.entry_list_init
    (code_list_new _ ⟨rfl, rfl⟩) fun obj s₁ h₁ => ?_
  obtain ⟨rfl, rfl⟩ := h₁
  have hS : (s.heap.push { cls := .type "list", data := .seq #[] }).get? s.heap.objs.size = some { cls := .type "list", data := .seq #[] } := Heap.get?_push_size _ rfl
  have up : ∀ b o, s.heap.get? b = some o → (s.heap.push { cls := .type "list", data := .seq #[] }).get? b = some o := fun b o e => Heap.get?_push_of_some _ e
  have hSn : s.heap.objs.size ∉ z :: TI :: TO :: its := fun hm => Nat.lt_irrefl _ (hlow _ hm)
  refine ⟨⟨_, hS, rfl⟩, PySem.F.args_list_init_2 _ _, ?_⟩
  show wpAny _ A.in1.in1 (do let old ← Builtin.List.listItems (.ref s.heap.objs.size); Builtin.List.listUpdate (.ref s.heap.objs.size) (fun _ => #[]); letGo old.toList.reverse; Builtin.List.listExtendWith (.ref s.heap.objs.size) (.ref z) .none) _ _ _
  refine wpAny_bind ?_
  unfold Builtin.List.listItems
  refine wpAny_bind (wpAny_seqItems hS rfl (wpAny_pure ?_))
  show wpAny _ A.in1.in1 (updateSeq s.heap.objs.size (fun _ => #[]) >>= fun _ => letGo (#[] : Array Value).toList.reverse >>= fun _ => Builtin.List.listExtendWith (.ref s.heap.objs.size) (.ref z) .none) _ _ _
  refine wpAny_bind (wpAny_updateSeq hS rfl ?_)
  have hS₂ := Heap.get?_update_self (Obj.mapSeq (fun _ => (#[] : Array Value))) hS rfl
  have oth : ∀ b o, b ≠ s.heap.objs.size → s.heap.get? b = some o → ((s.heap.push { cls := .type "list", data := .seq #[] }).update s.heap.objs.size (Obj.mapSeq (fun _ => (#[] : Array Value)))).get? b = some o :=
    fun b o hb e => (Heap.get?_update_other _ _ (Ne.symm hb)).trans (up b o e)
  have oth' : ∀ b o, s.heap.get? b = some o → ((s.heap.push { cls := .type "list", data := .seq #[] }).update s.heap.objs.size (Obj.mapSeq (fun _ => (#[] : Array Value)))).get? b = some o :=
    fun b o e => oth b o (Nat.ne_of_lt (Heap.lt_size e)) e
  have hsz9 : ((s.heap.push { cls := .type "list", data := .seq #[] }).update s.heap.objs.size (Obj.mapSeq (fun _ => (#[] : Array Value)))).objs.size = s.heap.objs.size + 1 :=
    (Heap.SameBut.update _ _ (Obj.mapSeq (fun _ => (#[] : Array Value)))).1.trans (Heap.size_push ..)
  refine wpAny_bind (wpAny_letGo ?_)
  refine zip_extend (A := A.in1) (N1 := s.heap.objs.size + 1) hh hnd (fun a ha => Nat.lt_succ_of_lt (hlow a ha)) hSn (Nat.lt_succ_self _) hne hsz hl hmin hend hn0 hn ⟨.inl ⟨rfl, Z.but fun a _ o e => oth' a o e⟩, AtAll.but at0 fun it _ o e => oth' it o e⟩ (Nat.le_of_eq hsz9.symm) hS₂ fun h' tk acc' c' a1 a2 a3 => ?_
  exact ⟨rfl, hQ h' tk acc' c' a1 a2 fun c o h1 h2 h3 e => a3 c o (Nat.ne_of_lt (Heap.lt_size e)) h1 h2 h3 (oth' c o e)⟩
end
end Mine

end

section
open PySem PySem.W PySem.Calls PyProof.Rows
set_option Elab.async false
set_option maxRecDepth 100000
set_option maxHeartbeats 4000000
namespace Mine
/-- a zip over texts, just made -/
def ZipNew (h₀ : Heap) (L : Addr) (h : Heap) (z : Addr) (xs : List Str) (news : List (Addr × Obj)) : Prop :=
  ∃ (TI TO : Addr) (its : List Addr), ZN h z TI TO its .none (.bool false) ∧ (z :: TI :: TO :: its).Nodup ∧ AtAll h its xs (fun _ => 0) ∧ its.length = xs.length ∧ ∀ a ∈ z :: TI :: TO :: its, a < h.objs.size ∧ L ≠ a ∧ h₀.get? a = none ∧ ∀ p ∈ news, p.1 ≠ a
/-- the rows, for a frame -/
def RowsN (h₀ : Heap) (L : Addr) (h : Heap) (xs : List Str) (acc : Array Value) (n : Nat) : Prop :=
  acc.size = n ∧ ∀ j, j < n → ∃ (T : Addr) (vals : List Value), acc[j]? = some (.ref T) ∧ h₀.get? T = none ∧ IsTup h T vals.toArray ∧ RowOf xs j vals
section
variable {prog : Program} {w : World} {A : Around} {E : Value → Shared → Prop} {s : Shared} {h₀ : Heap} {L : Addr} {m : Str → Option Value} {news : List (Addr × Obj)}
theorem fresh_of (F : Fr h₀ L s.heap m) {a : Addr} (ha : s.heap.objs.size ≤ a) : L ≠ a ∧ h₀.get? a = none := by
  refine ⟨Nat.ne_of_lt (Nat.lt_of_lt_of_le F.ns.lt ha), ?_⟩
  cases e : h₀.get? a with
  | none => rfl
  | some o => exact absurd (Heap.lt_size (F.keep _ _ e)) (Nat.not_lt.mpr ha)
theorem zip_N {vs : List Value} {xs : List Str} {Q : Value → Shared → Prop} (F : Fr h₀ L s.heap m) (N : News h₀ L s.heap news) (hv : StrsAre vs xs) (hne : xs ≠ []) (hlen : xs.length ≤ 1000)
    (h : ∀ z h', Fr h₀ L h' m → News h₀ L h' news → ZipNew h₀ L h' z xs news → Q (.ref z) { s with heap := h' }) : wpAny (model prog w) A (call (.type "zip") vs) Q E s :=
  call_zip_n hv hne hlen fun h' z TI TO its Z nd at0 hl hfr hst =>
    h z h' (F.keeps hst) (N.grown hst) ⟨TI, TO, its, Z, nd, at0, hl, fun a ha => ⟨(hfr a ha).2, (fresh_of F (hfr a ha).1).1, (fresh_of F (hfr a ha).1).2, fun p hp => Nat.ne_of_lt (Nat.lt_of_lt_of_le (Heap.lt_size (N p hp).1) (hfr a ha).1)⟩⟩
theorem list_zip_N {z : Addr} {xs : List Str} {n : Nat} {Q : Value → Shared → Prop} (hh : A.handled = none) (F : Fr h₀ L s.heap m) (N : News h₀ L s.heap news) (Z : ZipNew h₀ L s.heap z xs news) (hne : xs ≠ []) (hsz : xs.length ≤ 1000) (hmin : ∀ x ∈ xs, n ≤ x.length) (hend : ∃ x ∈ xs, x.length ≤ n) (hn0 : n ≠ 0) (hn : n ≤ 1000)
    (h : ∀ D h' tk acc c, Fr h₀ L h' m → News h₀ L h' ((D, listOf acc c) :: news) → RowsN h₀ L h' xs acc n → Q (.ref D) { s with heap := h', toks := tk }) : wpAny (model prog w) A (call (.type "list") [.ref z]) Q E s := by
  obtain ⟨TI, TO, its, Z0, nd, at0, hl, hfr⟩ := Z
  refine list_zip hh nd (fun a ha => (hfr a ha).1) (by intro e; subst e; exact hne (List.eq_nil_of_length_eq_zero (by simpa using hl.symm))) (by omega) hl hmin hend hn0 hn Z0 at0 fun h' tk acc c a1 a2 a3 => ?_
  have nz := hfr z (by simp)
  have nTO := hfr TO (by simp)
  have nit : ∀ a ∈ its, _ := fun a ha => hfr a (by simp [ha])
  have F' : Fr h₀ L h' m := ⟨F.ns.at' fun o e => a3 L o nz.2.1 nTO.2.1 (fun hm => (nit L hm).2.1 rfl) e, fun b o e => a3 b o (fun e9 => by rw [e9, nz.2.2.1] at e; cases e) (fun e9 => by rw [e9, nTO.2.2.1] at e; cases e) (fun hm => by rw [(nit b hm).2.2.1] at e; cases e) (F.keep b o e), F.above⟩
  refine h _ h' tk acc c F' (fun p hp => ?_) ⟨a2.1, fun j hj => ?_⟩
  · rcases List.mem_cons.mp hp with rfl | hp
    · exact ⟨a1, Ne.symm (fresh_of F (Nat.le_refl _)).1, (fresh_of F (Nat.le_refl _)).2⟩
    · exact ⟨a3 _ _ (nz.2.2.2 p hp) (nTO.2.2.2 p hp) (fun hm => (nit _ hm).2.2.2 p hp rfl) (N p hp).1, (N p hp).2⟩
  · obtain ⟨T, vals, b1, b2, b3, b4⟩ := a2.2 j hj
    exact ⟨T, vals, b1, (fresh_of F (Nat.le_of_succ_le b2)).2, b3, b4⟩
end
end Mine

end

section
open PySem PySem.W PySem.Calls PyProof.Rows
set_option Elab.async false
set_option maxRecDepth 100000
set_option maxHeartbeats 4000000
namespace Mine
def lessLen (m x : Str) : Str := if x.length < m.length then x else m
section
variable {prog : Program} {w : World} {A : Around} {E : Value → Shared → Prop} {s : Shared} {R : Result → Shared → Prop}
theorem lt_int_rc {a b : Int} {t u : Tok} {Q : Value → Shared → Prop} (h : Q (.bool (decide (a < b))) s) : wpAny (model prog w) A (richCompare .Lt (.int a t) (.int b u)) Q E s :=
  CmpOf.ints_lt (prog := prog) (w := w) (A := A) (P := fun i v => ∃ t, v = .int (if i = 0 then a else b) t) (fun i => if i = 0 then a else b) (fun i v h => h) 0 1 _ _ _ _ _ ⟨t, rfl⟩ ⟨u, rfl⟩ (by simpa using h)
theorem min_loop_len {I l S : Addr} {items : Array Value} (hh : A.handled = none) (hne : l ≠ I) (hSI : S ≠ I) (hSl : S ≠ l) :
    ∀ (ps : List Str) (i : Nat) (s : Shared) (bs : Str) (tb tk0 : Tok) (c : Nat), s.heap.IsTupleIter I l i → s.heap.IsTuple l items → (∀ j p, ps[j]? = some p → ∃ t, items[i + j]? = some (.str p t)) → i + ps.length = items.size → (∀ p ∈ ps, p.length ≤ 1000) →
    s.heap.get? S = some { cls := .type "list", dict := none, data := .seq #[.str bs tb, .int (bs.length : Nat) tk0] c, slots := #[] } →
    (∀ h' tk t, (∀ c o, c ≠ I → c ≠ S → s.heap.get? c = some o → h'.get? c = some o) → R (.ok (.ret (.str (ps.foldl lessLen bs) t))) { s with heap := h', toks := tk }) →
    codeAny (model prog w) A (.builtin "min.loop" ⟨[.ref I, .builtin "len", .ref S], []⟩) R s := by
  have hname : (toString "min" ++ toString ".loop" : String) = "min.loop" := by decide
  intro ps
  induction ps with
  | nil =>
    intro i s bs tb tk0 c hit hl hps hn hb hS hR
    refine codeAny_builtin PySem.F.entry_min_loop ?_
    rw [Around.under_plainId PySem.F.plain_min_loop _]
    show wpAny _ A.in1 (seqItems? (.ref S) >>= _) _ _ s
    refine wpAny_bind (wpAny_seqItems hS rfl ?_)
    show wpAny _ A.in1 (tryCatch (pyNext (.ref I)) _ >>= _) _ _ s
    refine wpAny_bind (wpAny_tryCatch (wpAny_pyNext_tuple_end (A := A.in1) hh hit hl (Array.getElem?_eq_none (by simp at hn; omega)) fun h' he => ?_))
    have hS' : h'.get? S = some _ := he S _ hSI hS
    show wpAny _ A.in1 (updateSeq S (fun _ => #[]) >>= _) _ _ _
    refine wpAny_bind ?_
    refine wpAny_updateSeq hS' rfl (wpAny_bind (wpAny_letGo (wpAny_pure ?_)))
    exact hR _ s.toks tb fun c o h1 h2 e => (Heap.get?_update_other _ _ (Ne.symm h2)).trans (he c o h1 e)
  | cons p ps ih =>
    intro i s bs tb tk0 c hit hl hps hn hb hS hR
    obtain ⟨t, hv⟩ := hps 0 p rfl
    rw [Nat.add_zero] at hv
    have hpl := hb p (.head _)
    refine codeAny_builtin PySem.F.entry_min_loop ?_
    rw [Around.under_plainId PySem.F.plain_min_loop _]
    show wpAny _ A.in1 (seqItems? (.ref S) >>= _) _ _ s
    refine wpAny_bind (wpAny_seqItems hS rfl ?_)
    show wpAny _ A.in1 (tryCatch (pyNext (.ref I)) _ >>= _) _ _ s
    refine wpAny_bind (wpAny_tryCatch (wpAny_pyNext_tuple_item hit hl hv fun h' hit' hs' => ?_))
    have hS' : h'.get? S = some _ := hs'.extBut _ _ hSI hS
    have hl' : h'.IsTuple l items := by obtain ⟨o, ho, r⟩ := hl; exact ⟨o, hs'.extBut _ _ hne ho, r⟩
    have k1 : ∀ c o, c ≠ I → c ≠ S → s.heap.get? c = some o → h'.get? c = some o := fun c o h1 _ e => hs'.extBut _ _ h1 e
    show wpAny _ A.in1 (tryCatch (holding [Value.str p t] (call (.builtin "len") [Value.str p t])) _ >>= _) _ _ _
    refine wpAny_bind (wpAny_tryCatch (wpAny_holding (PySem.P.len_str (by omega) ?_)))
    show wpAny _ A.in1 (tryCatch (holding [Value.str p t, .int (p.length : Nat) _] (richCompare .Lt (.int (p.length : Nat) _) (.int (bs.length : Nat) tk0) >>= _)) _ >>= _) _ _ _
    refine wpAny_bind (wpAny_tryCatch (wpAny_holding (wpAny_bind (lt_int_rc (A := A.in1) ?_))))
    refine wpAny_bind (wpAny_holding (wpAny_truthy_bool ?_))
    refine wpAny_bind (wpAny_letGo (wpAny_pure ?_))
    have rest : ∀ j q, ps[j]? = some q → ∃ t, items[i + 1 + j]? = some (.str q t) := by
      intro j q hq
      obtain ⟨t9, e1⟩ := hps (j + 1) q (by simpa using hq)
      exact ⟨t9, by rw [← e1]; congr 1; omega⟩
    by_cases hc : (p.length : Int) < (bs.length : Int)
    · simp only [hc, decide_true, if_true]
      refine wpAny_bind ?_
      refine wpAny_updateSeq hS' rfl (wpAny_bind (wpAny_letGo ?_))
      rw [hname]
      have k2 : ∀ c o, c ≠ I → c ≠ S → s.heap.get? c = some o → (h'.update S (Obj.mapSeq fun _ => #[Value.str p t, .int (p.length : Nat) (s.toks + 1)])).get? c = some o := fun c o h1 h2 e => (Heap.get?_update_other _ _ (Ne.symm h2)).trans (k1 c o h1 h2 e)
      refine wpAny_pure ⟨plainId_quiet PySem.F.plain_min_loop _, ih (i + 1) _ p _ _ _ ?_ ?_ rest (by simp at hn; omega) (fun q hq => hb q (.tail _ hq)) (Heap.get?_update_self _ hS' rfl) fun h'' tk'' t'' hk'' => ?_⟩
      · exact hit'.at fun o e => (Heap.get?_update_other _ _ hSI).trans e
      · obtain ⟨o, ho, r⟩ := hl'; exact ⟨o, (Heap.get?_update_other _ _ hSl).trans ho, r⟩
      · have z := hR h'' tk'' t'' fun c o h1 h2 e => hk'' c o h1 h2 (k2 c o h1 h2 e)
        rw [List.foldl_cons, show lessLen bs p = p from if_pos (by omega)] at z
        exact z
    · simp only [hc, decide_false, Bool.false_eq_true, if_false]
      refine wpAny_bind (wpAny_letGo ?_)
      rw [hname]
      refine wpAny_pure ⟨plainId_quiet PySem.F.plain_min_loop _, ih (i + 1) _ bs tb tk0 c hit' hl' rest (by simp at hn; omega) (fun q hq => hb q (.tail _ hq)) hS' fun h'' tk'' t'' hk'' => ?_⟩
      have z := hR h'' tk'' t'' fun c o h1 h2 e => hk'' c o h1 h2 (k1 c o h1 h2 e)
      rw [List.foldl_cons, show lessLen bs p = bs from if_neg (by omega)] at z
      exact z
/-- min(texts, key=len) of a tuple: the first of the shortest -/
theorem min_len_tup {g : Heap} {L D : Addr} {m : Str → Option Value} {news : List (Addr × Obj)} {v : Value} {vs : List Value} {x : Str} {ts : List Str} {Q : Value → Shared → Prop} (hh : A.handled = none) (F : Fr g L s.heap m) (N : News g L s.heap news) (ht : IsTup s.heap D (v :: vs).toArray) (hi : StrsAre (v :: vs) (x :: ts)) (hb : ∀ t ∈ x :: ts, t.length ≤ 1000)
    (h : ∀ h' tk t, Fr g L h' m → News g L h' news → Q (.str (ts.foldl lessLen x) t) { s with heap := h', toks := tk }) : wpAny (model prog w) A (call (.builtin "min") [.ref D] [(Str.ofString "key", .builtin "len")]) Q E s := by
  have hname : (toString "min" ++ toString ".loop" : String) = "min.loop" := by decide
  have hlt : D < s.heap.objs.size := ht.lt
  have hl := strs_len hi
  refine kmb_tree PySem.F.kind_min PySem.F.plain_min PySem.F.entry_min (kmb_min_key _ _) ?_
  show wpAny _ A.in1 (Builtin.Builtins.bindParams "min" ["key", "default"] 0 ⟨[], [(Str.ofString "key", .builtin "len")]⟩ >>= _) _ _ s
  refine wpAny_bind (wpAny_of_eq (show Builtin.Builtins.bindParams "min" ["key", "default"] 0 ⟨[], [(Str.ofString "key", .builtin "len")]⟩ = pure [some (.builtin "len"), none] from rfl) ?_)
  refine wpAny_bind (wpAny_pure ?_)
  refine wpAny_bind (wpAny_pyIter_tuple ht ?_)
  refine wpAny_bind (wpAny_newList ?_ (Nat.zero_le _))
  rw [hname]
  generalize hH : (s.heap.push { cls := .type "tuple_iterator", data := .fields #[.ref D, .int 0 0] }) = H1
  have hIsz : H1.objs.size = s.heap.objs.size + 1 := by rw [← hH, Heap.size_push]
  have gI : H1.get? s.heap.objs.size = some { cls := .type "tuple_iterator", data := .fields #[.ref D, .int 0 0] } := by rw [← hH]; exact Heap.get?_push_size _ rfl
  have k1 : ∀ c o, s.heap.get? c = some o → H1.get? c = some o := fun c o e => by rw [← hH]; exact Heap.get?_push_of_some _ e
  generalize hH2 : H1.push { cls := .type "list", data := .seq #[] } = H2
  have gS : H2.get? H1.objs.size = some { cls := .type "list", data := .seq #[] } := by rw [← hH2]; exact Heap.get?_push_size _ rfl
  have k2 : ∀ c o, H1.get? c = some o → H2.get? c = some o := fun c o e => by rw [← hH2]; exact Heap.get?_push_of_some _ e
  have hSI : H1.objs.size ≠ s.heap.objs.size := by rw [hIsz]; exact Nat.ne_of_gt (Nat.lt_succ_self _)
  have hSl : H1.objs.size ≠ D := by rw [hIsz]; exact Nat.ne_of_gt (Nat.lt_succ_of_lt hlt)
  have hne : D ≠ s.heap.objs.size := Nat.ne_of_lt hlt
  refine wpAny_pure ⟨plainId_quiet PySem.F.plain_min_loop _, ?_⟩
  refine codeAny_builtin PySem.F.entry_min_loop ?_
  rw [Around.under_plainId PySem.F.plain_min_loop _]
  show wpAny _ A.in1 (seqItems? (.ref H1.objs.size) >>= _) _ _ _
  refine wpAny_bind (wpAny_seqItems gS rfl ?_)
  obtain ⟨t, rfl⟩ := SetStr.strs_at hi 0 v rfl
  have hit : H2.IsTupleIter s.heap.objs.size D 0 := ⟨_, k2 _ _ gI, rfl, rfl⟩
  have hl2 : H2.IsTuple D (Value.str x t :: vs).toArray := by obtain ⟨o, ho, r⟩ := ht; exact ⟨o, k2 _ _ (k1 _ _ ho), r⟩
  show wpAny _ A.in1 (tryCatch (pyNext (.ref s.heap.objs.size)) _ >>= _) _ _ _
  refine wpAny_bind (wpAny_tryCatch (wpAny_pyNext_tuple_item hit hl2 (x := Value.str x t) (by simp) fun h' hit' hs' => ?_))
  have hS' : h'.get? H1.objs.size = some _ := hs'.extBut _ _ hSI gS
  have hl' : h'.IsTuple D (Value.str x t :: vs).toArray := by obtain ⟨o, ho, r⟩ := hl2; exact ⟨o, hs'.extBut _ _ hne ho, r⟩
  have hxl := hb x (.head _)
  show wpAny _ A.in1 (tryCatch (holding [Value.str x t] (call (.builtin "len") [Value.str x t])) _ >>= _) _ _ _
  refine wpAny_bind (wpAny_tryCatch (wpAny_holding (PySem.P.len_str (by omega) ?_)))
  show wpAny _ A.in1 (updateSeq H1.objs.size (fun _ => #[Value.str x t, .int (x.length : Nat) _]) >>= _) _ _ _
  refine wpAny_bind ?_
  refine wpAny_updateSeq hS' rfl ?_
  rw [hname]
  have k3 : ∀ c o, s.heap.get? c = some o → (h'.update H1.objs.size (Obj.mapSeq fun _ => #[Value.str x t, .int (x.length : Nat) (s.toks + 1)])).get? c = some o := fun c o e => by
    have hc : c < s.heap.objs.size := Heap.lt_size e
    refine (Heap.get?_update_other _ _ ?_).trans (hs'.extBut _ _ ?_ (k2 _ _ (k1 _ _ e)))
    · exact fun e9 => by have e9 : H1.objs.size = c := e9; rw [← e9, hIsz] at hc; exact absurd hc (Nat.not_lt.mpr (Nat.le_succ _))
    · exact fun e9 => by rw [e9] at hc; exact Nat.lt_irrefl _ hc
  refine wpAny_pure ⟨plainId_quiet PySem.F.plain_min_loop _, min_loop_len (A := A) (l := D) (items := (Value.str x t :: vs).toArray) hh hne hSI hSl ts 1 _ x t _ _ ?_ ?_ ?_ (by simp at hl ⊢; omega) (fun p hp => hb p (.tail _ hp)) (Heap.get?_update_self _ hS' rfl) fun h'' tk'' t'' hk'' => ?_⟩
  · exact hit'.at fun o e => (Heap.get?_update_other _ _ hSI).trans e
  · obtain ⟨o, ho, r⟩ := hl'; exact ⟨o, (Heap.get?_update_other _ _ hSl).trans ho, r⟩
  · intro j q hq
    have hjl : j + 1 < (Value.str x t :: vs).length := by
      have := (List.getElem?_eq_some_iff.mp hq).1
      simp at hl ⊢; omega
    obtain ⟨t9, e1⟩ := SetStr.strs_at hi (j + 1) _ (List.getElem?_eq_getElem hjl)
    refine ⟨t9, ?_⟩
    rw [List.getElem?_toArray, Nat.add_comm, List.getElem?_eq_getElem hjl, e1]
    simp [List.getD_eq_getElem?_getD, hq]
  · have kk : ∀ c o, s.heap.get? c = some o → h''.get? c = some o := fun c o e => by
      have hc : c < s.heap.objs.size := Heap.lt_size e
      refine hk'' c o ?_ ?_ (k3 c o e)
      · exact fun e9 => by rw [e9] at hc; exact Nat.lt_irrefl _ hc
      · exact fun e9 => by have e9 : c = H1.objs.size := e9; rw [e9, hIsz] at hc; exact absurd hc (Nat.not_lt.mpr (Nat.le_succ _))
    exact h h'' tk'' t'' (F.keeps kk) (N.grown kk)
theorem less_fold (ts : List Str) (x : Str) : tx (ts.foldl lessLen x) = (ts.map tx).foldl (fun m x => if x.length < m.length then x else m) (tx x) := by
  induction ts generalizing x with
  | nil => rfl
  | cons t r ih =>
    rw [List.foldl_cons, List.map_cons, List.foldl_cons, ih]
    congr 1
    unfold lessLen
    rw [tx_len, tx_len]
    split <;> rfl
end
end Mine

end

section
local macro_rules | `(tactic| walk_at "mine pad NG 0") => `(tactic| skip)
local macro_rules | `(tactic| walk_at "mine pad NG 1") => `(tactic| skip)
local macro_rules | `(tactic| walk_at "mine pad NG 2") => `(tactic| skip)
local macro_rules | `(tactic| walk_at "mine pad NG 3") => `(tactic| skip)
local macro_rules | `(tactic| walk_at "mine pad NG 4") => `(tactic| skip)
local macro_rules | `(tactic| walk_at "mine pad NG 5") => `(tactic| skip)
local macro_rules | `(tactic| walk_at "mine pad NG 6") => `(tactic| skip)
open PySem PySem.W PySem.Calls PyProof.Rows
set_option Elab.async false
set_option maxRecDepth 100000
set_option maxHeartbeats 8000000
namespace Mine
local macro_rules | `(tactic| walk_at "mine enter") => `(tactic| (refine' enter ?k3 ?k5 ?k6 ?k7 ?k8 ?k9 ?kB ?_ ?c2 ?c3 ?c4 ?c5; (case k3 => k_asm); (case k5 => k_asm); (case k6 => k_is); (case k7 => k_is); (case k8 => ktr_room); (case k9 => exact BindsTo.of_eq rfl); (case c5 => decide); (case kB => exact locs rfl); (case c2 => exact rfl); (case c3 => exact rfl); (case c4 => exact rfl); k_whole; intro L' h' F' N'; (try dsimp only); (try k_fold)))
local macro_rules | `(tactic| walk_at "mine enterV") => `(tactic| ((case k3 => k_asm); (case k5 => k_asm); (case k6 => k_is); (case k7 => k_is); (case k8 => ktr_room); (case c5 => decide); (case kB => exact fun _ => locs rfl); (case c2 => exact rfl); (case c3 => exact rfl); (case c4 => exact rfl); (case kG => exact fun _ => rfl)))
local macro_rules | `(tactic| walk_at "mine go") => `(tactic| repeat' ((fail_if_success (with_reducible show wpAny _ _ (pyIter _) _ _ _)); (fail_if_success (with_reducible show wpAny _ _ (exec (Stmt.While _ _ _ _) _) _ _ _)); (fail_if_success (with_reducible show LCg.CompSrc _ _ _ _ _ _ _ _ _ _ _ _ _ _)); (first | (k_unfold; (try dsimp only)) | (k_end; wrow_close) | walk1 | (dsimp only; walk1) | (leave1; walk_say "STEP leave1"; try dsimp only) | fail "no step")))
local macro_rules | `(tactic| walk_at "mine tup") => `(tactic| first | (rename Fr _ _ _ _ => F9; exact F9.tup (by assumption)) | exact News.isTup (by k_asm) (by k_mem))
local macro_rules | `(tactic| walk_at "mine lst") => `(tactic| first | exact News.isList (by k_asm) (by k_mem) | (rename Fr _ _ _ _ => F9; exact F9.lst (by assumption)))
local macro_rules | `(tactic| walk_at "truthy ref") => `(tactic| (k_here; (refine tup_truthy (by walk_at "mine tup") (by assumption) (by omega) ?_ ?_ <;> intro he')))
local macro_rules | `(tactic| walk_at "call builtin:len") => `(tactic| (k_here; (first | refine tup_len (by walk_at "mine tup") (by assumption) (by omega) ?_ | refine lst_len (by walk_at "mine lst") (by assumption) (by omega) ?_)))
local macro_rules | `(tactic| walk_at "StarOf ref") => `(tactic| (k_here; (first | refine tup_star (by k_asm) (by k_asm) (by walk_at "mine tup") (by assumption) ?_ | refine lst_star (by k_asm) (by k_asm) (by walk_at "mine lst") (by assumption) ?_); intro h' F' N'; (try dsimp only [List.nil_append, List.cons_append])))
local macro_rules | `(tactic| walk_at "call builtin:all") => `(tactic| (k_here; (refine tup_all (by rfl) (by k_asm) (by k_asm) (by walk_at "mine tup") (by assumption) (by assumption) ?_); intro h' tk' F' N'))
local macro_rules | `(tactic| walk_at "call type:list") => `(tactic| (k_here; (refine list_copyKT (by k_asm) (by k_asm) (by walk_at "mine tup") ?_ (by simp only [List.size_toArray, sizeLine]; omega)); intro D' c' h' F' N' l1'))
local macro_rules | `(tactic| k_room) => `(tactic| ktr_room)
local macro_rules | `(tactic| k_inst) => `(tactic| first | (refine' inst_up ?iF ?i1 ?i2; (case iF => k_asm); (case i1 => assumption); (case i2 => assumption)) | fail "no object")
local macro_rules | `(tactic| walk_at "eval Call Attribute") => `(tactic| (k_here; (with_reducible show wpAny _ _ (eval (Expr.Call (Expr.Attribute _ _ _) [Expr.Starred _ _] [] _) _) _ _ _); refine methodCall_S ?_))
local macro_rules | `(tactic| walk_at "callWith ref") => `(tactic| (k_here; (with_reducible show wpAny _ _ (callWith _ (Value.ref _) _ (backTo _ (starEach [Expr.Starred _ _] _)) []) _ _ _); k_dflt (refine' callWith_SM ?kX ?k0 ?k1 ?k2 ?_; (case kX => k_asm); (case k0 => k_asm); (case k1 => k_mem); (case k2 => k_is); k_whole)))
local macro_rules | `(tactic| walk_at "getAttr ref") => `(tactic| (k_here; k_dflt (refine' get_sm ?k1 ?k2 ?k4 ?k5 ?k6 ?k7 ?k8 ?k9 ?k10 ?k11 ?k12 ?k13 ?_; (case k4 => k_inst); (case k1 => k_asm); (case k2 => k_asm); (case k7 => k_is); (case k5 => k_is); (case k6 => k_is); (case k8 => k_is); (case k9 => k_is); (case k10 => k_is); (case k11 => k_handed); (case k12 => decide +kernel); (case k13 => k_get); k_whole)))
local macro_rules | `(tactic| walk_at "mine tell") => `(tactic| ((case tB => k_asm); (case tF => k_asm); (case tX => k_asm); (case tN => k_asm); (case tT => k_asm); (case tf => rfl); (case tk => rfl); (case td => first | ktr_room | (dsimp only; omega) | (simp only [depth_deeper]; omega)); (case tu => first | omega | (dsimp only; omega) | k_units)))
local macro_rules | `(tactic| walk_at "mine enterVC") => `(tactic| ((case k3 => k_asm); (case k5 => k_asm); (case k6 => k_is); (case k7 => k_is); (case k8 => ktr_room); (case kK => exact fun _ => rfl); (case kN => decide +kernel); (case c2 => exact rfl); (case c3 => exact rfl); (case c4 => exact rfl); (case kG => exact fun _ => rfl)))
local macro_rules | `(tactic| walk_at "call type:map") => `(tactic| (k_here; (first | refine mapTup_N (prog := _) (w := _) (by k_asm) (by k_asm) (by walk_at "mine tup") (by assumption) (by assumption) ?_ | refine mapLst_N (by k_asm) (by k_asm) (by walk_at "mine lst") (by assumption) (by assumption) ?_); intro M' h' F' N' mo'))
local macro_rules | `(tactic| walk_at "call builtin:sum") => `(tactic| (k_here; refine sumMap_N (by rfl) (by assumption) (by k_asm) (by k_asm) ?_; intro h' tk' t' F' N'))
local macro_rules | `(tactic| walk_at "call builtin:max") => `(tactic| (k_here; refine maxMap_N (by rfl) (by assumption) (by k_asm) (by k_asm) (by assumption) ?_; intro h' tk' t' k' hk' F' N'))
local macro_rules | `(tactic| walk_at "mine slice") => `(tactic| ((with_reducible rename Fr _ _ _ _ => F'); (with_reducible rename News _ _ _ _ => N'); first
  | ((with_reducible show wpAny _ _ (subscriptTail _ (Expr.Slice none (some _) none _) _ _) _ _ _); (refine slice_strN_ns (hsz := ?hsz) (s := ⟨_, _, _, _, _⟩) F' N' ?_); (case hsz => (unfold sizeLine; omega)))
  | ((with_reducible show wpAny _ _ (subscriptTail _ (Expr.Slice (some _) none none _) _ _) _ _ _); (refine slice_strN_sn (hsz := ?hsz) (s := ⟨_, _, _, _, _⟩) F' N' ?_); (case hsz => (unfold sizeLine; omega)))
  | ((with_reducible show wpAny _ _ (subscriptTail _ (Expr.Slice (some _) (some _) none _) _ _) _ _ _); (refine slice_strN_ss (hsz := ?hsz) (s := ⟨_, _, _, _, _⟩) F' N' ?_); (case hsz => (unfold sizeLine; omega)))))
local macro_rules | `(tactic| walk_at "subscriptTail") => `(tactic| (k_here; (with_reducible show wpAny _ _ (subscriptTail _ (Expr.Slice _ _ _ _) (Value.str _ _) (Value.ref _)) _ _ _); walk_at "mine slice"; intro _ _ _ _ _))
local macro_rules | `(tactic| walk_at "eval ListComp") => `(tactic| (k_here; k_dflt (refine LCg.ListComp_U (F₀ := by k_asm) (by with_unfolding_all rfl) (by decide) (by rfl) (by decide) (by rfl) ?_)))
local macro_rules | `(tactic| walk_at "call type:zip") => `(tactic| (k_here; (refine zip_N (by k_asm) (by k_asm) (by assumption) (by assumption) (by assumption) ?_); intro z' h' F' N' zn'))
local macro_rules | `(tactic| walk_at "call type:list") => `(tactic| (k_here; (refine list_zip_N (by rfl) (by k_asm) (by k_asm) (by assumption) (by assumption) (by assumption) (by assumption) (by assumption) (by assumption) (by omega) ?_); intro D' h' tk' acc' c' F' N' rn'))
theorem callWith_ST {M : Model} {A : Around} {E : Value → Shared → Prop} {s : Shared} {env : Env} {pos p : Pos} {T : String} {first : List Value} {Q : Value → Shared → Prop} {e : Expr}
    (h : wpAny M A (eval e env) (fun v s₁ => StarOf M A E v (fun vs s₂ => wpAny M A (call (.type T) (first ++ vs)) Q E s₂) s₁) E s)
    (he : starEach [.Starred e p] env = [(true, eval e env)] := by rfl) :
    wpAny M A (callWith pos (.type T) first (backTo pos (starEach [.Starred e p] env)) []) Q E s := by
  rw [he]
  exact ks_call (P := fun _ => True) rfl (fun h _ => ⟨.machine, .inr (.inl rfl), Looks.of_pure rfl⟩) (ks_lone (wpAny_mono h (fun v s₁ h₁ => wpAny_mono h₁ (fun b s₂ h₂ => ⟨h₂.1, wpAny_mono h₂.2 (fun vs s₃ h₃ => ⟨trivial, h₃⟩) fun _ _ x => x⟩) fun _ _ x => x) fun _ _ x => x))
local macro_rules | `(tactic| walk_at "callWith") => `(tactic| (k_here; (with_reducible show wpAny _ _ (callWith _ (Value.type _) _ (backTo _ (starEach [Expr.Starred _ _] _)) []) _ _ _); k_dflt (refine' callWith_ST ?_; k_whole)))
/-- the tail texts that find_ngrams zips -/
def tails (x : Str) (k : Nat) : List Str := (List.range k).map fun i => Mine.st ((tx x).drop i)
theorem tails_len (x : Str) (k : Nat) : (tails x k).length = k := by simp [tails]
theorem tails_get {x y : Str} {k j : Nat} (h : (tails x k)[j]? = some y) : j < k ∧ y = Mine.st ((tx x).drop j) := by
  have hj : j < k := by have := (List.getElem?_eq_some_iff.mp h).1; rwa [tails_len] at this
  refine ⟨hj, ?_⟩
  unfold tails at h
  rw [List.getElem?_map, List.getElem?_range hj] at h
  exact (Option.some.inj h).symm
theorem tails_getD {x : Str} {k i : Nat} (h : i < k) : (tails x k).getD i Str.empty = Mine.st ((tx x).drop i) := by
  unfold tails
  rw [List.getD_eq_getElem?_getD, List.getElem?_map, List.getElem?_range h]; rfl
/-- find_ngrams of a plain text: a fresh list of tuples, the j-th with the signs of the j-th piece of k signs -/
def NgPost (x : Str) (k : Nat) (v : Value) (h h' : Heap) : Prop :=
  ∃ (a : Addr) (acc : Array Value) (c : Nat), v = .ref a ∧ h.get? a = none ∧ h'.get? a = some (listOf acc c) ∧ acc.size = x.length - k + 1 ∧ ∀ j, j < x.length - k + 1 → ∃ (T : Addr) (vals : List Value), acc[j]? = some (.ref T) ∧ h.get? T = none ∧ IsTup h' T vals.toArray ∧ RowOf (tails x k) j vals
theorem ngrams_c {prog : Program} {w : World} (fill : PySem.Challenge.rw_ah5039_01 = PySem.Challenge.rw_ah5039_01 ∧ hd.heap_39 = hd.heap_39) (x : Str) (tx' : Tok) (k : Nat) (tk' : Tok) (hx : x.length ≤ 20) (hk : k ≤ x.length) (hk0 : k ≠ 0) :
    Tells1 prog w (hd.heap_39 w.params) 1 20 (.ref 26) [.str x tx', .int (k : Nat) tk'] (fun _ => True) (NgPost x k) := by
  revert fill
  k_fill
  intro _
  intro p loose mean mg mb dp un gd outer A₀ base s Q B X T hdp hu hI ret
  k_dflt (refine' enterC (binds := [("input_list", .str x tx'), ("n", .int (k : Nat) tk')]) ?k3 ?k5 ?k6 ?k7 ?k8 ?k9 ?kK ?kN ?_ ?c2 ?c3 ?c4; (case k3 => k_asm); (case k5 => k_asm); (case k6 => k_is); (case k7 => k_is); (case k8 => ktr_room); (case k9 => exact BindsTo.of_eq rfl); (case kK => rfl); (case kN => decide +kernel); (case c2 => exact rfl); (case c3 => exact rfl); (case c4 => exact rfl))
  intro L h₁ tk cells F N Y
  k_cells Y
  try simp only [List.cons_append, List.nil_append] at N
  dsimp only
  try k_fold
  walk_at "mine go"
  rename IsRange _ _ _ _ _ _ _ _ => hr
  rename Fr _ _ _ _ => F
  rename News _ _ _ _ => N
  refine LCg.CompSrc.range (n := k) rfl F N hr (small_up (by omega) (by omega) (by omega) (by omega)) (by rw [rangeSize_one]; split <;> omega) (by unfold sizeLine; omega) ?_
  intro g'
  refine rest_inv (fun i v => ∃ t, v = .str ((tails x k).getD i Str.empty) t) trivial ?turn ?fin
  case turn =>
    intro i ys v I oI C oC D m₂ h tk E' hin hP hC hx9 F N off ne
    obtain ⟨t, rfl⟩ := hP
    walk_at "mine go"
    refine TurnEnd.intro (by assumption) (by assumption) sub_refl ?_
    try dsimp only
    rw [Int.zero_add, slice_sn x (by omega), tails_getD (by omega)]
    exact ⟨_, rfl⟩
  case fin =>
    intro ys hyl hys
    have hyl' : ys.length = (tails x k).length := by rw [tails_len]; exact hyl
    have hys' : StrsAre ys (tails x k) := strs_of hyl' hys
    have hyb : ys.length ≤ 1000 := by rw [hyl]; omega
    have q2 : tails x k ≠ [] := by intro e; have := tails_len x k; rw [e] at this; simp at this; omega
    have q3 : (tails x k).length ≤ 1000 := by rw [tails_len]; omega
    have q4 : ∀ y ∈ tails x k, x.length - k + 1 ≤ y.length := by
      intro y hy
      obtain ⟨j, hj⟩ := List.getElem?_of_mem hy
      obtain ⟨h1, rfl⟩ := tails_get hj
      rw [st_len, List.length_drop, tx_len]; omega
    have q5 : ∃ y ∈ tails x k, y.length ≤ x.length - k + 1 := by
      refine ⟨Mine.st ((tx x).drop (k - 1)), List.mem_map.mpr ⟨k - 1, List.mem_range.mpr (by omega), rfl⟩, ?_⟩
      rw [st_len, List.length_drop, tx_len]; omega
    have q6 : x.length - k + 1 ≠ 0 := by omega
    walk_at "mine go"
    rename RowsN _ _ _ _ _ _ => rn
    rename Fr _ _ _ _ => F2
    rename News _ _ _ _ => N2
    exact ret _ _ _ F2.keep ⟨_, _, _, rfl, (N2 _ (.head _)).2.2, (N2 _ (.head _)).1, rn.1, rn.2⟩

end Mine

end

section
open PySem PySem.W PySem.Calls PyProof.Rows
set_option Elab.async false
set_option maxRecDepth 100000
namespace Mine
section
variable {prog : Program} {w : World} {A : Around} {E : Value → Shared → Prop} {s : Shared} {h₀ : Heap} {L : Addr} {env : Env} {Q : Flow → Shared → Prop} {m₀ : Str → Option Value} {news₀ : List (Addr × Obj)}
/-- for x in range(n, 0, -1) -/
theorem iter_downJ {target : Expr} {body orelse : List Stmt} {r : Addr} {a : Int} {t u v : Tok} {n : Nat} (J : Nat → (Str → Option Value) → List (Addr × Obj) → Prop)
    (hh : A.handled = none) (F : Fr h₀ L s.heap m₀) (N : News h₀ L s.heap news₀) (hr : IsRange s.heap r a 0 (-1) t u v) (ha : a = (n : Int)) (hn : n ≤ 1000) (hj : J 0 m₀ news₀)
    (turn : ∀ I i t m₁ news₁ oI h tk, i < n → J i m₁ news₁ → LCg.Off1 I news₁ → Fr h₀ L h m₁ → News h₀ L h ((I, oI) :: news₁) →
      wpAny (model prog w) A (assign target env (.int ((n - i : Nat) : Int) t)) (fun _ s' => wpAny (model prog w) A (execs body env) (TurnJ h₀ L I oI (fun _ => True) (J (i + 1)) { s with heap := h, toks := tk } Q) (fun _ _ => False) s') (fun _ _ => False) { s with heap := h, toks := tk })
    (done : ∀ m₁ news₁ h tk, J n m₁ news₁ → Fr h₀ L h m₁ → News h₀ L h news₁ → wpAny (model prog w) A (execs orelse env) Q (fun _ _ => False) { s with heap := h, toks := tk })
    (ht : ∀ I v, letOwnedTupleGo target (.ref I) v = pure () := by intro _ _; rfl) :
    wpAny (model prog w) A (pyIter (.ref r)) (fun it s₂ => codeAny (model prog w) A (.forLoop target it body orelse env) (fun r s' => match r with | .ok f => Q f s' | .error e => cameBackBy (model prog w) A env E e s') s₂) E s := by
  subst ha
  have hsz : Builtin.Range.rangeSize (n : Int) 0 (-1) = (n : Int) := by rw [rangeSize_downNat]; omega
  refine wpAny_pyIter_range hr (small_down (by omega) (by omega) (by omega) (by omega)) ?_
  rw [hsz]
  have W : Walks prog w A s.heap.objs.size [s.heap.objs.size] [s.heap.objs.size] n (fun i v => i < n ∧ ∃ t, v = .int ((n : Int) + i * (-1)) t)
      (fun i h => IsRangeIter h s.heap.objs.size ((n : Int) + (i : Nat) * (-1)) ((n : Int) - (i : Nat)) (-1)) := (Walks.range hh _ (n : Int) (-1) n).bound
  refine loopJ (s := { s with heap := s.heap.push _ }) J W (fun i h st => ⟨_, st⟩) (fun i h h' o nw st e e' _ _ _ => ?_) (by show IsRangeIter _ _ _ _ _; simpa using Heap.get?_push_size _ rfl)
    (S := fun _ => True) (F.push _) (N.grown fun b o e => Heap.get?_push_of_some _ e) (Nat.ne_of_lt F.ns.lt) (next_is_new F) (off1_lt N) trivial hj (fun i v m₁ news₁ oI h tk hi hP hJ ho _ F N => ?_) done (ht _)
  · have st' : h.get? s.heap.objs.size = some _ := st
    rw [e] at st'
    show h'.get? s.heap.objs.size = some _
    rw [e', st']
  · obtain ⟨hin, t, rfl⟩ := hP
    rw [show (n : Int) + (i : Int) * (-1) = ((n - i : Nat) : Int) by omega]
    exact turn _ i t m₁ news₁ oI h tk hi hJ ho F N
end
theorem join_signs (l : Tx) : Txt.join (Str.ofString "") (l.map fun c => st [c]) = st l := by
  have e : (Str.ofString "") = ⟨#[]⟩ := by decide +kernel
  rw [e]
  exact (beq_iff_eq.mp (join_plain_closes _ _)).trans (join_nil_signs (st l))
theorem signs_sum (l : Tx) : ((l.map fun c => st [c]).map (·.length)).sum = l.length := by
  induction l with
  | nil => rfl
  | cons a r ih => simp only [List.map_cons, List.sum_cons, ih, List.length_cons, st_len]; simp; omega
end Mine

end

section
local macro_rules | `(tactic| walk_at "mine pad CC 0") => `(tactic| skip)
local macro_rules | `(tactic| walk_at "mine pad CC 1") => `(tactic| skip)
local macro_rules | `(tactic| walk_at "mine pad CC 2") => `(tactic| skip)
local macro_rules | `(tactic| walk_at "mine pad CC 3") => `(tactic| skip)
local macro_rules | `(tactic| walk_at "mine pad CC 4") => `(tactic| skip)
local macro_rules | `(tactic| walk_at "mine pad CC 5") => `(tactic| skip)
local macro_rules | `(tactic| walk_at "mine pad CC 6") => `(tactic| skip)
local macro_rules | `(tactic| walk_at "mine pad CC 7") => `(tactic| skip)
open PySem PySem.W PySem.Calls PyProof.Rows
set_option Elab.async false
set_option maxRecDepth 100000
set_option maxHeartbeats 8000000
namespace Mine
local macro_rules | `(tactic| walk_at "mine enter") => `(tactic| (refine' enter ?k3 ?k5 ?k6 ?k7 ?k8 ?k9 ?kB ?_ ?c2 ?c3 ?c4 ?c5; (case k3 => k_asm); (case k5 => k_asm); (case k6 => k_is); (case k7 => k_is); (case k8 => ktr_room); (case k9 => exact BindsTo.of_eq rfl); (case c5 => decide); (case kB => exact locs rfl); (case c2 => exact rfl); (case c3 => exact rfl); (case c4 => exact rfl); k_whole; intro L' h' F' N'; (try dsimp only); (try k_fold)))
local macro_rules | `(tactic| walk_at "mine enterV") => `(tactic| ((case k3 => k_asm); (case k5 => k_asm); (case k6 => k_is); (case k7 => k_is); (case k8 => ktr_room); (case c5 => decide); (case kB => exact fun _ => locs rfl); (case c2 => exact rfl); (case c3 => exact rfl); (case c4 => exact rfl); (case kG => exact fun _ => rfl)))
local macro_rules | `(tactic| walk_at "mine go") => `(tactic| repeat' ((fail_if_success (with_reducible show wpAny _ _ (pyIter _) _ _ _)); (fail_if_success (with_reducible show wpAny _ _ (exec (Stmt.While _ _ _ _) _) _ _ _)); (fail_if_success (with_reducible show LCg.CompSrc _ _ _ _ _ _ _ _ _ _ _ _ _ _)); (first | (k_unfold; (try dsimp only)) | (k_end; wrow_close) | walk1 | (dsimp only; walk1) | (leave1; walk_say "STEP leave1"; try dsimp only) | fail "no step")))
local macro_rules | `(tactic| walk_at "mine tup") => `(tactic| first | (rename Fr _ _ _ _ => F9; exact F9.tup (by assumption)) | exact News.isTup (by k_asm) (by k_mem))
local macro_rules | `(tactic| walk_at "mine lst") => `(tactic| first | exact News.isList (by k_asm) (by k_mem) | (rename Fr _ _ _ _ => F9; exact F9.lst (by assumption)))
local macro_rules | `(tactic| walk_at "truthy ref") => `(tactic| (k_here; (refine tup_truthy (by walk_at "mine tup") (by assumption) (by omega) ?_ ?_ <;> intro he')))
local macro_rules | `(tactic| walk_at "call builtin:len") => `(tactic| (k_here; (first | refine tup_len (by walk_at "mine tup") (by assumption) (by omega) ?_ | refine lst_len (by walk_at "mine lst") (by assumption) (by omega) ?_)))
local macro_rules | `(tactic| walk_at "StarOf ref") => `(tactic| (k_here; (first | refine tup_star (by k_asm) (by k_asm) (by walk_at "mine tup") (by assumption) ?_ | refine lst_star (by k_asm) (by k_asm) (by walk_at "mine lst") (by assumption) ?_); intro h' F' N'; (try dsimp only [List.nil_append, List.cons_append])))
local macro_rules | `(tactic| walk_at "call builtin:all") => `(tactic| (k_here; (refine tup_all (by rfl) (by k_asm) (by k_asm) (by walk_at "mine tup") (by assumption) (by assumption) ?_); intro h' tk' F' N'))
local macro_rules | `(tactic| walk_at "call type:list") => `(tactic| (k_here; (refine list_copyKT (by k_asm) (by k_asm) (by walk_at "mine tup") ?_ (by simp only [List.size_toArray, sizeLine]; omega)); intro D' c' h' F' N' l1'))
local macro_rules | `(tactic| k_room) => `(tactic| ktr_room)
local macro_rules | `(tactic| k_inst) => `(tactic| first | (refine' inst_up ?iF ?i1 ?i2; (case iF => k_asm); (case i1 => assumption); (case i2 => assumption)) | fail "no object")
local macro_rules | `(tactic| walk_at "eval Call Attribute") => `(tactic| (k_here; (with_reducible show wpAny _ _ (eval (Expr.Call (Expr.Attribute _ _ _) [Expr.Starred _ _] [] _) _) _ _ _); refine methodCall_S ?_))
local macro_rules | `(tactic| walk_at "callWith ref") => `(tactic| (k_here; (with_reducible show wpAny _ _ (callWith _ (Value.ref _) _ (backTo _ (starEach [Expr.Starred _ _] _)) []) _ _ _); k_dflt (refine' callWith_SM ?kX ?k0 ?k1 ?k2 ?_; (case kX => k_asm); (case k0 => k_asm); (case k1 => k_mem); (case k2 => k_is); k_whole)))
local macro_rules | `(tactic| walk_at "getAttr ref") => `(tactic| (k_here; k_dflt (refine' get_sm ?k1 ?k2 ?k4 ?k5 ?k6 ?k7 ?k8 ?k9 ?k10 ?k11 ?k12 ?k13 ?_; (case k4 => k_inst); (case k1 => k_asm); (case k2 => k_asm); (case k7 => k_is); (case k5 => k_is); (case k6 => k_is); (case k8 => k_is); (case k9 => k_is); (case k10 => k_is); (case k11 => k_handed); (case k12 => decide +kernel); (case k13 => k_get); k_whole)))
local macro_rules | `(tactic| walk_at "mine tell") => `(tactic| ((case tB => k_asm); (case tF => k_asm); (case tX => k_asm); (case tN => k_asm); (case tT => k_asm); (case tf => rfl); (case tk => rfl); (case td => first | ktr_room | (dsimp only; omega) | (simp only [depth_deeper]; omega)); (case tu => first | omega | (dsimp only; omega) | k_units)))
local macro_rules | `(tactic| walk_at "mine enterVC") => `(tactic| ((case k3 => k_asm); (case k5 => k_asm); (case k6 => k_is); (case k7 => k_is); (case k8 => ktr_room); (case kK => exact fun _ => rfl); (case kN => decide +kernel); (case c2 => exact rfl); (case c3 => exact rfl); (case c4 => exact rfl); (case kG => exact fun _ => rfl)))
local macro_rules | `(tactic| walk_at "call type:map") => `(tactic| (k_here; (first | refine mapTup_N (prog := _) (w := _) (by k_asm) (by k_asm) (by walk_at "mine tup") (by assumption) (by assumption) ?_ | refine mapLst_N (by k_asm) (by k_asm) (by walk_at "mine lst") (by assumption) (by assumption) ?_); intro M' h' F' N' mo'))
local macro_rules | `(tactic| walk_at "call builtin:sum") => `(tactic| (k_here; refine sumMap_N (by rfl) (by assumption) (by k_asm) (by k_asm) ?_; intro h' tk' t' F' N'))
local macro_rules | `(tactic| walk_at "call builtin:max") => `(tactic| (k_here; refine maxMap_N (by rfl) (by assumption) (by k_asm) (by k_asm) (by assumption) ?_; intro h' tk' t' k' hk' F' N'))
local macro_rules | `(tactic| walk_at "mine slice") => `(tactic| ((with_reducible rename Fr _ _ _ _ => F'); (with_reducible rename News _ _ _ _ => N'); first
  | ((with_reducible show wpAny _ _ (subscriptTail _ (Expr.Slice none (some _) none _) _ _) _ _ _); (refine slice_strN_ns (hsz := ?hsz) (s := ⟨_, _, _, _, _⟩) F' N' ?_); (case hsz => (unfold sizeLine; omega)))
  | ((with_reducible show wpAny _ _ (subscriptTail _ (Expr.Slice (some _) none none _) _ _) _ _ _); (refine slice_strN_sn (hsz := ?hsz) (s := ⟨_, _, _, _, _⟩) F' N' ?_); (case hsz => (unfold sizeLine; omega)))
  | ((with_reducible show wpAny _ _ (subscriptTail _ (Expr.Slice (some _) (some _) none _) _ _) _ _ _); (refine slice_strN_ss (hsz := ?hsz) (s := ⟨_, _, _, _, _⟩) F' N' ?_); (case hsz => (unfold sizeLine; omega)))))
local macro_rules | `(tactic| walk_at "subscriptTail") => `(tactic| (k_here; (with_reducible show wpAny _ _ (subscriptTail _ (Expr.Slice _ _ _ _) (Value.str _ _) (Value.ref _)) _ _ _); walk_at "mine slice"; intro _ _ _ _ _))
local macro_rules | `(tactic| walk_at "eval ListComp") => `(tactic| (k_here; k_dflt (refine LCg.ListComp_U (F₀ := by k_asm) (by with_unfolding_all rfl) (by decide) (by rfl) (by decide) (by rfl) ?_)))
local macro_rules | `(tactic| walk_at "exec For Name Call cons nil") => `(tactic| (k_here; k_dflt (refine wpAny_For ?_)))
local macro_rules | `(tactic| walk_at "exec For Name Name cons cons") => `(tactic| (k_here; k_dflt (refine wpAny_For ?_)))
local macro_rules | `(tactic| walk_at "call builtin:len") => `(tactic| (k_here; (with_reducible show wpAny _ _ (call (Value.builtin "len") [Value.str _ _]) _ _ _); (refine len_bound (by first | assumption | omega) ?_); intro tk' t'))
theorem shortest_tx {ts : List Str} (t : Str) (r : List Str) (e : ts = t :: r) : tx (r.foldl lessLen t) = shortest (ts.map tx) := by
  subst e
  rw [less_fold]; rfl
theorem min_len_sh {prog : Program} {w : World} {A : Around} {E : Value → Shared → Prop} {s : Shared} {g : Heap} {L D : Addr} {m : Str → Option Value} {news : List (Addr × Obj)} {v : Value} {vs : List Value} {x sh : Str} {ts : List Str} {Q : Value → Shared → Prop} (e : ts.foldl lessLen x = sh) (hh : A.handled = none) (F : Fr g L s.heap m) (N : News g L s.heap news) (ht : IsTup s.heap D (v :: vs).toArray) (hi : StrsAre (v :: vs) (x :: ts)) (hb : ∀ t ∈ x :: ts, t.length ≤ 1000)
    (h : ∀ h' tk t, Fr g L h' m → News g L h' news → Q (.str sh t) { s with heap := h', toks := tk }) : wpAny (model prog w) A (call (.builtin "min") [.ref D] [(Str.ofString "key", .builtin "len")]) Q E s := by
  subst e; exact min_len_tup hh F N ht hi hb h
local macro_rules | `(tactic| walk_at "call builtin:min") => `(tactic| (k_here; (with_unfolding_all refine min_len_sh (by assumption) (by rfl) (by k_asm) (by k_asm) (by walk_at "mine tup") (by assumption) (by assumption) ?_); intro h' tk' t' F' N'))
theorem rows_own {g h h' : Heap} {L : Addr} {m : Str → Option Value} (F : Fr g L h m) {xs : List Str} {acc : Array Value} {n : Nat} (r : ∀ j, j < n → ∃ (T : Addr) (vals : List Value), acc[j]? = some (.ref T) ∧ h.get? T = none ∧ IsTup h' T vals.toArray ∧ RowOf xs j vals) :
    ∃ own : List (Addr × Obj), News g L h' own ∧ ∀ j, j < n → ∃ (T : Addr) (o : Obj) (vals : List Value), acc[j]? = some (.ref T) ∧ (T, o) ∈ own ∧ o.cls = .type "tuple" ∧ (∃ c, o.data = .seq vals.toArray c) ∧ RowOf xs j vals := by
  induction n with
  | zero => exact ⟨[], (fun p hp => nomatch hp), fun j hj => absurd hj (Nat.not_lt_zero _)⟩
  | succ n ih =>
    obtain ⟨own, N, h1⟩ := ih fun j hj => r j (Nat.lt_succ_of_lt hj)
    obtain ⟨T, vals, a, b, ⟨o, ho, hc, hd⟩, d⟩ := r n (Nat.lt_succ_self _)
    refine ⟨(T, o) :: own, got_news F N b ho, fun j hj => ?_⟩
    rcases Nat.lt_succ_iff_lt_or_eq.mp hj with hj | rfl
    · obtain ⟨T', o', vals', a', b', c'⟩ := h1 j hj
      exact ⟨T', o', vals', a', .tail _ b', c'⟩
    · exact ⟨T, o, vals, a, .head _, hc, hd, d⟩
theorem news_app {g h : Heap} {L : Addr} {p : Addr × Obj} {own news : List (Addr × Obj)} (N : News g L h (p :: news)) (NO : News g L h own) : News g L h (p :: (own ++ news)) := fun q hq => by
  rcases List.mem_cons.mp hq with rfl | hq
  · exact N _ (.head _)
  · rcases List.mem_append.mp hq with hq | hq
    · exact NO q hq
    · exact N q (.tail _ hq)
theorem ng_open {g h : Heap} {L a I : Addr} {oI : Obj} {acc : Array Value} {c : Nat} {own news : List (Addr × Obj)} (N : News g L h ((a, listOf acc c) :: (own ++ (I, oI) :: news))) :
    ∃ all, News g L h all ∧ LCg.SrcAt g a acc all ∧ (I, oI) ∈ all ∧ ∀ p ∈ own, p ∈ all :=
  ⟨_, N, .inr ⟨_, .head _, rfl, _, rfl⟩, by simp, fun p hp => by simp [hp]⟩
/-- the row of tails is the row of the piece's signs -/
theorem row_strs {x : Str} {k j : Nat} {vals : List Value} (r : RowOf (tails x k) j vals) (h : j + k ≤ x.length) : StrsAre vals ((((tx x).drop j).take k).map fun c => Mine.st [c]) := by
  have hl : vals.length = k := by rw [r.1, tails_len]
  have hlen : (((tx x).drop j).take k).length = k := by rw [List.length_take, List.length_drop, tx_len]; omega
  refine strs_of (by rw [List.length_map, hlen, hl]) fun i v hv => ?_
  have hi : i < k := by rw [← hl]; exact (List.getElem?_eq_some_iff.mp hv).1
  obtain ⟨c, t, hc, hvc⟩ := r.2 i (Mine.st ((tx x).drop i)) (by unfold tails; rw [List.getElem?_map, List.getElem?_range hi]; rfl)
  rw [hv] at hvc
  refine ⟨t, ?_⟩
  rw [Option.some.inj hvc]
  congr 1
  have hc' : ((tx x).drop i)[j]? = some c := by rw [← hc]; exact Array.getElem?_toList ..
  rw [List.getElem?_drop] at hc'
  rw [List.getD_eq_getElem?_getD, List.getElem?_map, List.getElem?_take, if_pos hi, List.getElem?_drop, Nat.add_comm, hc']
  rfl
theorem inAll_false {ts : List Str} {t : Str} {P : Tx} (h : t ∈ ts) (hn : Txt.contains t (Mine.st P) = false) : inAll (ts.map tx) P = false := by
  unfold inAll
  rw [List.all_eq_false]
  refine ⟨tx t, List.mem_map_of_mem h, ?_⟩
  rw [decide_eq_true_iff]
  intro e
  have := (contains_iff t (Mine.st P)).mpr (by rw [tx_st]; exact e)
  rw [this] at hn; cases hn
local macro_rules | `(tactic| walk_at "call ref") => `(tactic| (k_here; (with_reducible show wpAny _ _ (call (Value.ref 26) _) _ _ _); k_dflt (refine' Tells1.use (ngrams_c ⟨rfl, rfl⟩ _ _ _ _ ?hx ?hk ?hk0) ?tB ?tF ?tX ?tN ?tT ?tf ?tk ?td ?tu trivial ?_; walk_at "mine tell"; (case hx => assumption); (case hk => omega); (case hk0 => omega); intro v' h' tk' F' N' st' e'; obtain ⟨a', acc', c', e', n', g', z', r'⟩ := e'; subst e'; obtain ⟨own', NO', ho'⟩ := rows_own (by k_asm) r'; (have N' := news_app (got_news (by k_asm) N' n' g') NO'); clear n' g' NO' r')))
theorem News.here' {g h : Heap} {L T I : Addr} {o oI : Obj} {news : List (Addr × Obj)} (N : News g L h ((I, oI) :: news)) (hm : (T, o) ∈ news) : h.get? T = some o := (N _ (.tail _ hm)).1
set_option hygiene false in
local macro_rules | `(tactic| walk_at "call builtin:str.join") => `(tactic| (k_here; (refine join_tupleW (hTup (News.here' (by k_asm) hm8)) hstr' hsep hw9 ?_); intro t' k'; (rw [join_signs])))
/-- LCSStr._custom -/
theorem custom_c {prog : Program} {w : World} (fill : PySem.Challenge.rw_ah5039_01 = PySem.Challenge.rw_ah5039_01 ∧ hd.heap_39 = hd.heap_39) {vs : List Value} {ts : List Str} (hi : StrsAre vs ts) (hb1 : 2 ≤ ts.length) (hb2 : ts.length ≤ 4) (hb20 : ∀ t ∈ ts, t.length ≤ 20) (x : Addr) :
    Tells1 prog w (hd.heap_39 w.params) 3 60 (.ref 248) (.ref x :: vs) (fun _ => True) (fun v _ _ => ∃ t, v = .str (st (customOf (ts.map tx))) t) := by
  revert fill
  k_fill
  intro _
  intro p loose mean mg mb dp un gd outer A₀ base s Q B X T hdp hu hI ret
  have hl : vs.length ≤ 1000 := by rw [strs_len hi]; omega
  have hb3 : ∀ t ∈ ts, t.length ≤ 1000 := fun t ht => by have := hb20 t ht; omega
  k_dflt (refine' enterV (vs := vs) (g₁ := fun D => some [("self", .ref x), ("sequences", .ref D)]) (binds := fun D => [("self", .ref x), ("sequences", .ref D)]) ?k3 ?k5 ?k6 ?k7 ?k8 ?k9 ?kG ?kB ?_ ?c2 ?c3 ?c4 ?c5; walk_at "mine enterV")
  case k9 => refine upto4 (P := fun us => peek1 _ _ (bindArgs _ { pos := .ref x :: us }) = some (restObj us, _)) ?_ ?_ ?_ ?_ ?_ vs (by rw [strs_len hi]; exact hb2) <;> (intros; rfl)
  intro D g L h₁ st hD ht F N
  replace B := below_up B st
  replace X := X.keeps st
  replace T := T.keeps st
  dsimp only
  try k_fold
  obtain ⟨v0, vr, x0, tr, rfl, rfl⟩ : ∃ v0 vr x0 tr, vs = v0 :: vr ∧ ts = x0 :: tr := by
    cases hi with
    | nil => simp at hb1
    | cons n t r => exact ⟨_, _, _, _, rfl, rfl⟩
  obtain ⟨sh, esh⟩ : ∃ sh, tr.foldl lessLen x0 = sh := ⟨_, rfl⟩
  have hshx := shortest_tx x0 tr rfl
  rw [esh] at hshx
  have hsh : sh.length ≤ 20 := by
    have h1 := shortest_le ((x0 :: tr).map tx) (tx x0) (by simp)
    rw [← hshx, tx_len, tx_len] at h1
    have := hb20 x0 (by simp)
    omega
  walk_at "mine go"
  rename IsRange _ _ _ _ _ _ _ _ => hr
  rename Fr _ _ _ _ => F
  rename News _ _ _ _ => N
  have htl : (x0 :: tr).map tx = ((x0 :: tr).map tx) := rfl
  refine iter_downJ (n := sh.length) (fun i m news => (∃ t, m "short" = some (.str sh t)) ∧ m "sequences" = some (.ref D) ∧ ∀ k, k < i → ∀ a, a ≤ k → inAll ((x0 :: tr).map tx) (((tx sh).drop a).take ((tx sh).length - k)) = false) rfl F N hr rfl (by omega) ⟨⟨_, rfl⟩, rfl, fun k hk => absurd hk (Nat.not_lt_zero _)⟩ ?turn ?done
  case done =>
    clear F N hr
    rintro m₁ news₁ h tk ⟨⟨t0, e1⟩, e2, hno⟩ F N
    replace F := Fr.name "sequences" _ (Fr.name "short" _ F e1) e2
    walk_at "mine go"
    have hfin := custom_none hshx (by rw [tx_len]; exact hno)
    rw [hfin] at ret
    rw [show (0 : Int) = ((0 : Nat) : Int) from rfl, slice_ns sh (Nat.zero_le _)]
    exact ret _ _ _ (fun b o e => by rename Fr _ _ _ _ => F2; exact F2.keep b o (st b o e)) ⟨_, rfl⟩
  case turn =>
    clear F N hr
    rintro I i t m₁ news₁ oI h tk hi' ⟨⟨t0, e1⟩, e2, hno⟩ off F N
    replace F := Fr.name "sequences" _ (Fr.name "short" _ F e1) e2
    have htxl := tx_len sh
    walk_at "mine go"
    rename (∀ (j : Nat), j < sh.length - (sh.length - i) + 1 → _) => ho
    rename _ = sh.length - (sh.length - i) + 1 => hz
    rename Fr _ _ _ _ => F
    rename News _ _ _ _ => N
    have hsz : sh.length - (sh.length - i) + 1 = i + 1 := by omega
    rw [hsz] at ho hz
    obtain ⟨all, N, hS, hIn, hown⟩ := ng_open N
    refine iter_listJ (fun j m news => news = all ∧ (∃ t, m "short" = some (.str sh t)) ∧ m "sequences" = some (.ref D) ∧ m "n" = some (.int ((sh.length - i : Nat) : Int) t) ∧ ∀ a, a < j → inAll ((x0 :: tr).map tx) (((tx sh).drop a).take ((tx sh).length - i)) = false)
      rfl F N hS ⟨rfl, ⟨_, rfl⟩, rfl, rfl, fun a ha => absurd ha (Nat.not_lt_zero _)⟩ ?turn2 ?done2
    case done2 =>
      clear F N
      rintro m₂ news₂ h tk ⟨rfl, ⟨t0, e1⟩, e2, e3, hno2⟩ F N
      rw [hz] at hno2
      walk_at "mine go"
      refine TurnJ.intro F N [] (fun p hp => by rw [List.mem_singleton.mp hp]; exact hIn) trivial trivial ⟨⟨_, e1⟩, e2, fun k hk a ha => ?_⟩
      rcases Nat.lt_succ_iff_lt_or_eq.mp hk with hk | rfl
      · exact hno k hk a ha
      · exact hno2 a (by omega)
    case turn2 =>
      clear F N
      rintro I2 j v m₂ news₂ oI2 h tk hj hv ⟨rfl, ⟨t0, e1⟩, e2, e3, hno2⟩ off2 hS2 F N
      rw [hz] at hj
      replace F := Fr.name "n" _ (Fr.name "sequences" _ (Fr.name "short" _ F e1) e2) e3
      obtain ⟨T9, o9, vals, hT9, hm9, hc9, ⟨c9, hd9⟩, hrow⟩ := ho j hj
      rw [hv] at hT9
      obtain rfl := Option.some.inj hT9
      have hstr := row_strs hrow (by omega)
      rw [← htxl] at hstr
      have hw9 : ((((((tx sh).drop j).take ((tx sh).length - i)).map fun c => Mine.st [c]).map (·.length)).sum + ((((tx sh).drop j).take ((tx sh).length - i)).map fun c => Mine.st [c]).length) ≤ 1048576 := by
        rw [signs_sum, List.length_map, List.length_take, List.length_drop]; omega
      have hstr' : StrsAre vals.toArray.toList ((((tx sh).drop j).take ((tx sh).length - i)).map fun c => Mine.st [c]) := by simpa using hstr
      have hTup : ∀ {h9 : Heap}, h9.get? T9 = some o9 → IsTup h9 T9 vals.toArray := fun e => ⟨o9, e, hc9, c9, hd9⟩
      have hm8 := hown _ hm9
      have hsep : (Str.ofString "").length ≤ 16 := by decide +kernel
      walk_at "mine go"
      rename Fr _ _ _ _ => F
      rename News _ _ _ _ => N
      obtain ⟨P, hP⟩ : ∃ P, ((tx sh).drop j).take ((tx sh).length - i) = P := ⟨_, rfl⟩
      rw [hP] at F
      have hPl : P.length ≤ 20 := by rw [← hP, List.length_take, List.length_drop]; omega
      have hPs : (Mine.st P).length ≤ 1000 := by rw [st_len]; omega
      refine iter_tupJ (fun q m news => news = (I2, oI2) :: news₂ ∧ (∃ t, m "joined" = some (.str (Mine.st P) t)) ∧ (∃ t, m "short" = some (.str sh t)) ∧ m "sequences" = some (.ref D) ∧ m "n" = some (.int ((sh.length - i : Nat) : Int) t) ∧ ∀ q', q' < q → ∀ t', (x0 :: tr)[q']? = some t' → Txt.contains t' (Mine.st P) = true)
        rfl F N ht ⟨rfl, ⟨_, rfl⟩, ⟨_, rfl⟩, rfl, rfl, fun a ha => absurd ha (Nat.not_lt_zero _)⟩ ?turn3 ?done3
      case done3 =>
        clear F N
        rintro m₃ news₃ h tk ⟨rfl, ⟨tj, e4⟩, ⟨t0, e1⟩, e2, e3, hc⟩ F N
        replace F := Fr.name "joined" _ F e4
        walk_at "mine go"
        have hall : inAll ((x0 :: tr).map tx) P = true := by
          unfold inAll
          rw [List.all_eq_true]
          intro y hy
          obtain ⟨y', hy', rfl⟩ := List.mem_map.mp hy
          obtain ⟨q', hq'⟩ := List.getElem?_of_mem hy'
          have hlt := (List.getElem?_eq_some_iff.mp hq').1
          have := hc q' (by rw [List.size_toArray, strs_len hi]; exact hlt) y' hq'
          rw [decide_eq_true_iff, ← tx_st P]
          exact (contains_iff _ _).mp this
        rw [← hP] at hall
        have hfin := custom_found hshx (by omega) (by omega) hno hno2 hall
        rw [hfin, hP] at ret
        exact ret _ _ _ (fun b o e => by rename Fr _ _ _ _ => F2; exact F2.keep b o (st b o e)) ⟨_, rfl⟩
      case turn3 =>
        clear F N
        rintro I3 q v m₃ news₃ oI3 h tk hq hv ⟨rfl, ⟨tj, e4⟩, ⟨t0, e1⟩, e2, e3, hc⟩ off3 _ F N
        obtain ⟨t3, rfl⟩ := SetStr.strs_at hi q v (by simpa using hv)
        replace F := Fr.name "n" _ (Fr.name "sequences" _ (Fr.name "short" _ (Fr.name "joined" _ F e4) e1) e2) e3
        have hq2 : q < (x0 :: tr).length := by rw [← strs_len hi]; simpa using hq
        have hmq := getD_mem hq2
        have hlq := hb20 _ hmq
        generalize hxq : (x0 :: tr).getD q Str.empty = xq at *
        walk_at "mine go"
        · rename _ = true => hnc
          have hnc' : Txt.contains xq (Mine.st P) = false := by
            show (!(Builtin.Str.occurrences xq (Mine.st P) 0 xq.length 1).isEmpty) = false
            rw [hnc]; rfl
          show wpAny _ _ (execs [] _) _ _ _
          walk_at "mine go"
          rename Fr _ _ _ _ => F9
          rename News _ _ _ _ => N9
          refine TurnJ.intro F9 N9 news₂ (fun p hp => .tail _ hp) off2 hS2 ⟨rfl, ⟨_, rfl⟩, rfl, rfl, fun a ha => ?_⟩
          rcases Nat.lt_succ_iff_lt_or_eq.mp ha with ha | rfl
          · exact hno2 a ha
          · rw [hP]; exact inAll_false hmq hnc'
        · rename _ = false => hnc
          have hnc' : Txt.contains xq (Mine.st P) = true := by
            show (!(Builtin.Str.occurrences xq (Mine.st P) 0 xq.length 1).isEmpty) = true
            rw [hnc]; rfl
          rename Fr _ _ _ _ => F9
          rename News _ _ _ _ => N9
          refine TurnJ.intro F9 N9 ((I2, oI2) :: news₂) (fun p hp => hp) off3 trivial ⟨rfl, ⟨_, rfl⟩, ⟨_, rfl⟩, rfl, rfl, fun q' hq' t' ht' => ?_⟩
          rcases Nat.lt_succ_iff_lt_or_eq.mp hq' with hq' | rfl
          · exact hc q' hq' t' ht'
          · have : xq = t' := by rw [← hxq, List.getD_eq_getElem?_getD, ht']; rfl
            rw [← this]; exact hnc'

end Mine

end

section
local macro_rules | `(tactic| walk_at "mine pad C5 0") => `(tactic| skip)
local macro_rules | `(tactic| walk_at "mine pad C5 1") => `(tactic| skip)
local macro_rules | `(tactic| walk_at "mine pad C5 2") => `(tactic| skip)
local macro_rules | `(tactic| walk_at "mine pad C5 3") => `(tactic| skip)
local macro_rules | `(tactic| walk_at "mine pad C5 4") => `(tactic| skip)
local macro_rules | `(tactic| walk_at "mine pad C5 5") => `(tactic| skip)
local macro_rules | `(tactic| walk_at "mine pad C5 6") => `(tactic| skip)
local macro_rules | `(tactic| walk_at "mine pad C5 7") => `(tactic| skip)
local macro_rules | `(tactic| walk_at "mine pad C5 8") => `(tactic| skip)
local macro_rules | `(tactic| walk_at "mine pad C5 9") => `(tactic| skip)
local macro_rules | `(tactic| walk_at "mine pad C5 10") => `(tactic| skip)
local macro_rules | `(tactic| walk_at "mine pad C5 11") => `(tactic| skip)
open PySem PySem.W PySem.Calls PyProof.Rows
set_option Elab.async false
set_option maxRecDepth 100000
set_option maxHeartbeats 8000000
namespace Mine
local macro_rules | `(tactic| walk_at "mine enter") => `(tactic| (refine' enter ?k3 ?k5 ?k6 ?k7 ?k8 ?k9 ?kB ?_ ?c2 ?c3 ?c4 ?c5; (case k3 => k_asm); (case k5 => k_asm); (case k6 => k_is); (case k7 => k_is); (case k8 => ktr_room); (case k9 => exact BindsTo.of_eq rfl); (case c5 => decide); (case kB => exact locs rfl); (case c2 => exact rfl); (case c3 => exact rfl); (case c4 => exact rfl); k_whole; intro L' h' F' N'; (try dsimp only); (try k_fold)))
local macro_rules | `(tactic| walk_at "mine enterV") => `(tactic| ((case k3 => k_asm); (case k5 => k_asm); (case k6 => k_is); (case k7 => k_is); (case k8 => ktr_room); (case c5 => decide); (case kB => exact fun _ => locs rfl); (case c2 => exact rfl); (case c3 => exact rfl); (case c4 => exact rfl); (case kG => exact fun _ => rfl)))
local macro_rules | `(tactic| walk_at "mine go") => `(tactic| repeat' ((fail_if_success (with_reducible show wpAny _ _ (pyIter _) _ _ _)); (fail_if_success (with_reducible show wpAny _ _ (exec (Stmt.While _ _ _ _) _) _ _ _)); (fail_if_success (with_reducible show LCg.CompSrc _ _ _ _ _ _ _ _ _ _ _ _ _ _)); (first | (k_unfold; (try dsimp only)) | (k_end; wrow_close) | walk1 | (dsimp only; walk1) | (leave1; walk_say "STEP leave1"; try dsimp only) | fail "no step")))
local macro_rules | `(tactic| walk_at "mine tup") => `(tactic| first | (rename Fr _ _ _ _ => F9; exact F9.tup (by assumption)) | exact News.isTup (by k_asm) (by k_mem))
local macro_rules | `(tactic| walk_at "mine lst") => `(tactic| first | exact News.isList (by k_asm) (by k_mem) | (rename Fr _ _ _ _ => F9; exact F9.lst (by assumption)))
local macro_rules | `(tactic| walk_at "truthy ref") => `(tactic| (k_here; (refine tup_truthy (by walk_at "mine tup") (by assumption) (by omega) ?_ ?_ <;> intro he')))
local macro_rules | `(tactic| walk_at "call builtin:len") => `(tactic| (k_here; (first | refine tup_len (by walk_at "mine tup") (by assumption) (by omega) ?_ | refine lst_len (by walk_at "mine lst") (by assumption) (by omega) ?_)))
local macro_rules | `(tactic| walk_at "StarOf ref") => `(tactic| (k_here; (first | refine tup_star (by k_asm) (by k_asm) (by walk_at "mine tup") (by assumption) ?_ | refine lst_star (by k_asm) (by k_asm) (by walk_at "mine lst") (by assumption) ?_); intro h' F' N'; (try dsimp only [List.nil_append, List.cons_append])))
local macro_rules | `(tactic| walk_at "call builtin:all") => `(tactic| (k_here; (refine tup_all (by rfl) (by k_asm) (by k_asm) (by walk_at "mine tup") (by assumption) (by assumption) ?_); intro h' tk' F' N'))
local macro_rules | `(tactic| walk_at "call type:list") => `(tactic| (k_here; (refine list_copyKT (by k_asm) (by k_asm) (by walk_at "mine tup") ?_ (by simp only [List.size_toArray, sizeLine]; omega)); intro D' c' h' F' N' l1'))
local macro_rules | `(tactic| k_room) => `(tactic| ktr_room)
local macro_rules | `(tactic| k_inst) => `(tactic| first | (refine' inst_up ?iF ?i1 ?i2; (case iF => k_asm); (case i1 => assumption); (case i2 => assumption)) | fail "no object")
local macro_rules | `(tactic| walk_at "eval Call Attribute") => `(tactic| (k_here; (with_reducible show wpAny _ _ (eval (Expr.Call (Expr.Attribute _ _ _) [Expr.Starred _ _] [] _) _) _ _ _); refine methodCall_S ?_))
local macro_rules | `(tactic| walk_at "callWith ref") => `(tactic| (k_here; (with_reducible show wpAny _ _ (callWith _ (Value.ref _) _ (backTo _ (starEach [Expr.Starred _ _] _)) []) _ _ _); k_dflt (refine' callWith_SM ?kX ?k0 ?k1 ?k2 ?_; (case kX => k_asm); (case k0 => k_asm); (case k1 => k_mem); (case k2 => k_is); k_whole)))
local macro_rules | `(tactic| walk_at "getAttr ref") => `(tactic| (k_here; k_dflt (refine' get_sm ?k1 ?k2 ?k4 ?k5 ?k6 ?k7 ?k8 ?k9 ?k10 ?k11 ?k12 ?k13 ?_; (case k4 => k_inst); (case k1 => k_asm); (case k2 => k_asm); (case k7 => k_is); (case k5 => k_is); (case k6 => k_is); (case k8 => k_is); (case k9 => k_is); (case k10 => k_is); (case k11 => k_handed); (case k12 => decide +kernel); (case k13 => k_get); k_whole)))
local macro_rules | `(tactic| walk_at "mine tell") => `(tactic| ((case tB => k_asm); (case tF => k_asm); (case tX => k_asm); (case tN => k_asm); (case tT => k_asm); (case tf => rfl); (case tk => rfl); (case td => first | ktr_room | (dsimp only; omega) | (simp only [depth_deeper]; omega)); (case tu => first | omega | (dsimp only; omega) | k_units)))
local macro_rules | `(tactic| walk_at "mine enterVC") => `(tactic| ((case k3 => k_asm); (case k5 => k_asm); (case k6 => k_is); (case k7 => k_is); (case k8 => ktr_room); (case kK => exact fun _ => rfl); (case kN => decide +kernel); (case c2 => exact rfl); (case c3 => exact rfl); (case c4 => exact rfl); (case kG => exact fun _ => rfl)))
local macro_rules | `(tactic| walk_at "call type:map") => `(tactic| (k_here; (first | refine mapTup_N (prog := _) (w := _) (by k_asm) (by k_asm) (by walk_at "mine tup") (by assumption) (by assumption) ?_ | refine mapLst_N (by k_asm) (by k_asm) (by walk_at "mine lst") (by assumption) (by assumption) ?_); intro M' h' F' N' mo'))
local macro_rules | `(tactic| walk_at "call builtin:sum") => `(tactic| (k_here; refine sumMap_N (by rfl) (by assumption) (by k_asm) (by k_asm) ?_; intro h' tk' t' F' N'))
local macro_rules | `(tactic| walk_at "call builtin:max") => `(tactic| (k_here; refine maxMap_N (by rfl) (by assumption) (by k_asm) (by k_asm) (by assumption) ?_; intro h' tk' t' k' hk' F' N'))
local macro_rules | `(tactic| walk_at "mine slice") => `(tactic| ((with_reducible rename Fr _ _ _ _ => F'); (with_reducible rename News _ _ _ _ => N'); first
  | ((with_reducible show wpAny _ _ (subscriptTail _ (Expr.Slice none (some _) none _) _ _) _ _ _); (refine slice_strN_ns (hsz := ?hsz) (s := ⟨_, _, _, _, _⟩) F' N' ?_); (case hsz => (unfold sizeLine; omega)))
  | ((with_reducible show wpAny _ _ (subscriptTail _ (Expr.Slice (some _) none none _) _ _) _ _ _); (refine slice_strN_sn (hsz := ?hsz) (s := ⟨_, _, _, _, _⟩) F' N' ?_); (case hsz => (unfold sizeLine; omega)))
  | ((with_reducible show wpAny _ _ (subscriptTail _ (Expr.Slice (some _) (some _) none _) _ _) _ _ _); (refine slice_strN_ss (hsz := ?hsz) (s := ⟨_, _, _, _, _⟩) F' N' ?_); (case hsz => (unfold sizeLine; omega)))))
local macro_rules | `(tactic| walk_at "subscriptTail") => `(tactic| (k_here; (with_reducible show wpAny _ _ (subscriptTail _ (Expr.Slice _ _ _ _) (Value.str _ _) (Value.ref _)) _ _ _); walk_at "mine slice"; intro _ _ _ _ _))
local macro_rules | `(tactic| walk_at "eval ListComp") => `(tactic| (k_here; k_dflt (refine LCg.ListComp_U (F₀ := by k_asm) (by with_unfolding_all rfl) (by decide) (by rfl) (by decide) (by rfl) ?_)))
local macro_rules | `(tactic| walk_at "call ref") => `(tactic| (k_here; (refine' Tells1.useM (f := .ref 108) ?tq (getseq_c ⟨rfl, rfl⟩ (by assumption) (by assumption) _ _ ?tC) ?tB ?tF ?tX ?tN ?tT ?tf ?tk ?td ?tu ?tI ?_; walk_at "mine tell"; (case tq => k_mem); (case tI => exact IsInst.up (by assumption) (Fr.keep (by k_asm))); (case tC => first | exact Or.inl rfl | exact Or.inr rfl)); intro v' h' tk' F' N' st' e'; obtain ⟨a', c', e', n', g'⟩ := e'; subst e'; (have N' := got_news (by k_asm) N' n' g'); clear n' g'))
local macro_rules | `(tactic| walk_at "call ref") => `(tactic| (k_here; (refine' Tells1.useM (f := .ref 241) ?tq (standart_l _ (by assumption) (by omega) (by assumption)) ?tB ?tF ?tX ?tN ?tT ?tf ?tk ?td ?tu trivial ?_; walk_at "mine tell"; (case tq => k_mem)); intro v' h' tk' F' N' st' e'; obtain ⟨t', e'⟩ := e'; subst e'))
local macro_rules | `(tactic| walk_at "call ref") => `(tactic| (k_here; (refine' Tells1.useM (f := .ref 248) ?tq (custom_c ⟨rfl, rfl⟩ (by assumption) (by assumption) (by assumption) (by assumption) _) ?tB ?tF ?tX ?tN ?tT ?tf ?tk ?td ?tu trivial ?_; walk_at "mine tell"; (case tq => k_mem)); intro v' h' tk' F' N' st' e'; obtain ⟨t', e'⟩ := e'; subst e'))
theorem lcsOf_two {ts : List Str} (h : ts.length = 2) : lcsOf (ts.map tx) = standart (tx (ts.getD 0 Str.empty)) (tx (ts.getD 1 Str.empty)) := by
  unfold lcsOf; rw [if_pos (by simpa using h), getD_tx, getD_tx]
theorem lcsOf_more {ts : List Str} (h : ts.length ≠ 2) : lcsOf (ts.map tx) = customOf (ts.map tx) := by
  unfold lcsOf; rw [if_neg (by simpa using h)]
theorem lcsOf_none {ts : List Str} (h : (ts.all fun t => decide (0 < t.length)) = false) : lcsOf (ts.map tx) = [] := by
  rw [List.all_eq_false] at h
  obtain ⟨t, h1, h2⟩ := h
  refine lcsOf_empty ⟨tx t, List.mem_map_of_mem h1, ?_⟩
  have : (tx t).length = 0 := by rw [tx_len]; simpa using h2
  exact List.eq_nil_of_length_eq_zero this

theorem lcsstr_c {prog : Program} {w : World} (fill : PySem.Challenge.rw_ah5039_01 = PySem.Challenge.rw_ah5039_01 ∧ hd.heap_39 = hd.heap_39) {vs : List Value} {ts : List Str} (hi : StrsAre vs ts) (hb1 : 2 ≤ ts.length) (hb2 : ts.length ≤ 4) (hb20 : ∀ t ∈ ts, t.length ≤ 20) (x : Addr) :
    Tells1 prog w (hd.heap_39 w.params) 6 100 (.ref 255) (.ref x :: vs) (fun h => IsInst w.params h x 265) (fun v _ _ => ∃ t, v = .str (st (lcsOf (ts.map tx))) t) := by
  revert fill
  k_fill
  intro _
  intro p loose mean mg mb dp un gd outer A₀ base s Q B X T hdp hu hI ret
  have hl : vs.length ≤ 1000 := by rw [strs_len hi]; omega
  have hb3 : ∀ t ∈ ts, t.length ≤ 1000 := fun t ht => by have := hb20 t ht; omega
  have hne : ts ≠ [] := by rintro rfl; simp at hb1
  k_dflt (refine' enterV (vs := vs) (g₁ := fun D => some [("self", .ref x), ("sequences", .ref D)]) (binds := fun D => [("self", .ref x), ("sequences", .ref D)]) ?k3 ?k5 ?k6 ?k7 ?k8 ?k9 ?kG ?kB ?_ ?c2 ?c3 ?c4 ?c5; walk_at "mine enterV")
  case k9 => refine upto4 (P := fun us => peek1 _ _ (bindArgs _ { pos := .ref x :: us }) = some (restObj us, _)) ?_ ?_ ?_ ?_ ?_ vs (by rw [strs_len hi]; exact hb2) <;> (intros; rfl)
  intro D g L h₁ st hD ht F N
  replace B := below_up B st
  replace X := X.keeps st
  replace T := T.keeps st
  replace hI := hI.up st
  obtain ⟨d, u1, u2, i1, i2⟩ := id hI
  dsimp only
  try k_fold
  walk_at "mine go"
  all_goals first | (exfalso; omega) | skip
  all_goals refine ret _ _ _ (fun b o e => by rename Fr _ _ _ _ => F2; exact F2.keep b o (st b o e)) ?_
  all_goals dsimp only
  · exact ⟨_, by rw [lcsOf_two (by omega)]⟩
  · exfalso
    rename _ ∈ List.map _ _ => hk9
    obtain ⟨t9, ht9, e9⟩ := List.mem_map.mp hk9
    have := hb20 t9 ht9
    omega
  · exact ⟨_, by rw [lcsOf_more (by omega)]⟩
  · exact ⟨_, by rw [lcsOf_none (by assumption)]; rfl⟩

end Mine

end

section
local macro_rules | `(tactic| walk_at "mine pad C6 0") => `(tactic| skip)
local macro_rules | `(tactic| walk_at "mine pad C6 1") => `(tactic| skip)
local macro_rules | `(tactic| walk_at "mine pad C6 2") => `(tactic| skip)
local macro_rules | `(tactic| walk_at "mine pad C6 3") => `(tactic| skip)
local macro_rules | `(tactic| walk_at "mine pad C6 4") => `(tactic| skip)
local macro_rules | `(tactic| walk_at "mine pad C6 5") => `(tactic| skip)
local macro_rules | `(tactic| walk_at "mine pad C6 6") => `(tactic| skip)
local macro_rules | `(tactic| walk_at "mine pad C6 7") => `(tactic| skip)
local macro_rules | `(tactic| walk_at "mine pad C6 8") => `(tactic| skip)
local macro_rules | `(tactic| walk_at "mine pad C6 9") => `(tactic| skip)
local macro_rules | `(tactic| walk_at "mine pad C6 10") => `(tactic| skip)
open PySem PySem.W PySem.Calls PyProof.Rows
set_option Elab.async false
set_option maxRecDepth 100000
set_option maxHeartbeats 8000000
namespace Mine
local macro_rules | `(tactic| walk_at "mine enter") => `(tactic| (refine' enter ?k3 ?k5 ?k6 ?k7 ?k8 ?k9 ?kB ?_ ?c2 ?c3 ?c4 ?c5; (case k3 => k_asm); (case k5 => k_asm); (case k6 => k_is); (case k7 => k_is); (case k8 => ktr_room); (case k9 => exact BindsTo.of_eq rfl); (case c5 => decide); (case kB => exact locs rfl); (case c2 => exact rfl); (case c3 => exact rfl); (case c4 => exact rfl); k_whole; intro L' h' F' N'; (try dsimp only); (try k_fold)))
local macro_rules | `(tactic| walk_at "mine enterV") => `(tactic| ((case k3 => k_asm); (case k5 => k_asm); (case k6 => k_is); (case k7 => k_is); (case k8 => ktr_room); (case c5 => decide); (case kB => exact fun _ => locs rfl); (case c2 => exact rfl); (case c3 => exact rfl); (case c4 => exact rfl); (case kG => exact fun _ => rfl)))
local macro_rules | `(tactic| walk_at "mine go") => `(tactic| repeat' ((fail_if_success (with_reducible show wpAny _ _ (pyIter _) _ _ _)); (fail_if_success (with_reducible show wpAny _ _ (exec (Stmt.While _ _ _ _) _) _ _ _)); (first | (k_unfold; (try dsimp only)) | (k_end; wrow_close) | walk1 | (dsimp only; walk1) | (leave1; walk_say "STEP leave1"; try dsimp only) | fail "no step")))
local macro_rules | `(tactic| walk_at "mine tup") => `(tactic| first | (rename Fr _ _ _ _ => F9; exact F9.tup (by assumption)) | exact News.isTup (by k_asm) (by k_mem))
local macro_rules | `(tactic| walk_at "mine lst") => `(tactic| first | exact News.isList (by k_asm) (by k_mem) | (rename Fr _ _ _ _ => F9; exact F9.lst (by assumption)))
local macro_rules | `(tactic| walk_at "truthy ref") => `(tactic| (k_here; (refine tup_truthy (by walk_at "mine tup") (by assumption) (by omega) ?_ ?_ <;> intro he')))
local macro_rules | `(tactic| walk_at "call builtin:len") => `(tactic| (k_here; (first | refine tup_len (by walk_at "mine tup") (by assumption) (by omega) ?_ | refine lst_len (by walk_at "mine lst") (by assumption) (by omega) ?_)))
local macro_rules | `(tactic| walk_at "StarOf ref") => `(tactic| (k_here; (first | refine tup_star (by k_asm) (by k_asm) (by walk_at "mine tup") (by assumption) ?_ | refine lst_star (by k_asm) (by k_asm) (by walk_at "mine lst") (by assumption) ?_); intro h' F' N'; (try dsimp only [List.nil_append, List.cons_append])))
local macro_rules | `(tactic| walk_at "call builtin:all") => `(tactic| (k_here; (refine tup_all (by rfl) (by k_asm) (by k_asm) (by walk_at "mine tup") (by assumption) (by assumption) ?_); intro h' tk' F' N'))
local macro_rules | `(tactic| walk_at "call type:list") => `(tactic| (k_here; (refine list_copyKT (by k_asm) (by k_asm) (by walk_at "mine tup") ?_ (by simp only [List.size_toArray, sizeLine]; omega)); intro D' c' h' F' N' l1'))
local macro_rules | `(tactic| k_room) => `(tactic| ktr_room)
local macro_rules | `(tactic| k_inst) => `(tactic| first | (refine' inst_up ?iF ?i1 ?i2; (case iF => k_asm); (case i1 => assumption); (case i2 => assumption)) | fail "no object")
local macro_rules | `(tactic| walk_at "eval Call Attribute") => `(tactic| (k_here; (with_reducible show wpAny _ _ (eval (Expr.Call (Expr.Attribute _ _ _) [Expr.Starred _ _] [] _) _) _ _ _); refine methodCall_S ?_))
local macro_rules | `(tactic| walk_at "callWith ref") => `(tactic| (k_here; (with_reducible show wpAny _ _ (callWith _ (Value.ref _) _ (backTo _ (starEach [Expr.Starred _ _] _)) []) _ _ _); k_dflt (refine' callWith_SM ?kX ?k0 ?k1 ?k2 ?_; (case kX => k_asm); (case k0 => k_asm); (case k1 => k_mem); (case k2 => k_is); k_whole)))
local macro_rules | `(tactic| walk_at "getAttr ref") => `(tactic| (k_here; k_dflt (refine' get_sm ?k1 ?k2 ?k4 ?k5 ?k6 ?k7 ?k8 ?k9 ?k10 ?k11 ?k12 ?k13 ?_; (case k4 => k_inst); (case k1 => k_asm); (case k2 => k_asm); (case k7 => k_is); (case k5 => k_is); (case k6 => k_is); (case k8 => k_is); (case k9 => k_is); (case k10 => k_is); (case k11 => k_handed); (case k12 => decide +kernel); (case k13 => k_get); k_whole)))
local macro_rules | `(tactic| walk_at "mine tell") => `(tactic| ((case tB => k_asm); (case tF => k_asm); (case tX => k_asm); (case tN => k_asm); (case tT => k_asm); (case tf => rfl); (case tk => rfl); (case td => first | ktr_room | (dsimp only; omega) | (simp only [depth_deeper]; omega)); (case tu => first | omega | (dsimp only; omega) | k_units)))
local macro_rules | `(tactic| walk_at "mine enterVC") => `(tactic| ((case k3 => k_asm); (case k5 => k_asm); (case k6 => k_is); (case k7 => k_is); (case k8 => ktr_room); (case kK => exact fun _ => rfl); (case kN => decide +kernel); (case c2 => exact rfl); (case c3 => exact rfl); (case c4 => exact rfl); (case kG => exact fun _ => rfl)))
local macro_rules | `(tactic| walk_at "call type:map") => `(tactic| (k_here; (first | refine mapTup_N (prog := _) (w := _) (by k_asm) (by k_asm) (by walk_at "mine tup") (by assumption) (by assumption) ?_ | refine mapLst_N (by k_asm) (by k_asm) (by walk_at "mine lst") (by assumption) (by assumption) ?_); intro M' h' F' N' mo'))
local macro_rules | `(tactic| walk_at "call builtin:sum") => `(tactic| (k_here; refine sumMap_N (by rfl) (by assumption) (by k_asm) (by k_asm) ?_; intro h' tk' t' F' N'))
local macro_rules | `(tactic| walk_at "call builtin:max") => `(tactic| (k_here; refine maxMap_N (by rfl) (by assumption) (by k_asm) (by k_asm) (by assumption) ?_; intro h' tk' t' k' hk' F' N'))
local macro_rules | `(tactic| walk_at "mine slice") => `(tactic| ((with_reducible rename Fr _ _ _ _ => F'); (with_reducible rename News _ _ _ _ => N'); first
  | ((with_reducible show wpAny _ _ (subscriptTail _ (Expr.Slice none (some _) none _) _ _) _ _ _); (refine slice_strN_ns (hsz := ?hsz) (s := ⟨_, _, _, _, _⟩) F' N' ?_); (case hsz => (unfold sizeLine; omega)))
  | ((with_reducible show wpAny _ _ (subscriptTail _ (Expr.Slice (some _) none none _) _ _) _ _ _); (refine slice_strN_sn (hsz := ?hsz) (s := ⟨_, _, _, _, _⟩) F' N' ?_); (case hsz => (unfold sizeLine; omega)))
  | ((with_reducible show wpAny _ _ (subscriptTail _ (Expr.Slice (some _) (some _) none _) _ _) _ _ _); (refine slice_strN_ss (hsz := ?hsz) (s := ⟨_, _, _, _, _⟩) F' N' ?_); (case hsz => (unfold sizeLine; omega)))))
local macro_rules | `(tactic| walk_at "subscriptTail") => `(tactic| (k_here; (with_reducible show wpAny _ _ (subscriptTail _ (Expr.Slice _ _ _ _) (Value.str _ _) (Value.ref _)) _ _ _); walk_at "mine slice"; intro _ _ _ _ _))
local macro_rules | `(tactic| walk_at "callWith ref") => `(tactic| (k_here; (with_reducible show wpAny _ _ (callWith _ (Value.ref _) _ (backTo _ (starEach [Expr.Starred _ _] _)) []) _ _ _); k_dflt (refine' callWith_SI ?k1 ?k2 ?k3 ?k4 ?_; (case k1 => k_in); (case k2 => k_inst); (case k3 => rfl); (case k4 => k_is); k_whole)))
local macro_rules | `(tactic| walk_at "call ref") => `(tactic| (k_here; (refine' Tells1.useI (f := 255) ?k1 ?k2 ?k3 ?k4 ?k5 ?k6 (lcsstr_c ⟨rfl, rfl⟩ (by assumption) (by assumption) (by assumption) (by assumption) _) ?tB ?tF ?tX ?tN ?tT ?tf ?tk ?td ?tu ?tI ?_; (case k2 => k_inst); (case k1 => k_in); (case k3 => rfl); (case k4 => k_is); (case k5 => k_is); (case k6 => k_is); walk_at "mine tell"; (case tI => refine inst_news (by k_asm) (by k_mem) (by k_mem))); intro v' h' tk' F' N' st' e'; obtain ⟨t', e'⟩ := e'; subst e'))
local macro_rules | `(tactic| walk_at "call builtin:len") => `(tactic| (k_here; (with_reducible show wpAny _ _ (call (Value.builtin "len") [Value.str (Mine.st _) _]) _ _ _); (refine len_stN (by assumption) ?_); intro tk' t'))
local macro_rules | `(tactic| walk_at "exec Assign cons ListComp") => `(tactic| (k_here; k_dflt (refine Assign_ListComp_T (F₀ := by k_asm) (by rfl) (by with_unfolding_all rfl) (by with_unfolding_all rfl) (by decide) (by rfl) (by decide) (by rfl) (by rfl) (by rfl) ?_)))
local macro_rules | `(tactic| walk_at "mine src") => `(tactic| (refine ⟨_, _, _, rfl, rfl, by k_asm, by k_asm, by assumption, by simp only [List.size_toArray, sizeLine]; omega, ?_⟩))local macro_rules | `(tactic| walk_at "call ref") => `(tactic| (k_here; (refine' Tells1.useM (f := .ref 286) ?tq ?tH ?tB ?tF ?tX ?tN ?tT ?tf ?tk ?td ?tu ?tI ?_; (case tH => assumption); walk_at "mine tell"; (case tq => k_mem); (case tI => exact IsInst.up (by assumption) (Fr.keep (by k_asm)))); intro v' h' tk' F' N' st' e'; obtain ⟨t', e'⟩ := e'; subst e'))
theorem lettersOf_succ (f : Nat) (ts : List Tx) : lettersOf (f + 1) ts = if lcsOf ts = [] then 0 else lettersOf f (ts.map (bef (lcsOf ts))) + (lcsOf ts).length + lettersOf f (ts.map (aft (lcsOf ts))) := rfl
theorem map_tx_bef (P : Tx) (ts : List Str) : (ts.map fun y => Mine.st (bef P (tx y))).map tx = (ts.map tx).map (bef P) := by
  rw [List.map_map, List.map_map]; rfl
theorem map_tx_aft (P : Tx) (ts : List Str) : (ts.map fun y => Mine.st (aft P (tx y))).map tx = (ts.map tx).map (aft P) := by
  rw [List.map_map, List.map_map]; rfl

theorem find_c {prog : Program} {w : World} (fill : PySem.Challenge.rw_ah5039_01 = PySem.Challenge.rw_ah5039_01 ∧ hd.heap_39 = hd.heap_39) (x : Addr) (f : Nat)
    (ih : ∀ {vs : List Value} {ts : List Str}, StrsAre vs ts → 2 ≤ ts.length → ts.length ≤ 4 → (∀ t ∈ ts, t.length ≤ 20) → (ts.headD Str.empty).length < f →
      Tells1 prog w (hd.heap_39 w.params) (f + 10) (20 * f + 200) (.ref 286) (.ref x :: vs) (fun h => IsInst w.params h x 296) (fun v _ _ => ∃ t, v = .int (lettersOf f (ts.map tx) : Nat) t))
    {vs : List Value} {ts : List Str} (hi : StrsAre vs ts) (hb1 : 2 ≤ ts.length) (hb2 : ts.length ≤ 4) (hb20 : ∀ t ∈ ts, t.length ≤ 20) (hf : (ts.headD Str.empty).length < f + 1) :
    Tells1 prog w (hd.heap_39 w.params) (f + 11) (20 * (f + 1) + 200) (.ref 286) (.ref x :: vs) (fun h => IsInst w.params h x 296) (fun v _ _ => ∃ t, v = .int (lettersOf (f + 1) (ts.map tx) : Nat) t) := by
  revert fill
  k_fill
  intro _
  intro p loose mean mg mb dp un gd outer A₀ base s Q B X T hdp hu hI ret
  have hl : vs.length ≤ 1000 := by rw [strs_len hi]; omega
  have hb3 : ∀ t ∈ ts, t.length ≤ 1000 := fun t ht => by have := hb20 t ht; omega
  have hinf : ∀ i, i < ts.length → lcsOf (ts.map tx) <:+: tx (ts.getD i Str.empty) := fun i hlt => lcsOf_infix _ _ (List.mem_map_of_mem (getD_mem hlt))
  have hlen : (lcsOf (ts.map tx)).length ≤ 1000 := by
    have h1 := (hinf 0 (by omega)).length_le
    rw [tx_len] at h1
    have h2 := getD_le hb20 0
    omega
  have hget : ∀ i, (ts.getD i Str.empty).length ≤ 20 := fun i => getD_le hb20 i
  have hne : ts ≠ [] := by rintro rfl; simp at hb1
  k_dflt (refine' enterVC (vs := vs) (g₁ := fun D => some [("self", .ref x), ("sequences", .ref D)]) (binds := fun D => [("self", .ref x), ("sequences", .ref D)]) ?k3 ?k5 ?k6 ?k7 ?k8 ?k9 ?kG ?kK ?kN ?_ ?c2 ?c3 ?c4; walk_at "mine enterVC")
  case k9 => refine upto4 (P := fun us => peek1 _ _ (bindArgs _ { pos := .ref x :: us }) = some (restObj us, _)) ?_ ?_ ?_ ?_ ?_ vs (by rw [strs_len hi]; exact hb2) <;> (intros; rfl)
  intro D g L h₁ tk cells st hD ht F N Y
  k_cells Y
  try simp only [List.cons_append, List.nil_append] at N
  replace B := below_up B st
  replace X := X.keeps st
  replace T := T.keeps st
  replace hI := hI.up st
  obtain ⟨d, u1, u2, i1, i2⟩ := id hI
  dsimp only
  try k_fold
  walk_at "mine go"
  rotate_left
  · have hpos : 0 < (lcsOf (ts.map tx)).length := by omega
    walk_at "mine src"
    rintro s2 ⟨g', rfl⟩
    refine rest_inv (fun i v => ∃ t, v = .str ((ts.map fun y => Mine.st (bef (lcsOf (ts.map tx)) (tx y))).getD i Str.empty) t) trivial ?turn ?fin
    case turn =>
      intro i ys v I oI C oC D m₂ h tk E' hin hP hC hx F N off ne
      try dsimp only at hP
      obtain ⟨t, rfl⟩ := SetStr.strs_at hi i v (by simpa using hP)
      have hxl : (ts.getD i Str.empty).length ≤ 20 := hget i
      walk_at "mine go"
      have hin' : i < ts.length := by rw [← strs_len hi]; simpa using hin
      exact TurnEnd.intro (by assumption) (by assumption) sub_refl ⟨_, by rw [bef_slice (hinf i hin'), getD_map' _ hin']⟩
    case fin =>
      intro ys hyl hys
      have hyl' : ys.length = ts.length := by rw [← strs_len hi]; simpa using hyl
      have hbs : StrsAre ys (ts.map fun y => Mine.st (bef (lcsOf (ts.map tx)) (tx y))) := strs_of (by simpa using hyl') hys
      have hyb : ys.length ≤ 1000 := by omega
      have hbb : ∀ t ∈ ts.map (fun y => Mine.st (bef (lcsOf (ts.map tx)) (tx y))), t.length ≤ 20 := by
        intro t ht9
        obtain ⟨y, hy, rfl⟩ := List.mem_map.mp ht9
        have h1 := bef_le (lcsOf_infix (ts.map tx) (tx y) (List.mem_map_of_mem hy))
        have h2 := hb20 y hy
        rw [st_len]; rw [tx_len] at h1; omega
      have hbh : ((ts.map fun y => Mine.st (bef (lcsOf (ts.map tx)) (tx y))).headD Str.empty).length < f := by
        cases ts with
        | nil => simp at hb1
        | cons t0 r0 =>
          have h1 := bef_le (lcsOf_infix ((t0 :: r0).map tx) (tx t0) (by simp))
          rw [tx_len] at h1
          simp only [List.headD_cons, List.map_cons] at hf ⊢
          rw [st_len]
          simp only [List.map_cons] at h1
          simp only [List.map_cons] at hpos
          omega
      have tB := ih hbs (by simpa using hb1) (by simpa using hb2) hbb hbh
      walk_at "mine go"
      walk_at "mine src"
      rintro s2 ⟨g', rfl⟩
      refine rest_inv (fun i v => ∃ t, v = .str ((ts.map fun y => Mine.st (aft (lcsOf (ts.map tx)) (tx y))).getD i Str.empty) t) trivial ?turn2 ?fin2
      case turn2 =>
        intro i ys v I oI C oC D m₂ h tk E' hin hP hC hx F N off ne
        try dsimp only at hP
        obtain ⟨t, rfl⟩ := SetStr.strs_at hi i v (by simpa using hP)
        have hxl : (ts.getD i Str.empty).length ≤ 20 := hget i
        walk_at "mine go"
        have hin' : i < ts.length := by rw [← strs_len hi]; simpa using hin
        exact TurnEnd.intro (by assumption) (by assumption) sub_refl ⟨_, by rw [aft_slice (hinf i hin'), getD_map' _ hin']⟩
      case fin2 =>
        intro zs hzl hzs
        have hzl' : zs.length = ts.length := by rw [← strs_len hi]; simpa using hzl
        have hcs : StrsAre zs (ts.map fun y => Mine.st (aft (lcsOf (ts.map tx)) (tx y))) := strs_of (by simpa using hzl') hzs
        have hzb : zs.length ≤ 1000 := by omega
        have hcb : ∀ t ∈ ts.map (fun y => Mine.st (aft (lcsOf (ts.map tx)) (tx y))), t.length ≤ 20 := by
          intro t ht9
          obtain ⟨y, hy, rfl⟩ := List.mem_map.mp ht9
          have h1 := aft_le (lcsOf_infix (ts.map tx) (tx y) (List.mem_map_of_mem hy))
          have h2 := hb20 y hy
          rw [st_len]; rw [tx_len] at h1; omega
        have hch : ((ts.map fun y => Mine.st (aft (lcsOf (ts.map tx)) (tx y))).headD Str.empty).length < f := by
          cases ts with
          | nil => simp at hb1
          | cons t0 r0 =>
            have h1 := aft_le (lcsOf_infix ((t0 :: r0).map tx) (tx t0) (by simp))
            rw [tx_len] at h1
            simp only [List.headD_cons, List.map_cons] at hf ⊢
            rw [st_len]
            simp only [List.map_cons] at h1
            simp only [List.map_cons] at hpos
            omega
        have tC := ih hcs (by simpa using hb1) (by simpa using hb2) hcb hch
        walk_at "mine go"
        refine ret _ _ _ (fun b o e => by rename Fr _ _ _ _ => F2; exact F2.keep b o (st b o e)) ?_
        dsimp only
        rw [lettersOf_succ, if_neg (by intro e9; rw [e9] at hpos; simp at hpos), map_tx_bef, map_tx_aft]
        push_cast
        exact ⟨_, rfl⟩
  · refine ret _ _ _ (fun b o e => by rename Fr _ _ _ _ => F2; exact F2.keep b o (st b o e)) ?_
    dsimp only
    rw [lettersOf_succ, if_pos (List.eq_nil_of_length_eq_zero (by omega))]
    exact ⟨_, rfl⟩

theorem find_all {prog : Program} {w : World} (x : Addr) : ∀ (f : Nat) {vs : List Value} {ts : List Str}, StrsAre vs ts → 2 ≤ ts.length → ts.length ≤ 4 → (∀ t ∈ ts, t.length ≤ 20) → (ts.headD Str.empty).length < f →
    Tells1 prog w (hd.heap_39 w.params) (f + 10) (20 * f + 200) (.ref 286) (.ref x :: vs) (fun h => IsInst w.params h x 296) (fun v _ _ => ∃ t, v = .int (lettersOf f (ts.map tx) : Nat) t)
  | 0, _, _, _, _, _, _, h => absurd h (Nat.not_lt_zero _)
  | f + 1, _, _, hi, h1, h2, h3, h4 => find_c ⟨rfl, rfl⟩ x f (fun a b c d e => find_all x f a b c d e) hi h1 h2 h3 h4

end Mine

end

section
open PySem PySem.W PySem.Calls PyProof.Rows
set_option Elab.async false
set_option maxRecDepth 100000
set_option maxHeartbeats 8000000
namespace Mine
local macro_rules | `(tactic| walk_at "mine enter") => `(tactic| (refine' enter ?k3 ?k5 ?k6 ?k7 ?k8 ?k9 ?kB ?_ ?c2 ?c3 ?c4 ?c5; (case k3 => k_asm); (case k5 => k_asm); (case k6 => k_is); (case k7 => k_is); (case k8 => ktr_room); (case k9 => exact BindsTo.of_eq rfl); (case c5 => decide); (case kB => exact locs rfl); (case c2 => exact rfl); (case c3 => exact rfl); (case c4 => exact rfl); k_whole; intro L' h' F' N'; (try dsimp only); (try k_fold)))
local macro_rules | `(tactic| walk_at "mine enterV") => `(tactic| ((case k3 => k_asm); (case k5 => k_asm); (case k6 => k_is); (case k7 => k_is); (case k8 => ktr_room); (case c5 => decide); (case kB => exact fun _ => locs rfl); (case c2 => exact rfl); (case c3 => exact rfl); (case c4 => exact rfl); (case kG => exact fun _ => rfl)))
local macro_rules | `(tactic| walk_at "mine go") => `(tactic| repeat' ((fail_if_success (with_reducible show wpAny _ _ (pyIter _) _ _ _)); (fail_if_success (with_reducible show wpAny _ _ (exec (Stmt.While _ _ _ _) _) _ _ _)); (first | (k_unfold; (try dsimp only)) | (k_end; wrow_close) | walk1 | (dsimp only; walk1) | (leave1; walk_say "STEP leave1"; try dsimp only) | fail "no step")))
local macro_rules | `(tactic| walk_at "mine tup") => `(tactic| first | (rename Fr _ _ _ _ => F9; exact F9.tup (by assumption)) | exact News.isTup (by k_asm) (by k_mem))
local macro_rules | `(tactic| walk_at "mine lst") => `(tactic| first | exact News.isList (by k_asm) (by k_mem) | (rename Fr _ _ _ _ => F9; exact F9.lst (by assumption)))
local macro_rules | `(tactic| walk_at "truthy ref") => `(tactic| (k_here; (refine tup_truthy (by walk_at "mine tup") (by assumption) (by omega) ?_ ?_ <;> intro he')))
local macro_rules | `(tactic| walk_at "call builtin:len") => `(tactic| (k_here; (first | refine tup_len (by walk_at "mine tup") (by assumption) (by omega) ?_ | refine lst_len (by walk_at "mine lst") (by assumption) (by omega) ?_)))
local macro_rules | `(tactic| walk_at "StarOf ref") => `(tactic| (k_here; (first | refine tup_star (by k_asm) (by k_asm) (by walk_at "mine tup") (by assumption) ?_ | refine lst_star (by k_asm) (by k_asm) (by walk_at "mine lst") (by assumption) ?_); intro h' F' N'; (try dsimp only [List.nil_append, List.cons_append])))
local macro_rules | `(tactic| walk_at "call builtin:all") => `(tactic| (k_here; (refine tup_all (by rfl) (by k_asm) (by k_asm) (by walk_at "mine tup") (by assumption) (by assumption) ?_); intro h' tk' F' N'))
local macro_rules | `(tactic| walk_at "call type:list") => `(tactic| (k_here; (refine list_copyKT (by k_asm) (by k_asm) (by walk_at "mine tup") ?_ (by simp only [List.size_toArray, sizeLine]; omega)); intro D' c' h' F' N' l1'))
local macro_rules | `(tactic| k_room) => `(tactic| ktr_room)
local macro_rules | `(tactic| k_inst) => `(tactic| first | (refine' inst_up ?iF ?i1 ?i2; (case iF => k_asm); (case i1 => assumption); (case i2 => assumption)) | fail "no object")
local macro_rules | `(tactic| walk_at "eval Call Attribute") => `(tactic| (k_here; (with_reducible show wpAny _ _ (eval (Expr.Call (Expr.Attribute _ _ _) [Expr.Starred _ _] [] _) _) _ _ _); refine methodCall_S ?_))
local macro_rules | `(tactic| walk_at "callWith ref") => `(tactic| (k_here; (with_reducible show wpAny _ _ (callWith _ (Value.ref _) _ (backTo _ (starEach [Expr.Starred _ _] _)) []) _ _ _); k_dflt (refine' callWith_SM ?kX ?k0 ?k1 ?k2 ?_; (case kX => k_asm); (case k0 => k_asm); (case k1 => k_mem); (case k2 => k_is); k_whole)))
local macro_rules | `(tactic| walk_at "getAttr ref") => `(tactic| (k_here; k_dflt (refine' get_sm ?k1 ?k2 ?k4 ?k5 ?k6 ?k7 ?k8 ?k9 ?k10 ?k11 ?k12 ?k13 ?_; (case k4 => k_inst); (case k1 => k_asm); (case k2 => k_asm); (case k7 => k_is); (case k5 => k_is); (case k6 => k_is); (case k8 => k_is); (case k9 => k_is); (case k10 => k_is); (case k11 => k_handed); (case k12 => decide +kernel); (case k13 => k_get); k_whole)))
local macro_rules | `(tactic| walk_at "mine tell") => `(tactic| ((case tB => k_asm); (case tF => k_asm); (case tX => k_asm); (case tN => k_asm); (case tT => k_asm); (case tf => rfl); (case tk => rfl); (case td => first | ktr_room | (dsimp only; omega) | (simp only [depth_deeper]; omega)); (case tu => first | omega | (dsimp only; omega) | k_units)))
local macro_rules | `(tactic| walk_at "mine enterVC") => `(tactic| ((case k3 => k_asm); (case k5 => k_asm); (case k6 => k_is); (case k7 => k_is); (case k8 => ktr_room); (case kK => exact fun _ => rfl); (case kN => decide +kernel); (case c2 => exact rfl); (case c3 => exact rfl); (case c4 => exact rfl); (case kG => exact fun _ => rfl)))
local macro_rules | `(tactic| walk_at "call type:map") => `(tactic| (k_here; (first | refine mapTup_N (prog := _) (w := _) (by k_asm) (by k_asm) (by walk_at "mine tup") (by assumption) (by assumption) ?_ | refine mapLst_N (by k_asm) (by k_asm) (by walk_at "mine lst") (by assumption) (by assumption) ?_); intro M' h' F' N' mo'))
local macro_rules | `(tactic| walk_at "call builtin:sum") => `(tactic| (k_here; refine sumMap_N (by rfl) (by assumption) (by k_asm) (by k_asm) ?_; intro h' tk' t' F' N'))
local macro_rules | `(tactic| walk_at "call builtin:max") => `(tactic| (k_here; refine maxMap_N (by rfl) (by assumption) (by k_asm) (by k_asm) (by assumption) ?_; intro h' tk' t' k' hk' F' N'))
local macro_rules | `(tactic| walk_at "mine slice") => `(tactic| ((with_reducible rename Fr _ _ _ _ => F'); (with_reducible rename News _ _ _ _ => N'); first
  | ((with_reducible show wpAny _ _ (subscriptTail _ (Expr.Slice none (some _) none _) _ _) _ _ _); (refine slice_strN_ns (hsz := ?hsz) (s := ⟨_, _, _, _, _⟩) F' N' ?_); (case hsz => (unfold sizeLine; omega)))
  | ((with_reducible show wpAny _ _ (subscriptTail _ (Expr.Slice (some _) none none _) _ _) _ _ _); (refine slice_strN_sn (hsz := ?hsz) (s := ⟨_, _, _, _, _⟩) F' N' ?_); (case hsz => (unfold sizeLine; omega)))
  | ((with_reducible show wpAny _ _ (subscriptTail _ (Expr.Slice (some _) (some _) none _) _ _) _ _ _); (refine slice_strN_ss (hsz := ?hsz) (s := ⟨_, _, _, _, _⟩) F' N' ?_); (case hsz => (unfold sizeLine; omega)))))
local macro_rules | `(tactic| walk_at "subscriptTail") => `(tactic| (k_here; (with_reducible show wpAny _ _ (subscriptTail _ (Expr.Slice _ _ _ _) (Value.str _ _) (Value.ref _)) _ _ _); walk_at "mine slice"; intro _ _ _ _ _))
local macro_rules | `(tactic| walk_at "call ref") => `(tactic| (k_here; (refine' Tells1.useM (f := .ref 108) ?tq (getseq_c ⟨rfl, rfl⟩ (by assumption) (by assumption) _ _ ?tC) ?tB ?tF ?tX ?tN ?tT ?tf ?tk ?td ?tu ?tI ?_; walk_at "mine tell"; (case tq => k_mem); (case tI => exact IsInst.up (by assumption) (Fr.keep (by k_asm))); (case tC => first | exact Or.inl rfl | exact Or.inr rfl)); intro v' h' tk' F' N' st' e'; obtain ⟨a', c', e', n', g'⟩ := e'; subst e'; (have N' := got_news (by k_asm) N' n' g'); clear n' g'))
local macro_rules | `(tactic| walk_at "call ref") => `(tactic| (k_here; (refine' Tells1.useM (f := .ref 178) ?tq (quick_c ⟨rfl, rfl⟩ (by assumption) (by assumption) (by assumption) _) ?tB ?tF ?tX ?tN ?tT ?tf ?tk ?td ?tu ?tI ?_; walk_at "mine tell"; (case tq => k_mem); (case tI => exact IsInst.up (by assumption) (Fr.keep (by k_asm)))); intro v' h' tk' F' N' st' e'; (first | (rw [if_pos (by assumption)] at e'; obtain ⟨t', e'⟩ := e'; subst e') | (rw [if_neg (by assumption), if_pos (by assumption)] at e'; obtain ⟨t', e'⟩ := e'; subst e') | (rw [if_neg (by assumption), if_neg (by assumption)] at e'; subst e'))))
local macro_rules | `(tactic| walk_at "call ref") => `(tactic| (k_here; (refine' Tells1.useM (f := .ref 286) ?tq (find_all _ 21 (by assumption) ?tA (by assumption) (by assumption) (by assumption)) ?tB ?tF ?tX ?tN ?tT ?tf ?tk ?td ?tu ?tI ?_; walk_at "mine tell"; (case tA => omega); (case tq => k_mem); (case tI => exact IsInst.up (by assumption) (Fr.keep (by k_asm)))); intro v' h' tk' F' N' st' e'; obtain ⟨t', e'⟩ := e'; subst e'))
/-- what Ratcliff and Obershelp's judge tells of texts that differ, none of them empty -/
def ratio (ts : List Str) : UInt64 := Float64.ofFrac false (ts.length * lettersOf 21 (ts.map tx)) (ts.map (·.length)).sum
theorem sum_le {ts : List Str} {k : Nat} (h : ∀ t ∈ ts, t.length ≤ k) : (ts.map (·.length)).sum ≤ k * ts.length := by
  induction ts with
  | nil => simp
  | cons t r ih =>
    have h1 := h t (by simp)
    have h2 := ih fun t ht => h t (.tail _ ht)
    simp only [List.map_cons, List.sum_cons, List.length_cons, Nat.mul_add]
    omega
theorem sum_pos {ts : List Str} (hne : ts ≠ []) (h : ¬ ∃ t ∈ ts, t.length = 0) : 0 < (ts.map (·.length)).sum := by
  cases ts with
  | nil => exact absurd rfl hne
  | cons t r =>
    have : t.length ≠ 0 := fun e => h ⟨t, by simp, e⟩
    simp only [List.map_cons, List.sum_cons]; omega
theorem frac_form (n l q : Nat) : Float64.ofFrac (decide ((n : Int) * (l : Int) < 0) != decide ((q : Int) < 0)) ((n : Int) * (l : Int)).natAbs (q : Int).natAbs = Float64.ofFrac false (n * l) q := by
  have e1 : decide ((n : Int) * (l : Int) < 0) = false := decide_eq_false (by have := Int.mul_nonneg (Int.natCast_nonneg n) (Int.natCast_nonneg l); omega)
  have e2 : decide ((q : Int) < 0) = false := decide_eq_false (by omega)
  rw [e1, e2, Int.natAbs_mul, Int.natAbs_natCast, Int.natAbs_natCast, Int.natAbs_natCast]; rfl
theorem ratio_fin {ts : List Str} (h1 : 2 ≤ ts.length) (h4 : ts.length ≤ 4) (h5 : ∀ t ∈ ts, t.length ≤ 5) (h0 : ¬ ∃ t ∈ ts, t.length = 0) : Float64.isInf (ratio ts) = false := by
  have a1 := sum_le h5
  have a2 := sum_pos (by rintro rfl; simp at h1) h0
  have a3 : lettersOf 21 (ts.map tx) ≤ 5 := by
    have b1 := lettersOf_le 21 (ts.map tx) (tx (ts.getD 0 Str.empty)) (List.mem_map_of_mem (getD_mem (by omega)))
    have b2 := h5 _ (getD_mem (show 0 < ts.length by omega))
    rw [tx_len] at b1; omega
  have a4 : ts.length * lettersOf 21 (ts.map tx) ≤ 4 * 5 := Nat.mul_le_mul h4 a3
  have a5 : (ts.map (·.length)).sum ≤ 20 := by omega
  unfold ratio
  generalize ts.length * lettersOf 21 (ts.map tx) = p at *
  generalize (ts.map (·.length)).sum = q at *
  obtain ⟨r, rfl⟩ : ∃ r, q = r + 1 := ⟨q - 1, by omega⟩
  exact noInf p (by omega) r (by omega)

theorem ro_c {prog : Program} {w : World} (fill : PySem.Challenge.rw_ah5039_01 = PySem.Challenge.rw_ah5039_01 ∧ hd.heap_39 = hd.heap_39) (x : Addr) {vs : List Value} {ts : List Str} (hi : StrsAre vs ts) (hb2 : ts.length ≤ 4) (hb5 : ∀ t ∈ ts, t.length ≤ 5) :
    Tells1 prog w (hd.heap_39 w.params) 35 660 (.ref 293) (.ref x :: vs) (fun h => IsInst w.params h x 296) (fun v _ _ => if ts.length ≤ 1 ∨ (ts.all (· == ts.headD Str.empty)) = true then ∃ t, v = .int 1 t else if ∃ t ∈ ts, t.length = 0 then ∃ t, v = .int 0 t else ∃ t, v = .float (ratio ts) t) := by
  revert fill
  k_fill
  intro _
  intro p loose mean mg mb dp un gd outer A₀ base s Q B X T hdp hu hI ret
  have hl : vs.length ≤ 1000 := by rw [strs_len hi]; omega
  have hb20 : ∀ t ∈ ts, t.length ≤ 20 := fun t ht => by have := hb5 t ht; omega
  have hb3 : ∀ t ∈ ts, t.length ≤ 1000 := fun t ht => by have := hb20 t ht; omega
  have hh : (ts.headD Str.empty).length < 21 := by
    cases ts with
    | nil => simp [Str.empty, Str.length]
    | cons t r => have := hb20 t (by simp); simp; omega
  k_dflt (refine' enterV (vs := vs) (g₁ := fun D => some [("self", .ref x), ("sequences", .ref D)]) (binds := fun D => [("self", .ref x), ("sequences", .ref D)]) ?k3 ?k5 ?k6 ?k7 ?k8 ?k9 ?kG ?kB ?_ ?c2 ?c3 ?c4 ?c5; walk_at "mine enterV")
  case k9 => refine upto4 (P := fun us => peek1 _ _ (bindArgs _ { pos := .ref x :: us }) = some (restObj us, _)) ?_ ?_ ?_ ?_ ?_ vs (by rw [strs_len hi]; exact hb2) <;> (intros; rfl)
  intro D g L h₁ st hD ht F N
  replace B := below_up B st
  replace X := X.keeps st
  replace T := T.keeps st
  replace hI := hI.up st
  obtain ⟨d, u1, u2, i1, i2⟩ := id hI
  dsimp only
  try k_fold
  by_cases hq1 : ts.length ≤ 1 ∨ (ts.all (· == ts.headD Str.empty)) = true
  · walk_at "mine go"
    refine ret _ _ _ (fun b o e => by rename Fr _ _ _ _ => F2; exact F2.keep b o (st b o e)) ?_
    dsimp only
    rw [if_pos hq1]; exact ⟨_, rfl⟩
  · by_cases hq2 : ∃ t ∈ ts, t.length = 0
    · walk_at "mine go"
      refine ret _ _ _ (fun b o e => by rename Fr _ _ _ _ => F2; exact F2.keep b o (st b o e)) ?_
      dsimp only
      rw [if_neg hq1, if_pos hq2]; exact ⟨_, rfl⟩
    · have hb1 : 2 ≤ ts.length := by omega
      have hfin := ratio_fin hb1 hb2 hb5 hq2
      have hpos := sum_pos (by rintro rfl; simp at hb1) hq2
      walk_at "mine go"
      · rename _ = true => e9
        rw [frac_form] at e9
        unfold ratio at hfin
        rw [hfin] at e9; cases e9
      · refine ret _ _ _ (fun b o e => by rename Fr _ _ _ _ => F2; exact F2.keep b o (st b o e)) ?_
        dsimp only
        rw [if_neg hq1, if_neg hq2, frac_form]; exact ⟨_, rfl⟩

end Mine

end

section
local macro_rules | `(tactic| walk_at "mine pad C8 0") => `(tactic| skip)
local macro_rules | `(tactic| walk_at "mine pad C8 1") => `(tactic| skip)
local macro_rules | `(tactic| walk_at "mine pad C8 2") => `(tactic| skip)
local macro_rules | `(tactic| walk_at "mine pad C8 3") => `(tactic| skip)
local macro_rules | `(tactic| walk_at "mine pad C8 4") => `(tactic| skip)
local macro_rules | `(tactic| walk_at "mine pad C8 5") => `(tactic| skip)
local macro_rules | `(tactic| walk_at "mine pad C8 6") => `(tactic| skip)
local macro_rules | `(tactic| walk_at "mine pad C8 7") => `(tactic| skip)
local macro_rules | `(tactic| walk_at "mine pad C8 8") => `(tactic| skip)
local macro_rules | `(tactic| walk_at "mine pad C8 9") => `(tactic| skip)
local macro_rules | `(tactic| walk_at "mine pad C8 10") => `(tactic| skip)
local macro_rules | `(tactic| walk_at "mine pad C8 11") => `(tactic| skip)
local macro_rules | `(tactic| walk_at "mine pad C8 12") => `(tactic| skip)
local macro_rules | `(tactic| walk_at "mine pad C8 13") => `(tactic| skip)
local macro_rules | `(tactic| walk_at "mine pad C8 14") => `(tactic| skip)
open PySem PySem.W PySem.Calls PyProof.Rows
set_option Elab.async false
set_option maxRecDepth 100000
set_option maxHeartbeats 8000000
namespace Mine
local macro_rules | `(tactic| walk_at "mine enter") => `(tactic| (refine' enter ?k3 ?k5 ?k6 ?k7 ?k8 ?k9 ?kB ?_ ?c2 ?c3 ?c4 ?c5; (case k3 => k_asm); (case k5 => k_asm); (case k6 => k_is); (case k7 => k_is); (case k8 => ktr_room); (case k9 => exact BindsTo.of_eq rfl); (case c5 => decide); (case kB => exact locs rfl); (case c2 => exact rfl); (case c3 => exact rfl); (case c4 => exact rfl); k_whole; intro L' h' F' N'; (try dsimp only); (try k_fold)))
local macro_rules | `(tactic| walk_at "mine enterV") => `(tactic| ((case k3 => k_asm); (case k5 => k_asm); (case k6 => k_is); (case k7 => k_is); (case k8 => ktr_room); (case c5 => decide); (case kB => exact fun _ => locs rfl); (case c2 => exact rfl); (case c3 => exact rfl); (case c4 => exact rfl); (case kG => exact fun _ => rfl)))
local macro_rules | `(tactic| walk_at "mine go") => `(tactic| repeat' ((fail_if_success (with_reducible show wpAny _ _ (pyIter _) _ _ _)); (fail_if_success (with_reducible show wpAny _ _ (exec (Stmt.While _ _ _ _) _) _ _ _)); (first | (k_unfold; (try dsimp only)) | (k_end; wrow_close) | walk1 | (dsimp only; walk1) | (leave1; walk_say "STEP leave1"; try dsimp only) | fail "no step")))
local macro_rules | `(tactic| walk_at "mine tup") => `(tactic| first | (rename Fr _ _ _ _ => F9; exact F9.tup (by assumption)) | exact News.isTup (by k_asm) (by k_mem))
local macro_rules | `(tactic| walk_at "mine lst") => `(tactic| first | exact News.isList (by k_asm) (by k_mem) | (rename Fr _ _ _ _ => F9; exact F9.lst (by assumption)))
local macro_rules | `(tactic| walk_at "truthy ref") => `(tactic| (k_here; (refine tup_truthy (by walk_at "mine tup") (by assumption) (by omega) ?_ ?_ <;> intro he')))
local macro_rules | `(tactic| walk_at "call builtin:len") => `(tactic| (k_here; (first | refine tup_len (by walk_at "mine tup") (by assumption) (by omega) ?_ | refine lst_len (by walk_at "mine lst") (by assumption) (by omega) ?_)))
local macro_rules | `(tactic| walk_at "StarOf ref") => `(tactic| (k_here; (first | refine tup_star (by k_asm) (by k_asm) (by walk_at "mine tup") (by assumption) ?_ | refine lst_star (by k_asm) (by k_asm) (by walk_at "mine lst") (by assumption) ?_); intro h' F' N'; (try dsimp only [List.nil_append, List.cons_append])))
local macro_rules | `(tactic| walk_at "call builtin:all") => `(tactic| (k_here; (refine tup_all (by rfl) (by k_asm) (by k_asm) (by walk_at "mine tup") (by assumption) (by assumption) ?_); intro h' tk' F' N'))
local macro_rules | `(tactic| walk_at "call type:list") => `(tactic| (k_here; (refine list_copyKT (by k_asm) (by k_asm) (by walk_at "mine tup") ?_ (by simp only [List.size_toArray, sizeLine]; omega)); intro D' c' h' F' N' l1'))
local macro_rules | `(tactic| k_room) => `(tactic| ktr_room)
local macro_rules | `(tactic| k_inst) => `(tactic| first | (refine' inst_up ?iF ?i1 ?i2; (case iF => k_asm); (case i1 => assumption); (case i2 => assumption)) | fail "no object")
local macro_rules | `(tactic| walk_at "eval Call Attribute") => `(tactic| (k_here; (with_reducible show wpAny _ _ (eval (Expr.Call (Expr.Attribute _ _ _) [Expr.Starred _ _] [] _) _) _ _ _); refine methodCall_S ?_))
local macro_rules | `(tactic| walk_at "callWith ref") => `(tactic| (k_here; (with_reducible show wpAny _ _ (callWith _ (Value.ref _) _ (backTo _ (starEach [Expr.Starred _ _] _)) []) _ _ _); k_dflt (refine' callWith_SM ?kX ?k0 ?k1 ?k2 ?_; (case kX => k_asm); (case k0 => k_asm); (case k1 => k_mem); (case k2 => k_is); k_whole)))
local macro_rules | `(tactic| walk_at "getAttr ref") => `(tactic| (k_here; k_dflt (refine' get_sm ?k1 ?k2 ?k4 ?k5 ?k6 ?k7 ?k8 ?k9 ?k10 ?k11 ?k12 ?k13 ?_; (case k4 => k_inst); (case k1 => k_asm); (case k2 => k_asm); (case k7 => k_is); (case k5 => k_is); (case k6 => k_is); (case k8 => k_is); (case k9 => k_is); (case k10 => k_is); (case k11 => k_handed); (case k12 => decide +kernel); (case k13 => k_get); k_whole)))
local macro_rules | `(tactic| walk_at "mine tell") => `(tactic| ((case tB => k_asm); (case tF => k_asm); (case tX => k_asm); (case tN => k_asm); (case tT => k_asm); (case tf => rfl); (case tk => rfl); (case td => first | ktr_room | (dsimp only; omega) | (simp only [depth_deeper]; omega)); (case tu => first | omega | (dsimp only; omega) | k_units)))
local macro_rules | `(tactic| walk_at "mine enterVC") => `(tactic| ((case k3 => k_asm); (case k5 => k_asm); (case k6 => k_is); (case k7 => k_is); (case k8 => ktr_room); (case kK => exact fun _ => rfl); (case kN => decide +kernel); (case c2 => exact rfl); (case c3 => exact rfl); (case c4 => exact rfl); (case kG => exact fun _ => rfl)))
local macro_rules | `(tactic| walk_at "call type:map") => `(tactic| (k_here; (first | refine mapTup_N (prog := _) (w := _) (by k_asm) (by k_asm) (by walk_at "mine tup") (by assumption) (by assumption) ?_ | refine mapLst_N (by k_asm) (by k_asm) (by walk_at "mine lst") (by assumption) (by assumption) ?_); intro M' h' F' N' mo'))
local macro_rules | `(tactic| walk_at "call builtin:sum") => `(tactic| (k_here; refine sumMap_N (by rfl) (by assumption) (by k_asm) (by k_asm) ?_; intro h' tk' t' F' N'))
local macro_rules | `(tactic| walk_at "call builtin:max") => `(tactic| (k_here; refine maxMap_N (by rfl) (by assumption) (by k_asm) (by k_asm) (by assumption) ?_; intro h' tk' t' k' hk' F' N'))
local macro_rules | `(tactic| walk_at "mine slice") => `(tactic| ((with_reducible rename Fr _ _ _ _ => F'); (with_reducible rename News _ _ _ _ => N'); first
  | ((with_reducible show wpAny _ _ (subscriptTail _ (Expr.Slice none (some _) none _) _ _) _ _ _); (refine slice_strN_ns (hsz := ?hsz) (s := ⟨_, _, _, _, _⟩) F' N' ?_); (case hsz => (unfold sizeLine; omega)))
  | ((with_reducible show wpAny _ _ (subscriptTail _ (Expr.Slice (some _) none none _) _ _) _ _ _); (refine slice_strN_sn (hsz := ?hsz) (s := ⟨_, _, _, _, _⟩) F' N' ?_); (case hsz => (unfold sizeLine; omega)))
  | ((with_reducible show wpAny _ _ (subscriptTail _ (Expr.Slice (some _) (some _) none _) _ _) _ _ _); (refine slice_strN_ss (hsz := ?hsz) (s := ⟨_, _, _, _, _⟩) F' N' ?_); (case hsz => (unfold sizeLine; omega)))))
local macro_rules | `(tactic| walk_at "subscriptTail") => `(tactic| (k_here; (with_reducible show wpAny _ _ (subscriptTail _ (Expr.Slice _ _ _ _) (Value.str _ _) (Value.ref _)) _ _ _); walk_at "mine slice"; intro _ _ _ _ _))
local macro_rules | `(tactic| walk_at "callWith ref") => `(tactic| (k_here; (with_reducible show wpAny _ _ (callWith _ (Value.ref _) _ (backTo _ (starEach [Expr.Starred _ _] _)) []) _ _ _); k_dflt (refine' callWith_SI ?k1 ?k2 ?k3 ?k4 ?_; (case k1 => k_in); (case k2 => k_inst); (case k3 => rfl); (case k4 => k_is); k_whole)))
local macro_rules | `(tactic| walk_at "call ref") => `(tactic| (k_here; (refine' Tells1.useI (f := 293) ?k1 ?k2 ?k3 ?k4 ?k5 ?k6 (ro_c ⟨rfl, rfl⟩ _ (by assumption) (by assumption) (by assumption)) ?tB ?tF ?tX ?tN ?tT ?tf ?tk ?td ?tu ?tI ?_; (case k2 => k_inst); (case k1 => k_in); (case k3 => rfl); (case k4 => k_is); (case k5 => k_is); (case k6 => k_is); walk_at "mine tell"; (case tI => exact IsInst.up (by assumption) (Fr.keep (by k_asm)))); intro v' h' tk' F' N' st' e'; (first | (rw [if_pos (by assumption)] at e'; obtain ⟨t', e'⟩ := e'; subst e') | (rw [if_neg (by assumption), if_pos (by assumption)] at e'; obtain ⟨t', e'⟩ := e'; subst e') | (rw [if_neg (by assumption), if_neg (by assumption)] at e'; obtain ⟨t', e'⟩ := e'; subst e'))))
local macro_rules | `(tactic| walk_at "call ref") => `(tactic| (k_here; (refine' Tells1.useM (f := .ref 281) ?tq (max1_c ⟨rfl, rfl⟩ (by assumption) (by assumption) _) ?tB ?tF ?tX ?tN ?tT ?tf ?tk ?td ?tu trivial ?_; walk_at "mine tell"; (case tq => k_mem)); intro v' h' tk' F' N' st' e'; obtain ⟨t', e'⟩ := e'; subst e'))

theorem sim_c {prog : Program} {w : World} (fill : PySem.Challenge.rw_ah5039_01 = PySem.Challenge.rw_ah5039_01 ∧ hd.heap_39 = hd.heap_39) (x : Addr) {vs : List Value} {ts : List Str} (hi : StrsAre vs ts) (hb2 : ts.length ≤ 4) (hb5 : ∀ t ∈ ts, t.length ≤ 5) :
    Tells1 prog w (hd.heap_39 w.params) 37 680 (.ref 171) (.ref x :: vs) (fun h => IsInst w.params h x 296) (fun v _ _ => if ts.length ≤ 1 ∨ (ts.all (· == ts.headD Str.empty)) = true then ∃ t, v = .int 1 t else if ∃ t ∈ ts, t.length = 0 then ∃ t, v = .int 0 t else ∃ t, v = .float (ratio ts) t) := by
  revert fill
  k_fill
  intro _
  intro p loose mean mg mb dp un gd outer A₀ base s Q B X T hdp hu hI ret
  have hl : vs.length ≤ 1000 := by rw [strs_len hi]; omega
  k_dflt (refine' enterV (vs := vs) (g₁ := fun D => some [("self", .ref x), ("sequences", .ref D)]) (binds := fun D => [("self", .ref x), ("sequences", .ref D)]) ?k3 ?k5 ?k6 ?k7 ?k8 ?k9 ?kG ?kB ?_ ?c2 ?c3 ?c4 ?c5; walk_at "mine enterV")
  case k9 => refine upto4 (P := fun us => peek1 _ _ (bindArgs _ { pos := .ref x :: us }) = some (restObj us, _)) ?_ ?_ ?_ ?_ ?_ vs (by rw [strs_len hi]; exact hb2) <;> (intros; rfl)
  intro D g L h₁ st hD ht F N
  replace B := below_up B st
  replace X := X.keeps st
  replace T := T.keeps st
  replace hI := hI.up st
  obtain ⟨d, u1, u2, i1, i2⟩ := id hI
  dsimp only
  try k_fold
  by_cases hq1 : ts.length ≤ 1 ∨ (ts.all (· == ts.headD Str.empty)) = true
  · walk_at "mine go"
    refine ret _ _ _ (fun b o e => by rename Fr _ _ _ _ => F2; exact F2.keep b o (st b o e)) ?_
    dsimp only
    rw [if_pos hq1]; exact ⟨_, rfl⟩
  · by_cases hq2 : ∃ t ∈ ts, t.length = 0
    · walk_at "mine go"
      refine ret _ _ _ (fun b o e => by rename Fr _ _ _ _ => F2; exact F2.keep b o (st b o e)) ?_
      dsimp only
      rw [if_neg hq1, if_pos hq2]; exact ⟨_, rfl⟩
    · walk_at "mine go"
      refine ret _ _ _ (fun b o e => by rename Fr _ _ _ _ => F2; exact F2.keep b o (st b o e)) ?_
      dsimp only
      rw [if_neg hq1, if_neg hq2]; exact ⟨_, rfl⟩

local macro_rules | `(tactic| walk_at "call ref") => `(tactic| (k_here; (refine' Tells1.useM (f := .ref 171) ?tq (sim_c ⟨rfl, rfl⟩ _ (by assumption) (by assumption) (by assumption)) ?tB ?tF ?tX ?tN ?tT ?tf ?tk ?td ?tu ?tI ?_; walk_at "mine tell"; (case tq => k_mem); (case tI => exact IsInst.up (by assumption) (Fr.keep (by k_asm)))); intro v' h' tk' F' N' st' e'; (first | (rw [if_pos (by assumption)] at e'; obtain ⟨t', e'⟩ := e'; subst e') | (rw [if_neg (by assumption), if_pos (by assumption)] at e'; obtain ⟨t', e'⟩ := e'; subst e') | (rw [if_neg (by assumption), if_neg (by assumption)] at e'; obtain ⟨t', e'⟩ := e'; subst e'))))

theorem dist_c {prog : Program} {w : World} (fill : PySem.Challenge.rw_ah5039_01 = PySem.Challenge.rw_ah5039_01 ∧ hd.heap_39 = hd.heap_39) (x : Addr) {vs : List Value} {ts : List Str} (hi : StrsAre vs ts) (hb2 : ts.length ≤ 4) (hb5 : ∀ t ∈ ts, t.length ≤ 5) :
    Tells1 prog w (hd.heap_39 w.params) 39 700 (.ref 164) (.ref x :: vs) (fun h => IsInst w.params h x 296) (fun v _ _ => if ts.length ≤ 1 ∨ (ts.all (· == ts.headD Str.empty)) = true then ∃ t, v = .int 0 t else if ∃ t ∈ ts, t.length = 0 then ∃ t, v = .int 1 t else ∃ t, v = .float (Float64.sub (Float64.ofInt 1) (ratio ts)) t) := by
  revert fill
  k_fill
  intro _
  intro p loose mean mg mb dp un gd outer A₀ base s Q B X T hdp hu hI ret
  have hl : vs.length ≤ 1000 := by rw [strs_len hi]; omega
  k_dflt (refine' enterV (vs := vs) (g₁ := fun D => some [("self", .ref x), ("sequences", .ref D)]) (binds := fun D => [("self", .ref x), ("sequences", .ref D)]) ?k3 ?k5 ?k6 ?k7 ?k8 ?k9 ?kG ?kB ?_ ?c2 ?c3 ?c4 ?c5; walk_at "mine enterV")
  case k9 => refine upto4 (P := fun us => peek1 _ _ (bindArgs _ { pos := .ref x :: us }) = some (restObj us, _)) ?_ ?_ ?_ ?_ ?_ vs (by rw [strs_len hi]; exact hb2) <;> (intros; rfl)
  intro D g L h₁ st hD ht F N
  replace B := below_up B st
  replace X := X.keeps st
  replace T := T.keeps st
  replace hI := hI.up st
  obtain ⟨d, u1, u2, i1, i2⟩ := id hI
  dsimp only
  try k_fold
  by_cases hq1 : ts.length ≤ 1 ∨ (ts.all (· == ts.headD Str.empty)) = true
  · walk_at "mine go"
    refine ret _ _ _ (fun b o e => by rename Fr _ _ _ _ => F2; exact F2.keep b o (st b o e)) ?_
    dsimp only
    rw [if_pos hq1]; exact ⟨_, rfl⟩
  · by_cases hq2 : ∃ t ∈ ts, t.length = 0
    · walk_at "mine go"
      refine ret _ _ _ (fun b o e => by rename Fr _ _ _ _ => F2; exact F2.keep b o (st b o e)) ?_
      dsimp only
      rw [if_neg hq1, if_pos hq2]; exact ⟨_, rfl⟩
    · walk_at "mine go"
      refine ret _ _ _ (fun b o e => by rename Fr _ _ _ _ => F2; exact F2.keep b o (st b o e)) ?_
      dsimp only
      rw [if_neg hq1, if_neg hq2]; exact ⟨_, rfl⟩

local macro_rules | `(tactic| walk_at "call ref") => `(tactic| (k_here; (refine' Tells1.useI (f := 255) ?k1 ?k2 ?k3 ?k4 ?k5 ?k6 (lcsstr_c ⟨rfl, rfl⟩ (by assumption) (by assumption) (by assumption) (by assumption) _) ?tB ?tF ?tX ?tN ?tT ?tf ?tk ?td ?tu ?tI ?_; (case k2 => k_inst); (case k1 => k_in); (case k3 => rfl); (case k4 => k_is); (case k5 => k_is); (case k6 => k_is); walk_at "mine tell"; (case tI => exact IsInst.up (by assumption) (Fr.keep (by k_asm)))); intro v' h' tk' F' N' st' e'; obtain ⟨t', e'⟩ := e'; subst e'))
local macro_rules | `(tactic| walk_at "call builtin:len") => `(tactic| (k_here; (with_reducible show wpAny _ _ (call (Value.builtin "len") [Value.str (Mine.st _) _]) _ _ _); (refine len_stN (by assumption) ?_); intro tk' t'))
theorem strsim_c {prog : Program} {w : World} (fill : PySem.Challenge.rw_ah5039_01 = PySem.Challenge.rw_ah5039_01 ∧ hd.heap_39 = hd.heap_39) (x : Addr) {vs : List Value} {ts : List Str} (hi : StrsAre vs ts) (hb1 : 2 ≤ ts.length) (hb2 : ts.length ≤ 4) (hb20 : ∀ t ∈ ts, t.length ≤ 20) :
    Tells1 prog w (hd.heap_39 w.params) 10 150 (.ref 262) (.ref x :: vs) (fun h => IsInst w.params h x 265) (fun v _ _ => ∃ t, v = .int ((lcsOf (ts.map tx)).length : Nat) t) := by
  revert fill
  k_fill
  intro _
  intro p loose mean mg mb dp un gd outer A₀ base s Q B X T hdp hu hI ret
  have hl : vs.length ≤ 1000 := by rw [strs_len hi]; omega
  have hlen : (lcsOf (ts.map tx)).length ≤ 1000 := by
    have h1 := (lcsOf_infix (ts.map tx) (tx (ts.getD 0 Str.empty)) (List.mem_map_of_mem (getD_mem (by omega)))).length_le
    rw [tx_len] at h1
    have h2 := getD_le hb20 0
    omega
  k_dflt (refine' enterV (vs := vs) (g₁ := fun D => some [("self", .ref x), ("sequences", .ref D)]) (binds := fun D => [("self", .ref x), ("sequences", .ref D)]) ?k3 ?k5 ?k6 ?k7 ?k8 ?k9 ?kG ?kB ?_ ?c2 ?c3 ?c4 ?c5; walk_at "mine enterV")
  case k9 => refine upto4 (P := fun us => peek1 _ _ (bindArgs _ { pos := .ref x :: us }) = some (restObj us, _)) ?_ ?_ ?_ ?_ ?_ vs (by rw [strs_len hi]; exact hb2) <;> (intros; rfl)
  intro D g L h₁ st hD ht F N
  replace B := below_up B st
  replace X := X.keeps st
  replace T := T.keeps st
  replace hI := hI.up st
  obtain ⟨d, u1, u2, i1, i2⟩ := id hI
  dsimp only
  try k_fold
  walk_at "mine go"
  exact ret _ _ _ (fun b o e => by rename Fr _ _ _ _ => F2; exact F2.keep b o (st b o e)) ⟨_, rfl⟩

end Mine

end

section
local macro_rules | `(tactic| walk_at "mine pad D4 0") => `(tactic| skip)
local macro_rules | `(tactic| walk_at "mine pad D4 1") => `(tactic| skip)
local macro_rules | `(tactic| walk_at "mine pad D4 2") => `(tactic| skip)
local macro_rules | `(tactic| walk_at "mine pad D4 3") => `(tactic| skip)
local macro_rules | `(tactic| walk_at "mine pad D4 4") => `(tactic| skip)
local macro_rules | `(tactic| walk_at "mine pad D4 5") => `(tactic| skip)
local macro_rules | `(tactic| walk_at "mine pad D4 6") => `(tactic| skip)
local macro_rules | `(tactic| walk_at "mine pad D4 7") => `(tactic| skip)
local macro_rules | `(tactic| walk_at "mine pad D4 8") => `(tactic| skip)
local macro_rules | `(tactic| walk_at "mine pad D4 9") => `(tactic| skip)
local macro_rules | `(tactic| walk_at "mine pad D4 10") => `(tactic| skip)
local macro_rules | `(tactic| walk_at "mine pad D4 11") => `(tactic| skip)
local macro_rules | `(tactic| walk_at "mine pad D4 12") => `(tactic| skip)
local macro_rules | `(tactic| walk_at "mine pad D4 13") => `(tactic| skip)
local macro_rules | `(tactic| walk_at "mine pad D4 14") => `(tactic| skip)
local macro_rules | `(tactic| walk_at "mine pad D4 15") => `(tactic| skip)
local macro_rules | `(tactic| walk_at "mine pad D4 16") => `(tactic| skip)
local macro_rules | `(tactic| walk_at "mine pad D4 17") => `(tactic| skip)
local macro_rules | `(tactic| walk_at "mine pad D4 18") => `(tactic| skip)
open PySem PySem.W PySem.Calls PyProof.Rows
set_option Elab.async false
set_option maxRecDepth 100000
set_option maxHeartbeats 8000000
namespace Mine
local macro_rules | `(tactic| walk_at "mine enter") => `(tactic| (refine' enter ?k3 ?k5 ?k6 ?k7 ?k8 ?k9 ?kB ?_ ?c2 ?c3 ?c4 ?c5; (case k3 => k_asm); (case k5 => k_asm); (case k6 => k_is); (case k7 => k_is); (case k8 => ktr_room); (case k9 => exact BindsTo.of_eq rfl); (case c5 => decide); (case kB => exact locs rfl); (case c2 => exact rfl); (case c3 => exact rfl); (case c4 => exact rfl); k_whole; intro L' h' F' N'; (try dsimp only); (try k_fold)))
local macro_rules | `(tactic| walk_at "mine enterV") => `(tactic| ((case k3 => k_asm); (case k5 => k_asm); (case k6 => k_is); (case k7 => k_is); (case k8 => ktr_room); (case c5 => decide); (case kB => exact fun _ => locs rfl); (case c2 => exact rfl); (case c3 => exact rfl); (case c4 => exact rfl); (case kG => exact fun _ => rfl)))
local macro_rules | `(tactic| walk_at "mine go") => `(tactic| repeat' ((fail_if_success (with_reducible show wpAny _ _ (pyIter _) _ _ _)); (fail_if_success (with_reducible show wpAny _ _ (exec (Stmt.While _ _ _ _) _) _ _ _)); (fail_if_success (with_reducible show LCg.CompSrc _ _ _ _ _ _ _ _ _ _ _ _ _ _)); (first | (k_unfold; (try dsimp only)) | (k_end; wrow_close) | walk1 | (dsimp only; walk1) | (leave1; walk_say "STEP leave1"; try dsimp only) | fail "no step")))
local macro_rules | `(tactic| walk_at "mine tup") => `(tactic| first | (rename Fr _ _ _ _ => F9; exact F9.tup (by assumption)) | exact News.isTup (by k_asm) (by k_mem))
local macro_rules | `(tactic| walk_at "mine lst") => `(tactic| first | exact News.isList (by k_asm) (by k_mem) | (rename Fr _ _ _ _ => F9; exact F9.lst (by assumption)))
local macro_rules | `(tactic| walk_at "truthy ref") => `(tactic| (k_here; (refine tup_truthy (by walk_at "mine tup") (by assumption) (by omega) ?_ ?_ <;> intro he')))
local macro_rules | `(tactic| walk_at "call builtin:len") => `(tactic| (k_here; (first | refine tup_len (by walk_at "mine tup") (by assumption) (by omega) ?_ | refine lst_len (by walk_at "mine lst") (by assumption) (by omega) ?_)))
local macro_rules | `(tactic| walk_at "StarOf ref") => `(tactic| (k_here; (first | refine tup_star (by k_asm) (by k_asm) (by walk_at "mine tup") (by assumption) ?_ | refine lst_star (by k_asm) (by k_asm) (by walk_at "mine lst") (by assumption) ?_); intro h' F' N'; (try dsimp only [List.nil_append, List.cons_append])))
local macro_rules | `(tactic| walk_at "call builtin:all") => `(tactic| (k_here; (refine tup_all (by rfl) (by k_asm) (by k_asm) (by walk_at "mine tup") (by assumption) (by assumption) ?_); intro h' tk' F' N'))
local macro_rules | `(tactic| walk_at "call type:list") => `(tactic| (k_here; (refine list_copyKT (by k_asm) (by k_asm) (by walk_at "mine tup") ?_ (by simp only [List.size_toArray, sizeLine]; omega)); intro D' c' h' F' N' l1'))
local macro_rules | `(tactic| k_room) => `(tactic| ktr_room)
local macro_rules | `(tactic| k_inst) => `(tactic| first | (refine' inst_up ?iF ?i1 ?i2; (case iF => k_asm); (case i1 => assumption); (case i2 => assumption)) | fail "no object")
local macro_rules | `(tactic| walk_at "eval Call Attribute") => `(tactic| (k_here; (with_reducible show wpAny _ _ (eval (Expr.Call (Expr.Attribute _ _ _) [Expr.Starred _ _] [] _) _) _ _ _); refine methodCall_S ?_))
local macro_rules | `(tactic| walk_at "callWith ref") => `(tactic| (k_here; (with_reducible show wpAny _ _ (callWith _ (Value.ref _) _ (backTo _ (starEach [Expr.Starred _ _] _)) []) _ _ _); k_dflt (refine' callWith_SM ?kX ?k0 ?k1 ?k2 ?_; (case kX => k_asm); (case k0 => k_asm); (case k1 => k_mem); (case k2 => k_is); k_whole)))
local macro_rules | `(tactic| walk_at "getAttr ref") => `(tactic| (k_here; k_dflt (refine' get_sm ?k1 ?k2 ?k4 ?k5 ?k6 ?k7 ?k8 ?k9 ?k10 ?k11 ?k12 ?k13 ?_; (case k4 => k_inst); (case k1 => k_asm); (case k2 => k_asm); (case k7 => k_is); (case k5 => k_is); (case k6 => k_is); (case k8 => k_is); (case k9 => k_is); (case k10 => k_is); (case k11 => k_handed); (case k12 => decide +kernel); (case k13 => k_get); k_whole)))
local macro_rules | `(tactic| walk_at "mine tell") => `(tactic| ((case tB => k_asm); (case tF => k_asm); (case tX => k_asm); (case tN => k_asm); (case tT => k_asm); (case tf => rfl); (case tk => rfl); (case td => first | ktr_room | (dsimp only; omega) | (simp only [depth_deeper]; omega)); (case tu => first | omega | (dsimp only; omega) | k_units)))
local macro_rules | `(tactic| walk_at "mine enterVC") => `(tactic| ((case k3 => k_asm); (case k5 => k_asm); (case k6 => k_is); (case k7 => k_is); (case k8 => ktr_room); (case kK => exact fun _ => rfl); (case kN => decide +kernel); (case c2 => exact rfl); (case c3 => exact rfl); (case c4 => exact rfl); (case kG => exact fun _ => rfl)))
local macro_rules | `(tactic| walk_at "call type:map") => `(tactic| (k_here; (first | refine mapTup_N (prog := _) (w := _) (by k_asm) (by k_asm) (by walk_at "mine tup") (by assumption) (by assumption) ?_ | refine mapLst_N (by k_asm) (by k_asm) (by walk_at "mine lst") (by assumption) (by assumption) ?_); intro M' h' F' N' mo'))
local macro_rules | `(tactic| walk_at "call builtin:sum") => `(tactic| (k_here; refine sumMap_N (by rfl) (by assumption) (by k_asm) (by k_asm) ?_; intro h' tk' t' F' N'))
local macro_rules | `(tactic| walk_at "call builtin:max") => `(tactic| (k_here; refine maxMap_N (by rfl) (by assumption) (by k_asm) (by k_asm) (by assumption) ?_; intro h' tk' t' k' hk' F' N'))
local macro_rules | `(tactic| walk_at "mine slice") => `(tactic| ((with_reducible rename Fr _ _ _ _ => F'); (with_reducible rename News _ _ _ _ => N'); first
  | ((with_reducible show wpAny _ _ (subscriptTail _ (Expr.Slice none (some _) none _) _ _) _ _ _); (refine slice_strN_ns (hsz := ?hsz) (s := ⟨_, _, _, _, _⟩) F' N' ?_); (case hsz => (unfold sizeLine; omega)))
  | ((with_reducible show wpAny _ _ (subscriptTail _ (Expr.Slice (some _) none none _) _ _) _ _ _); (refine slice_strN_sn (hsz := ?hsz) (s := ⟨_, _, _, _, _⟩) F' N' ?_); (case hsz => (unfold sizeLine; omega)))
  | ((with_reducible show wpAny _ _ (subscriptTail _ (Expr.Slice (some _) (some _) none _) _ _) _ _ _); (refine slice_strN_ss (hsz := ?hsz) (s := ⟨_, _, _, _, _⟩) F' N' ?_); (case hsz => (unfold sizeLine; omega)))))
local macro_rules | `(tactic| walk_at "subscriptTail") => `(tactic| (k_here; (with_reducible show wpAny _ _ (subscriptTail _ (Expr.Slice _ _ _ _) (Value.str _ _) (Value.ref _)) _ _ _); walk_at "mine slice"; intro _ _ _ _ _))
local macro_rules | `(tactic| walk_at "eval ListComp") => `(tactic| (k_here; k_dflt (refine LCg.ListComp_U (F₀ := by k_asm) (by with_unfolding_all rfl) (by decide) (by rfl) (by decide) (by rfl) ?_)))
/-- an object of LCSSeq as its __init__ makes it -/
def IsSeqI (P : Params) (h : Heap) (x : Addr) : Prop :=
  ∃ d t1 t2 t3 u, h.get? x = some (instObj 225 d) ∧ h.get? d = some (dictOf [⟨PyData.keyHash P (Str.ofString "qval"), .str (Str.ofString "qval") t1, .int 1 u⟩, ⟨PyData.keyHash P (Str.ofString "test_func"), .str (Str.ofString "test_func") t3, .ref 100⟩, ⟨PyData.keyHash P (Str.ofString "external"), .str (Str.ofString "external") t2, .bool true⟩] 3)
theorem IsSeqI.up {P : Params} {h h' : Heap} {x : Addr} (I : IsSeqI P h x) (k : h.StaysIn h') : IsSeqI P h' x :=
  let ⟨d, t1, t2, t3, u, a, b⟩ := I; ⟨d, t1, t2, t3, u, k _ _ a, k _ _ b⟩
/-- Base._get_sequences for an LCSSeq -/
theorem getseq2_c {prog : Program} {w : World} (fill : PySem.Challenge.rw_ah5039_01 = PySem.Challenge.rw_ah5039_01 ∧ hd.heap_39 = hd.heap_39) {vs : List Value} {ts : List Str} (hi : StrsAre vs ts) (hb2 : ts.length ≤ 4) (x : Addr) :
    Tells1 prog w (hd.heap_39 w.params) 2 20 (.ref 108) (.ref x :: vs) (fun h => IsSeqI w.params h x) (fun v h h' => ∃ a c, v = .ref a ∧ h.get? a = none ∧ h'.get? a = some (listOf vs.toArray c)) := by
  revert fill
  k_fill
  intro _
  intro p loose mean mg mb dp un gd outer A₀ base s Q B X T hdp hu hI ret
  have hl : vs.length ≤ 1000 := by rw [strs_len hi]; omega
  k_dflt (refine' enterVC (vs := vs) (g₁ := fun D => some [("self", .ref x), ("sequences", .ref D)]) (binds := fun D => [("self", .ref x), ("sequences", .ref D)]) ?k3 ?k5 ?k6 ?k7 ?k8 ?k9 ?kG ?kK ?kN ?_ ?c2 ?c3 ?c4; walk_at "mine enterVC")
  case k9 => refine upto4 (P := fun us => peek1 _ _ (bindArgs _ { pos := .ref x :: us }) = some (restObj us, _)) ?_ ?_ ?_ ?_ ?_ vs (by rw [strs_len hi]; exact hb2) <;> (intros; rfl)
  intro D g L h₁ tk cells st hD ht F N Y
  k_cells Y
  replace B := below_up B st
  replace X := X.keeps st
  replace T := T.keeps st
  obtain ⟨d, u1, u2, u3, u4, i1, i2⟩ := hI.up st
  dsimp only
  try k_fold
  walk_at "mine go"
  all_goals
    rename News _ _ _ _ => N2
    rename Fr _ _ _ _ => F2
    exact ret _ _ _ (fun b o e => F2.keep b o (st b o e)) ⟨_, _, rfl, none_up st (N2 _ (.head _)).2.2, (N2 _ (.head _)).1⟩
theorem dynamic_l {prog : Program} {w : World} (self : Value) {vs : List Value} {ts : List Str} (hi : StrsAre vs ts) (h2 : ts.length = 2) (hb : ∀ t ∈ ts, t.length ≤ 20) (ha : ∀ t ∈ ts, t.cps.all (· < 128) = true) :
    Tells1 prog w (hd.heap_39 w.params) 3 60 (.ref 203) (self :: vs) (fun _ => True) (fun v _ _ => ∃ r t, v = .str r t ∧ r.length = lcsT (tx (ts.getD 0 Str.empty)) (tx (ts.getD 1 Str.empty)) (ts.getD 0 Str.empty).length (ts.getD 1 Str.empty).length) := by
  cases hi with
  | nil => simp at h2
  | cons s1 t1 r =>
    cases r with
    | nil => simp at h2
    | cons s2 t2 r2 =>
      cases r2 with
      | cons => simp at h2
      | nil => exact dynamic_c ⟨rfl, rfl⟩ self s1 s2 t1 t2 (hb s1 (by simp)) (hb s2 (by simp)) (ha s1 (by simp)) (ha s2 (by simp))
local macro_rules | `(tactic| walk_at "call ref") => `(tactic| (k_here; (refine' Tells1.useM (f := .ref 108) ?tq (getseq2_c ⟨rfl, rfl⟩ (by assumption) (by omega) _) ?tB ?tF ?tX ?tN ?tT ?tf ?tk ?td ?tu ?tI ?_; walk_at "mine tell"; (case tq => k_mem); (case tI => exact IsSeqI.up (by assumption) (Fr.keep (by k_asm)))); intro v' h' tk' F' N' st' e'; obtain ⟨a', c', e', n', g'⟩ := e'; subst e'; (have N' := got_news (by k_asm) N' n' g'); clear n' g'))
local macro_rules | `(tactic| walk_at "call ref") => `(tactic| (k_here; (refine' Tells1.useM (f := .ref 203) ?tq (dynamic_l _ (by assumption) (by omega) (by assumption) (by assumption)) ?tB ?tF ?tX ?tN ?tT ?tf ?tk ?td ?tu trivial ?_; walk_at "mine tell"; (case tq => k_mem)); intro v' h' tk' F' N' st' e'; obtain ⟨r', t', e', l'⟩ := e'; subst e'))

theorem lcsseq_c {prog : Program} {w : World} (fill : PySem.Challenge.rw_ah5039_01 = PySem.Challenge.rw_ah5039_01 ∧ hd.heap_39 = hd.heap_39) {vs : List Value} {ts : List Str} (hi : StrsAre vs ts) (h2 : ts.length = 2) (hb : ∀ t ∈ ts, t.length ≤ 20) (ha : ∀ t ∈ ts, t.cps.all (· < 128) = true) (x : Addr) :
    Tells1 prog w (hd.heap_39 w.params) 6 100 (.ref 215) (.ref x :: vs) (fun h => IsSeqI w.params h x) (fun v _ _ => ∃ r t, v = .str r t ∧ r.length = lcsT (tx (ts.getD 0 Str.empty)) (tx (ts.getD 1 Str.empty)) (ts.getD 0 Str.empty).length (ts.getD 1 Str.empty).length) := by
  revert fill
  k_fill
  intro _
  intro p loose mean mg mb dp un gd outer A₀ base s Q B X T hdp hu hI ret
  have hl : vs.length ≤ 1000 := by rw [strs_len hi]; omega
  have hne : ts ≠ [] := by rintro rfl; simp at h2
  k_dflt (refine' enterV (vs := vs) (g₁ := fun D => some [("self", .ref x), ("sequences", .ref D)]) (binds := fun D => [("self", .ref x), ("sequences", .ref D)]) ?k3 ?k5 ?k6 ?k7 ?k8 ?k9 ?kG ?kB ?_ ?c2 ?c3 ?c4 ?c5; walk_at "mine enterV")
  case k9 => refine upto4 (P := fun us => peek1 _ _ (bindArgs _ { pos := .ref x :: us }) = some (restObj us, _)) ?_ ?_ ?_ ?_ ?_ vs (by rw [strs_len hi]; omega) <;> (intros; rfl)
  intro D g L h₁ st hD ht F N
  replace B := below_up B st
  replace X := X.keeps st
  replace T := T.keeps st
  replace hI := hI.up st
  obtain ⟨d, u1, u2, u3, u4, i1, i2⟩ := id hI
  dsimp only
  try k_fold
  walk_at "mine go"
  all_goals first | (exfalso; omega) | (exfalso; exact hne (by assumption)) | skip
  exact ret _ _ _ (fun b o e => by rename Fr _ _ _ _ => F2; exact F2.keep b o (st b o e)) ⟨_, _, rfl, by assumption⟩
local macro_rules | `(tactic| walk_at "callWith ref") => `(tactic| (k_here; (with_reducible show wpAny _ _ (callWith _ (Value.ref _) _ (backTo _ (starEach [Expr.Starred _ _] _)) []) _ _ _); k_dflt (refine' callWith_SI ?k1 ?k2 ?k3 ?k4 ?_; (case k1 => k_in); (case k2 => k_inst); (case k3 => rfl); (case k4 => k_is); k_whole)))
local macro_rules | `(tactic| walk_at "call ref") => `(tactic| (k_here; (refine' Tells1.useI (f := 215) ?k1 ?k2 ?k3 ?k4 ?k5 ?k6 (lcsseq_c ⟨rfl, rfl⟩ (by assumption) (by assumption) (by assumption) (by assumption) _) ?tB ?tF ?tX ?tN ?tT ?tf ?tk ?td ?tu ?tI ?_; (case k2 => k_inst); (case k1 => k_in); (case k3 => rfl); (case k4 => k_is); (case k5 => k_is); (case k6 => k_is); walk_at "mine tell"; (case tI => exact IsSeqI.up (by assumption) (Fr.keep (by k_asm)))); intro v' h' tk' F' N' st' e'; obtain ⟨r', t', e', l'⟩ := e'; subst e'))
local macro_rules | `(tactic| walk_at "call builtin:len") => `(tactic| (k_here; (with_reducible show wpAny _ _ (call (Value.builtin "len") [Value.str _ _]) _ _ _); (refine len_bound (by first | assumption | omega) ?_); intro tk' t'))
theorem seqsim_c {prog : Program} {w : World} (fill : PySem.Challenge.rw_ah5039_01 = PySem.Challenge.rw_ah5039_01 ∧ hd.heap_39 = hd.heap_39) {vs : List Value} {ts : List Str} (hi : StrsAre vs ts) (h2 : ts.length = 2) (hb : ∀ t ∈ ts, t.length ≤ 20) (ha : ∀ t ∈ ts, t.cps.all (· < 128) = true) (x : Addr) :
    Tells1 prog w (hd.heap_39 w.params) 10 150 (.ref 222) (.ref x :: vs) (fun h => IsSeqI w.params h x) (fun v _ _ => ∃ t, v = .int (lcsT (tx (ts.getD 0 Str.empty)) (tx (ts.getD 1 Str.empty)) (ts.getD 0 Str.empty).length (ts.getD 1 Str.empty).length : Nat) t) := by
  revert fill
  k_fill
  intro _
  intro p loose mean mg mb dp un gd outer A₀ base s Q B X T hdp hu hI ret
  have hl : vs.length ≤ 1000 := by rw [strs_len hi]; omega
  have hT := lcsT_le (tx (ts.getD 0 Str.empty)) (tx (ts.getD 1 Str.empty)) (ts.getD 0 Str.empty).length (ts.getD 1 Str.empty).length
  have hT2 : (ts.getD 0 Str.empty).length ≤ 20 := getD_le hb 0
  k_dflt (refine' enterV (vs := vs) (g₁ := fun D => some [("self", .ref x), ("sequences", .ref D)]) (binds := fun D => [("self", .ref x), ("sequences", .ref D)]) ?k3 ?k5 ?k6 ?k7 ?k8 ?k9 ?kG ?kB ?_ ?c2 ?c3 ?c4 ?c5; walk_at "mine enterV")
  case k9 => refine upto4 (P := fun us => peek1 _ _ (bindArgs _ { pos := .ref x :: us }) = some (restObj us, _)) ?_ ?_ ?_ ?_ ?_ vs (by rw [strs_len hi]; omega) <;> (intros; rfl)
  intro D g L h₁ st hD ht F N
  replace B := below_up B st
  replace X := X.keeps st
  replace T := T.keeps st
  replace hI := hI.up st
  obtain ⟨d, u1, u2, u3, u4, i1, i2⟩ := id hI
  dsimp only
  try k_fold
  walk_at "mine go"
  rename _ = lcsT _ _ _ _ => hr9
  rw [← hr9] at ret
  exact ret _ _ _ (fun b o e => by rename Fr _ _ _ _ => F2; exact F2.keep b o (st b o e)) ⟨_, rfl⟩

end Mine

end

section
open PySem PySem.W PySem.Calls PyProof.Rows
set_option Elab.async false
set_option maxRecDepth 100000
namespace Mine
section
variable {prog : Program} {w : World} {A : Around} {E : Value → Shared → Prop} {s : Shared} {h₀ : Heap} {L : Addr} {m : Str → Option Value} {news : List (Addr × Obj)}
theorem room_le (M : Nat) (h2 : 2 ≤ M) (h4 : M ≤ 4) : [(5 : Int), 5, 4].getD ((M : Int) - 2).toNat 0 ≤ 5 := by
  have hM : M = 2 ∨ M = 3 ∨ M = 4 := by omega
  rcases hM with rfl | rfl | rfl <;> decide
theorem item_int {l : Addr} {its : List Value} {k : Int} {u : Tok} {n : Nat} {v : Value} {Q : Value → Shared → Prop} (hl : s.heap.IsList l its.toArray) (hx : its[n]? = some v) (hk : k = (n : Int)) (hn : n < 100000) (h : Q v s) :
    wpAny (model prog w) A (getItem (.ref l) (.int k u)) Q E s := by
  subst hk
  exact wpAny_getItem_list hl (by omega) (by omega) (by simpa using hx) h
theorem abac_ascii (j : Int) (h0 : 0 ≤ j) (h4 : j < 4) : (Txt.item (Str.ofString "abac") j).cps.all (· < 128) = true := by
  have hk : j = 0 ∨ j = 1 ∨ j = 2 ∨ j = 3 := by omega
  rcases hk with rfl | rfl | rfl | rfl <;> decide +kernel
theorem ascii_append {x y : Str} (hx : x.cps.all (· < 128) = true) (hy : y.cps.all (· < 128) = true) : (x ++ y).cps.all (· < 128) = true := by
  rw [Str.cps_append, Array.all_append, hx, hy]; rfl
theorem strs_set {vs : List Value} {ts : List Str} (h : StrsAre vs ts) (k : Nat) (x : Str) (t : Tok) : StrsAre (vs.set k (.str x t)) (ts.set k x) := by
  induction h generalizing k with
  | nil => exact .nil
  | cons n t' r ih =>
    cases k with
    | zero => exact .cons _ _ r
    | succ k => exact .cons _ _ (ih k)
theorem mem_set {α : Type} {l : List α} {k : Nat} {x y : α} (h : y ∈ l.set k x) : y = x ∨ y ∈ l := by
  rcases List.mem_or_eq_of_mem_set h with h | h
  · exact .inr h
  · exact .inl h
theorem ints_of {β : Type} (f : β → Int) (d : β) : ∀ {ys : List Value} {xs : List β}, ys.length = xs.length → (∀ (i : Nat) (v : Value), ys[i]? = some v → ∃ t, v = .int (f (xs.getD i d)) t) → IntsAre ys (xs.map f)
  | [], [], _, _ => .nil
  | [], _ :: _, h, _ => by simp at h
  | _ :: _, [], h, _ => by simp at h
  | y :: ys, x :: xs, h, g => by
    obtain ⟨t, e⟩ := g 0 y rfl
    have e : y = .int (f x) t := e
    subst e
    exact .cons _ _ (ints_of f d (by simpa using h) fun i v hv => g (i + 1) v (by simpa using hv))
/-- xs[:k] of a list -/
theorem slice_up {value slice : Expr} {l : Addr} {us : List Value} {k : Int} {t : Tok} {n : Nat} {Q : Value → Shared → Prop} (F : Fr h₀ L s.heap m) (N : News h₀ L s.heap news) (hl : s.heap.IsList l us.toArray) (hk : k = (n : Int)) (hz : us.length ≤ 1000)
    (h : ∀ D h', Fr h₀ L h' m → News h₀ L h' ((D, listOf (us.take n).toArray 0) :: news) → Q (.ref D) { s with heap := h' })
    (hs : subscripted slice false (.ref l) (.ref s.heap.objs.size) = operate [.ref s.heap.objs.size, .ref l] (getItem (.ref l) (.ref s.heap.objs.size))) (ht : ∀ r, letTemporaryGo value (.ref l) r = pure ()) :
    wpAny (model prog w) A (subscriptTail value slice (.ref l) (.ref s.heap.objs.size)) Q E { s with heap := s.heap.push { cls := .type "slice", data := .fields #[.none, .int k t, .none] } } := by
  subst hk
  refine kmk_slice F N hl .none (.int _ t) (fun D h' F' N' _ => h D h' F' ?_) hs ht (by simp only [List.size_toArray]; unfold sizeLine; omega)
  rw [slicePick_upto'] at N'
  simpa using N'
end
end Mine

end

section
open PySem PySem.W PySem.Calls PyProof.Rows
set_option Elab.async false
set_option maxRecDepth 100000
namespace Mine
theorem cmpSelf : ∀ p, p < 21 → ∀ q, q < 21 → (Float64.cmp (Float64.ofFrac false p (q + 1)) (Float64.ofFrac false p (q + 1)) == some Ordering.eq) = true := by decide +kernel
theorem cmpSub : ∀ p, p < 21 → ∀ q, q < 21 → (Float64.cmp (Float64.sub (Float64.ofInt 1) (Float64.ofFrac false p (q + 1))) (Float64.sub (Float64.ofInt 1) (Float64.ofFrac false p (q + 1))) == some Ordering.eq) = true := by decide +kernel
/-- all texts alike (or one alone) -/
def Alike (ts : List Str) : Prop := ts.length ≤ 1 ∨ (ts.all (· == ts.headD Str.empty)) = true
def Gap (ts : List Str) : Prop := ∃ t ∈ ts, t.length = 0
/-- what the judge's similarity is -/
def Sh (ts : List Str) (v : Value) : Prop := (Alike ts ∧ ∃ t, v = .int 1 t) ∨ (¬ Alike ts ∧ Gap ts ∧ ∃ t, v = .int 0 t) ∨ (¬ Alike ts ∧ ¬ Gap ts ∧ ∃ t, v = .float (ratio ts) t)
def Ap (ts : List Str) (v : Value) : Prop := (Alike ts ∧ ∃ t, v = .int 0 t) ∨ (¬ Alike ts ∧ Gap ts ∧ ∃ t, v = .int 1 t) ∨ (¬ Alike ts ∧ ¬ Gap ts ∧ ∃ t, v = .float (Float64.sub (Float64.ofInt 1) (ratio ts)) t)
theorem ratio_form {ts : List Str} (h1 : 2 ≤ ts.length) (h4 : ts.length ≤ 4) (h5 : ∀ t ∈ ts, t.length ≤ 5) (h0 : ¬ Gap ts) : ∃ p q, p < 21 ∧ q < 21 ∧ ratio ts = Float64.ofFrac false p (q + 1) := by
  have a1 := sum_le h5
  have a2 := sum_pos (by rintro rfl; simp at h1) h0
  have a3 : lettersOf 21 (ts.map tx) ≤ 5 := by
    have b1 := lettersOf_le 21 (ts.map tx) (tx (ts.getD 0 Str.empty)) (List.mem_map_of_mem (getD_mem (by omega)))
    have b2 := h5 _ (getD_mem (show 0 < ts.length by omega))
    rw [tx_len] at b1; omega
  have a4 : ts.length * lettersOf 21 (ts.map tx) ≤ 4 * 5 := Nat.mul_le_mul h4 a3
  refine ⟨ts.length * lettersOf 21 (ts.map tx), (ts.map (·.length)).sum - 1, by omega, by omega, ?_⟩
  unfold ratio
  rw [Nat.sub_add_cancel (by omega)]
section
variable {prog : Program} {w : World} {A : Around} {E : Value → Shared → Prop} {s : Shared} {ts : List Str}
theorem eq_share {v1 sv : Value} {Q : Value → Shared → Prop} (h2 : 2 ≤ ts.length) (h4 : ts.length ≤ 4) (h5 : ∀ t ∈ ts, t.length ≤ 5) (h0 : Sh ts sv) (h1 : Sh ts v1) (h : Q (.bool true) s) : wpAny (model prog w) A (compareOp .Eq v1 sv) Q E s := by
  rcases h0 with ⟨x0, a, rfl⟩ | ⟨x0, y0, a, rfl⟩ | ⟨x0, y0, a, rfl⟩ <;> rcases h1 with ⟨x1, b, rfl⟩ | ⟨x1, y1, b, rfl⟩ | ⟨x1, y1, b, rfl⟩
  · exact eq_int h
  · exact absurd x0 x1
  · exact absurd x0 x1
  · exact absurd x1 x0
  · exact eq_int h
  · exact absurd y0 y1
  · exact absurd x1 x0
  · exact absurd y1 y0
  · obtain ⟨p, q, hp, hq, e⟩ := ratio_form h2 h4 h5 y0
    refine AutoFloatOps.eq_0 ?_
    rw [e, cmpSelf p hp q hq]; exact h
theorem eq_apart {v1 sv : Value} {Q : Value → Shared → Prop} (h2 : 2 ≤ ts.length) (h4 : ts.length ≤ 4) (h5 : ∀ t ∈ ts, t.length ≤ 5) (h0 : Ap ts sv) (h1 : Ap ts v1) (h : Q (.bool true) s) : wpAny (model prog w) A (compareOp .Eq v1 sv) Q E s := by
  rcases h0 with ⟨x0, a, rfl⟩ | ⟨x0, y0, a, rfl⟩ | ⟨x0, y0, a, rfl⟩ <;> rcases h1 with ⟨x1, b, rfl⟩ | ⟨x1, y1, b, rfl⟩ | ⟨x1, y1, b, rfl⟩
  · exact eq_int h
  · exact absurd x0 x1
  · exact absurd x0 x1
  · exact absurd x1 x0
  · exact eq_int h
  · exact absurd y0 y1
  · exact absurd x1 x0
  · exact absurd y1 y0
  · obtain ⟨p, q, hp, hq, e⟩ := ratio_form h2 h4 h5 y0
    refine AutoFloatOps.eq_0 ?_
    rw [e, cmpSub p hp q hq]; exact h
theorem sub_share {sv : Value} {t : Tok} {Q : Value → Shared → Prop} (h0 : Sh ts sv) (h : ∀ v tk, Ap ts v → Q v { s with toks := tk }) : wpAny (model prog w) A (binaryOp .Sub (.int 1 t) sv) Q E s := by
  rcases h0 with ⟨x0, a, rfl⟩ | ⟨x0, y0, a, rfl⟩ | ⟨x0, y0, a, rfl⟩
  · exact PySem.P.sub_int (h _ _ (.inl ⟨x0, _, rfl⟩))
  · exact PySem.P.sub_int (h _ _ (.inr (.inl ⟨x0, y0, _, rfl⟩)))
  · exact sub_if_fits (by decide) (h _ _ (.inr (.inr ⟨x0, y0, _, rfl⟩)))
end
end Mine

end

section
local macro_rules | `(tactic| walk_at "mine pad LW 0") => `(tactic| skip)
local macro_rules | `(tactic| walk_at "mine pad LW 1") => `(tactic| skip)
local macro_rules | `(tactic| walk_at "mine pad LW 2") => `(tactic| skip)
local macro_rules | `(tactic| walk_at "mine pad LW 3") => `(tactic| skip)
local macro_rules | `(tactic| walk_at "mine pad LW 4") => `(tactic| skip)
local macro_rules | `(tactic| walk_at "mine pad LW 5") => `(tactic| skip)
local macro_rules | `(tactic| walk_at "mine pad LW 6") => `(tactic| skip)
local macro_rules | `(tactic| walk_at "mine pad LW 7") => `(tactic| skip)
local macro_rules | `(tactic| walk_at "mine pad LW 8") => `(tactic| skip)
local macro_rules | `(tactic| walk_at "mine pad LW 9") => `(tactic| skip)
local macro_rules | `(tactic| walk_at "mine pad LW 10") => `(tactic| skip)
local macro_rules | `(tactic| walk_at "mine pad LW 11") => `(tactic| skip)
local macro_rules | `(tactic| walk_at "mine pad LW 12") => `(tactic| skip)
local macro_rules | `(tactic| walk_at "mine pad LW 13") => `(tactic| skip)
local macro_rules | `(tactic| walk_at "mine pad LW 14") => `(tactic| skip)
local macro_rules | `(tactic| walk_at "mine pad LW 15") => `(tactic| skip)
local macro_rules | `(tactic| walk_at "mine pad LW 16") => `(tactic| skip)
local macro_rules | `(tactic| walk_at "mine pad LW 17") => `(tactic| skip)
open PySem PySem.W PySem.Calls PyProof.Rows
set_option Elab.async false
set_option maxRecDepth 100000
set_option maxHeartbeats 8000000
namespace Mine
local macro_rules | `(tactic| walk_at "mine enter") => `(tactic| (refine' enter ?k3 ?k5 ?k6 ?k7 ?k8 ?k9 ?kB ?_ ?c2 ?c3 ?c4 ?c5; (case k3 => k_asm); (case k5 => k_asm); (case k6 => k_is); (case k7 => k_is); (case k8 => ktr_room); (case k9 => exact BindsTo.of_eq rfl); (case c5 => decide); (case kB => exact locs rfl); (case c2 => exact rfl); (case c3 => exact rfl); (case c4 => exact rfl); k_whole; intro L' h' F' N'; (try dsimp only); (try k_fold)))
local macro_rules | `(tactic| walk_at "mine enterV") => `(tactic| ((case k3 => k_asm); (case k5 => k_asm); (case k6 => k_is); (case k7 => k_is); (case k8 => ktr_room); (case c5 => decide); (case kB => exact fun _ => locs rfl); (case c2 => exact rfl); (case c3 => exact rfl); (case c4 => exact rfl); (case kG => exact fun _ => rfl)))
local macro_rules | `(tactic| walk_at "mine go") => `(tactic| repeat' ((fail_if_success (with_reducible show wpAny _ _ (pyIter _) _ _ _)); (fail_if_success (with_reducible show wpAny _ _ (exec (Stmt.While _ _ _ _) _) _ _ _)); (fail_if_success (with_reducible show LCg.CompSrc _ _ _ _ _ _ _ _ _ _ _ _ _ _)); (first | (k_unfold; (try dsimp only)) | (k_end; wrow_close) | walk1 | (dsimp only; walk1) | (leave1; walk_say "STEP leave1"; try dsimp only) | fail "no step")))
local macro_rules | `(tactic| walk_at "mine tup") => `(tactic| first | (rename Fr _ _ _ _ => F9; exact F9.tup (by assumption)) | exact News.isTup (by k_asm) (by k_mem))
local macro_rules | `(tactic| walk_at "mine lst") => `(tactic| first | exact News.isList (by k_asm) (by k_mem) | (rename Fr _ _ _ _ => F9; exact F9.lst (by assumption)))
local macro_rules | `(tactic| walk_at "truthy ref") => `(tactic| (k_here; (refine tup_truthy (by walk_at "mine tup") (by assumption) (by omega) ?_ ?_ <;> intro he')))
local macro_rules | `(tactic| walk_at "call builtin:len") => `(tactic| (k_here; (first | refine tup_len (by walk_at "mine tup") (by assumption) (by omega) ?_ | refine lst_len (by walk_at "mine lst") (by assumption) (by omega) ?_)))
local macro_rules | `(tactic| walk_at "StarOf ref") => `(tactic| (k_here; (first | refine tup_star (by k_asm) (by k_asm) (by walk_at "mine tup") (by assumption) ?_ | refine lst_star (by k_asm) (by k_asm) (by walk_at "mine lst") (by assumption) ?_); intro h' F' N'; (try dsimp only [List.nil_append, List.cons_append])))
local macro_rules | `(tactic| walk_at "call builtin:all") => `(tactic| (k_here; (refine tup_all (by rfl) (by k_asm) (by k_asm) (by walk_at "mine tup") (by assumption) (by assumption) ?_); intro h' tk' F' N'))
local macro_rules | `(tactic| walk_at "call type:list") => `(tactic| (k_here; (refine list_copyKT (by k_asm) (by k_asm) (by walk_at "mine tup") ?_ (by simp only [List.size_toArray, sizeLine]; omega)); intro D' c' h' F' N' l1'))
local macro_rules | `(tactic| k_room) => `(tactic| ktr_room)
local macro_rules | `(tactic| k_inst) => `(tactic| first | (refine' inst_up ?iF ?i1 ?i2; (case iF => k_asm); (case i1 => assumption); (case i2 => assumption)) | fail "no object")
local macro_rules | `(tactic| walk_at "eval Call Attribute") => `(tactic| (k_here; (with_reducible show wpAny _ _ (eval (Expr.Call (Expr.Attribute _ _ _) [Expr.Starred _ _] [] _) _) _ _ _); refine methodCall_S ?_))
local macro_rules | `(tactic| walk_at "callWith ref") => `(tactic| (k_here; (with_reducible show wpAny _ _ (callWith _ (Value.ref _) _ (backTo _ (starEach [Expr.Starred _ _] _)) []) _ _ _); k_dflt (refine' callWith_SM ?kX ?k0 ?k1 ?k2 ?_; (case kX => k_asm); (case k0 => k_asm); (case k1 => k_mem); (case k2 => k_is); k_whole)))
local macro_rules | `(tactic| walk_at "getAttr ref") => `(tactic| (k_here; k_dflt (refine' get_sm ?k1 ?k2 ?k4 ?k5 ?k6 ?k7 ?k8 ?k9 ?k10 ?k11 ?k12 ?k13 ?_; (case k4 => k_inst); (case k1 => k_asm); (case k2 => k_asm); (case k7 => k_is); (case k5 => k_is); (case k6 => k_is); (case k8 => k_is); (case k9 => k_is); (case k10 => k_is); (case k11 => k_handed); (case k12 => decide +kernel); (case k13 => k_get); k_whole)))
local macro_rules | `(tactic| walk_at "mine tell") => `(tactic| ((case tB => k_asm); (case tF => k_asm); (case tX => k_asm); (case tN => k_asm); (case tT => k_asm); (case tf => rfl); (case tk => rfl); (case td => first | ktr_room | (dsimp only; omega) | (simp only [depth_deeper]; omega)); (case tu => first | omega | (dsimp only; omega) | k_units)))
local macro_rules | `(tactic| walk_at "mine enterVC") => `(tactic| ((case k3 => k_asm); (case k5 => k_asm); (case k6 => k_is); (case k7 => k_is); (case k8 => ktr_room); (case kK => exact fun _ => rfl); (case kN => decide +kernel); (case c2 => exact rfl); (case c3 => exact rfl); (case c4 => exact rfl); (case kG => exact fun _ => rfl)))
local macro_rules | `(tactic| walk_at "call type:map") => `(tactic| (k_here; (first | refine mapTup_N (prog := _) (w := _) (by k_asm) (by k_asm) (by walk_at "mine tup") (by assumption) (by assumption) ?_ | refine mapLst_N (by k_asm) (by k_asm) (by walk_at "mine lst") (by assumption) (by assumption) ?_); intro M' h' F' N' mo'))
local macro_rules | `(tactic| walk_at "call builtin:sum") => `(tactic| (k_here; refine sumMap_N (by rfl) (by assumption) (by k_asm) (by k_asm) ?_; intro h' tk' t' F' N'))
local macro_rules | `(tactic| walk_at "call builtin:max") => `(tactic| (k_here; refine maxMap_N (by rfl) (by assumption) (by k_asm) (by k_asm) (by assumption) ?_; intro h' tk' t' k' hk' F' N'))
local macro_rules | `(tactic| walk_at "mine slice") => `(tactic| ((with_reducible rename Fr _ _ _ _ => F'); (with_reducible rename News _ _ _ _ => N'); first
  | ((with_reducible show wpAny _ _ (subscriptTail _ (Expr.Slice none (some _) none _) _ _) _ _ _); (refine slice_strN_ns (hsz := ?hsz) (s := ⟨_, _, _, _, _⟩) F' N' ?_); (case hsz => (unfold sizeLine; omega)))
  | ((with_reducible show wpAny _ _ (subscriptTail _ (Expr.Slice (some _) none none _) _ _) _ _ _); (refine slice_strN_sn (hsz := ?hsz) (s := ⟨_, _, _, _, _⟩) F' N' ?_); (case hsz => (unfold sizeLine; omega)))
  | ((with_reducible show wpAny _ _ (subscriptTail _ (Expr.Slice (some _) (some _) none _) _ _) _ _ _); (refine slice_strN_ss (hsz := ?hsz) (s := ⟨_, _, _, _, _⟩) F' N' ?_); (case hsz => (unfold sizeLine; omega)))))
local macro_rules | `(tactic| walk_at "subscriptTail") => `(tactic| (k_here; (with_reducible show wpAny _ _ (subscriptTail _ (Expr.Slice _ _ _ _) (Value.str _ _) (Value.ref _)) _ _ _); walk_at "mine slice"; intro _ _ _ _ _))
local macro_rules | `(tactic| walk_at "eval ListComp") => `(tactic| (k_here; k_dflt (refine LCg.ListComp_U (F₀ := by k_asm) (by with_unfolding_all rfl) (by decide) (by rfl) (by decide) (by rfl) ?_)))
local macro_rules | `(tactic| walk_at "mine go2") => `(tactic| repeat' ((fail_if_success (with_reducible show wpAny _ _ (pyIter _) _ _ _)); (fail_if_success (with_reducible show wpAny _ _ (exec (Stmt.While _ _ _ _) _) _ _ _)); (fail_if_success (with_reducible show wpAny _ _ (binaryOp Operator.Mult (Value.ref _) _) _ _ _)); (fail_if_success (with_reducible show wpAny _ _ (setItem _ _ _) _ _ _)); (fail_if_success (with_reducible show LCg.CompSrc _ _ _ _ _ _ _ _ _ _ _ _ _ _)); (first | (k_unfold; (try dsimp only)) | (k_end; wrow_close) | walk1 | (dsimp only; walk1) | (leave1; walk_say "STEP leave1"; try dsimp only) | fail "no step")))
local macro_rules | `(tactic| walk_at "exec For Name Subscript cons nil") => `(tactic| (k_here; k_dflt (refine wpAny_For ?_)))
local macro_rules | `(tactic| walk_at "mine go3") => `(tactic| repeat' ((fail_if_success (with_reducible show wpAny _ _ (pyIter _) _ _ _)); (fail_if_success (with_reducible show wpAny _ _ (exec (Stmt.If _ _ _ _) _) _ _ _)); (fail_if_success (with_reducible show LCg.CompSrc _ _ _ _ _ _ _ _ _ _ _ _ _ _)); (first | (k_unfold; (try dsimp only)) | (k_end; wrow_close) | walk1 | (dsimp only; walk1) | (leave1; walk_say "STEP leave1"; try dsimp only) | fail "no step")))
set_option hygiene false in
local macro_rules | `(tactic| walk_at "mine go4") => `(tactic| repeat' ((fail_if_success (with_reducible show wpAny _ _ (pyIter _) _ _ _)); (fail_if_success (with_reducible show wpAny _ _ (call (Value.ref _) us) _ _ _)); (fail_if_success (with_reducible show LCg.CompSrc _ _ _ _ _ _ _ _ _ _ _ _ _ _)); (first | (k_unfold; (try dsimp only)) | (k_end; wrow_close) | walk1 | (dsimp only; walk1) | (leave1; walk_say "STEP leave1"; try dsimp only) | fail "no step")))
local macro_rules | `(tactic| walk_at "mine ex") => `(tactic| repeat' ((fail_if_success (with_reducible show wpAny _ _ (exec _ _) _ _ _)); (first | (k_unfold; (try dsimp only)) | walk1 | (dsimp only; walk1))))
abbrev jDict (P : Params) (t1 t2 : Tok) : Obj := dictOf [⟨PyData.keyHash P (Str.ofString "qval"), .str (Str.ofString "qval") t1, .int 1 216⟩, ⟨PyData.keyHash P (Str.ofString "external"), .str (Str.ofString "external") t2, .bool true⟩] 2
abbrev rDict (P : Params) (t1 t2 t3 u : Tok) : Obj := dictOf [⟨PyData.keyHash P (Str.ofString "qval"), .str (Str.ofString "qval") t1, .int 1 u⟩, ⟨PyData.keyHash P (Str.ofString "test_func"), .str (Str.ofString "test_func") t3, .ref 100⟩, ⟨PyData.keyHash P (Str.ofString "external"), .str (Str.ofString "external") t2, .bool true⟩] 3
theorem in_of {p : Addr × Obj} {r l : List (Addr × Obj)} (hp : p ∈ l) (h : ∀ q ∈ r, q ∈ l) : ∀ q ∈ p :: r, q ∈ l := fun q hq => by
  rcases List.mem_cons.mp hq with rfl | hq
  · exact hp
  · exact h q hq
theorem in_nil {l : List (Addr × Obj)} : ∀ q ∈ ([] : List (Addr × Obj)), q ∈ l := fun q hq => nomatch hq
local macro_rules | `(tactic| walk_at "mine sub") => `(tactic| first | exact in_nil | (refine in_of (by k_mem) ?_; walk_at "mine sub"))
local macro_rules | `(tactic| walk_at "call builtin:all") => `(tactic| (k_here; (refine LSm.all_bools (by k_asm) (by k_asm) (by rfl) (by walk_at "mine lst") (by assumption) ?_); intro h' tk' F' N'))
theorem Tells1.mono {prog : Program} {w : World} {K : Frag} {dn un : Nat} {f : Value} {pos : List Value} {pre : Heap → Prop} {post post' : Value → Heap → Heap → Prop} (H : Tells1 prog w K dn un f pos pre post) (hp : ∀ v h h', post v h h' → post' v h h') : Tells1 prog w K dn un f pos pre post' :=
  fun p loose mean mg mb dp un gd outer A₀ base s Q B X T hd hu hpre ret => H p loose mean mg mb dp un gd outer A₀ base s Q B X T hd hu hpre fun v h' tk' st po => ret v h' tk' st (hp v _ h' po)
theorem sh_of {ts : List Str} {v : Value} (h : if ts.length ≤ 1 ∨ (ts.all (· == ts.headD Str.empty)) = true then ∃ t, v = .int 1 t else if ∃ t ∈ ts, t.length = 0 then ∃ t, v = .int 0 t else ∃ t, v = .float (ratio ts) t) : Sh ts v := by
  split at h
  · rename_i h1; exact .inl ⟨h1, h⟩
  · rename_i h1
    split at h
    · rename_i h2; exact .inr (.inl ⟨h1, h2, h⟩)
    · rename_i h2; exact .inr (.inr ⟨h1, h2, h⟩)
theorem ap_of {ts : List Str} {v : Value} (h : if ts.length ≤ 1 ∨ (ts.all (· == ts.headD Str.empty)) = true then ∃ t, v = .int 0 t else if ∃ t ∈ ts, t.length = 0 then ∃ t, v = .int 1 t else ∃ t, v = .float (Float64.sub (Float64.ofInt 1) (ratio ts)) t) : Ap ts v := by
  split at h
  · rename_i h1; exact .inl ⟨h1, h⟩
  · rename_i h1
    split at h
    · rename_i h2; exact .inr (.inl ⟨h1, h2, h⟩)
    · rename_i h2; exact .inr (.inr ⟨h1, h2, h⟩)
theorem sh_one {ts : List Str} {v : Value} (h1 : ts.length ≤ 1) (h : Sh ts v) : ∃ t, v = .int 1 t := by
  rcases h with ⟨_, h⟩ | ⟨h, _⟩ | ⟨h, _⟩
  · exact h
  · exact absurd (.inl h1) h
  · exact absurd (.inl h1) h
theorem ap_one {ts : List Str} {v : Value} (h1 : ts.length ≤ 1) (h : Ap ts v) : ∃ t, v = .int 0 t := by
  rcases h with ⟨_, h⟩ | ⟨h, _⟩ | ⟨h, _⟩
  · exact h
  · exact absurd (.inl h1) h
  · exact absurd (.inl h1) h
theorem sim_S {prog : Program} {w : World} (x : Addr) {vs : List Value} {ts : List Str} (hi : StrsAre vs ts) (hb2 : ts.length ≤ 4) (hb5 : ∀ t ∈ ts, t.length ≤ 5) :
    Tells1 prog w (hd.heap_39 w.params) 37 680 (.ref 171) (.ref x :: vs) (fun h => IsInst w.params h x 296) (fun v _ _ => Sh ts v) := (sim_c ⟨rfl, rfl⟩ x hi hb2 hb5).mono fun v _ _ => sh_of
theorem dist_S {prog : Program} {w : World} (x : Addr) {vs : List Value} {ts : List Str} (hi : StrsAre vs ts) (hb2 : ts.length ≤ 4) (hb5 : ∀ t ∈ ts, t.length ≤ 5) :
    Tells1 prog w (hd.heap_39 w.params) 39 700 (.ref 164) (.ref x :: vs) (fun h => IsInst w.params h x 296) (fun v _ _ => Ap ts v) := (dist_c ⟨rfl, rfl⟩ x hi hb2 hb5).mono fun v _ _ => ap_of
local macro_rules | `(tactic| walk_at "call ref") => `(tactic| first | (k_here; k_dflt (refine' Tells1.useM (f := .ref 171) ?tq (sim_S _ (by assumption) (by assumption) (by assumption)) ?tB ?tF ?tX ?tN ?tT ?tf ?tk ?td ?tu ?tI ?_; walk_at "mine tell"; (case tq => k_mem); (case tI => refine inst_news (by k_asm) (by k_mem) (by k_mem)); intro v' h' tk' F' N' st' e'; (first | (obtain ⟨t', e'⟩ := sh_one (ts := [_]) (Nat.le_refl 1) e'; subst e') | (obtain ⟨t', e'⟩ := sh_one (ts := []) (Nat.zero_le 1) e'; subst e') | skip))) | fail "no contract")
local macro_rules | `(tactic| walk_at "call ref") => `(tactic| first | (k_here; k_dflt (refine' Tells1.useM (f := .ref 164) ?tq (dist_S _ (by assumption) (by assumption) (by assumption)) ?tB ?tF ?tX ?tN ?tT ?tf ?tk ?td ?tu ?tI ?_; walk_at "mine tell"; (case tq => k_mem); (case tI => refine inst_news (by k_asm) (by k_mem) (by k_mem)); intro v' h' tk' F' N' st' e'; (first | (obtain ⟨t', e'⟩ := ap_one (ts := [_]) (Nat.le_refl 1) e'; subst e') | (obtain ⟨t', e'⟩ := ap_one (ts := []) (Nat.zero_le 1) e'; subst e') | skip))) | fail "no contract")
local macro_rules | `(tactic| walk_at "call ref") => `(tactic| first | (k_here; (with_reducible show wpAny _ _ (call (Value.ref 171) _) _ _ _); k_dflt (refine' Tells1.use (sim_S _ (by assumption) (by assumption) (by assumption)) ?tB ?tF ?tX ?tN ?tT ?tf ?tk ?td ?tu ?tI ?_; walk_at "mine tell"; (case tI => refine inst_news (by k_asm) (by k_mem) (by k_mem)); intro v' h' tk' F' N' st' e'; (first | (obtain ⟨t', e'⟩ := sh_one (ts := [_]) (Nat.le_refl 1) e'; subst e') | (obtain ⟨t', e'⟩ := sh_one (ts := []) (Nat.zero_le 1) e'; subst e') | skip))) | fail "no contract")
local macro_rules | `(tactic| walk_at "call ref") => `(tactic| first | (k_here; (with_reducible show wpAny _ _ (call (Value.ref 164) _) _ _ _); k_dflt (refine' Tells1.use (dist_S _ (by assumption) (by assumption) (by assumption)) ?tB ?tF ?tX ?tN ?tT ?tf ?tk ?td ?tu ?tI ?_; walk_at "mine tell"; (case tI => refine inst_news (by k_asm) (by k_mem) (by k_mem)); intro v' h' tk' F' N' st' e'; (first | (obtain ⟨t', e'⟩ := ap_one (ts := [_]) (Nat.le_refl 1) e'; subst e') | (obtain ⟨t', e'⟩ := ap_one (ts := []) (Nat.zero_le 1) e'; subst e') | skip))) | fail "no contract")
set_option hygiene false in
local macro_rules | `(tactic| walk_at "mine hts") => `(tactic| exact hts)
set_option hygiene false in
local macro_rules | `(tactic| walk_at "mine hpair") => `(tactic| exact hpair)
set_option hygiene false in
local macro_rules | `(tactic| walk_at "mine lst") => `(tactic| exact row_list (by k_asm) (by k_mem) hRow)
def NotBool (v : Value) : Prop := (∃ n t, v = .int n t) ∨ (∃ f t, v = .float f t)
theorem Sh.notBool {ts : List Str} {v : Value} (h : Sh ts v) : NotBool v := by
  rcases h with ⟨_, t, rfl⟩ | ⟨_, _, t, rfl⟩ | ⟨_, _, t, rfl⟩
  · exact .inl ⟨_, _, rfl⟩
  · exact .inl ⟨_, _, rfl⟩
  · exact .inr ⟨_, _, rfl⟩
theorem Ap.notBool {ts : List Str} {v : Value} (h : Ap ts v) : NotBool v := by
  rcases h with ⟨_, t, rfl⟩ | ⟨_, _, t, rfl⟩ | ⟨_, _, t, rfl⟩
  · exact .inl ⟨_, _, rfl⟩
  · exact .inl ⟨_, _, rfl⟩
  · exact .inr ⟨_, _, rfl⟩
theorem six_notBool {v1 v2 v : Value} {a b c d : Int} {q1 q2 q3 q4 : Tok} {i : Nat} (h1 : NotBool v1) (h2 : NotBool v2) (h : (#[v1, v2, Value.int a q1, Value.int b q2, Value.int c q3, Value.int d q4] : Array Value)[i]? = some v) : NotBool v := by
  have hm : v ∈ [v1, v2, Value.int a q1, Value.int b q2, Value.int c q3, Value.int d q4] := List.mem_of_getElem? (i := i) (by simpa using h)
  simp only [List.mem_cons, List.not_mem_nil, or_false] at hm
  rcases hm with rfl | rfl | rfl | rfl | rfl | rfl
  · exact h1
  · exact h2
  all_goals exact .inl ⟨_, _, rfl⟩
theorem falses_of : ∀ {ys : List Value}, (∀ (i : Nat) (v : Value), ys[i]? = some v → v = .bool false) → LSm.BoolsAre ys (List.replicate ys.length false)
  | [], _ => .nil
  | y :: ys, g => by
    have e : y = .bool false := g 0 y rfl
    subst e
    exact .cons _ (falses_of fun i v hv => g (i + 1) v (by simpa using hv))
theorem any_falses {prog : Program} {w : World} {A : Around} {E : Value → Shared → Prop} {s : Shared} {h₀ : Heap} {L l : Addr} {m : Str → Option Value} {news : List (Addr × Obj)} {vs : List Value} {n : Nat} {Q : Value → Shared → Prop} (F : Fr h₀ L s.heap m) (N : News h₀ L s.heap news) (hh : A.handled = none) (hl : s.heap.IsList l vs.toArray) (hb : LSm.BoolsAre vs (List.replicate n false))
    (h : ∀ h' tk, Fr h₀ L h' m → News h₀ L h' news → Q (.bool false) { s with heap := h', toks := tk }) : wpAny (model prog w) A (call (.builtin "any") [.ref l]) Q E s := by
  refine LSm.any_bools F N hh hl hb ?_
  have e : (List.replicate n false).any id = false := by simp
  rw [e]; exact h
local macro_rules | `(tactic| walk_at "call builtin:any") => `(tactic| (k_here; (refine any_falses (by k_asm) (by k_asm) (by rfl) (by walk_at "mine lst") (by assumption) ?_); intro h' tk' F' N'))
set_option hygiene false in
local macro_rules | `(tactic| walk_at "subscriptTail Name Slice ref ref") => `(tactic| (k_here; (with_reducible show wpAny _ _ (subscriptTail _ (PySem.Expr.Slice none (some _) none _) (Value.ref _) (Value.ref _)) _ _ _); k_dflt (refine' slice_up (n := kq) ?F ?N ?l (by omega) husl ?_ ?s ?t; (case F => k_asm); (case N => k_asm); (case l => exact row_list (by k_asm) (by k_mem) hRow); (case s => with_unfolding_all rfl); (case t => intro _; with_unfolding_all rfl)); intro Dk h' F' N'))
theorem seq_news {P : Params} {g h : Heap} {L x d : Addr} {news : List (Addr × Obj)} {t1 t2 t3 u : Tok} (N : News g L h news) (i1 : (x, instObj 225 d) ∈ news) (i2 : (d, rDict P t1 t2 t3 u) ∈ news) : IsSeqI P h x :=
  ⟨d, t1, t2, t3, u, (N _ i1).1, (N _ i2).1⟩
local macro_rules | `(tactic| walk_at "call ref") => `(tactic| first | (k_here; (with_reducible show wpAny _ _ (call (Value.ref 222) _) _ _ _); k_dflt (refine' Tells1.use (seqsim_c ⟨rfl, rfl⟩ (by walk_at "mine hpair") (by rfl) (by assumption) (by assumption) _) ?tB ?tF ?tX ?tN ?tT ?tf ?tk ?td ?tu ?tI ?_; walk_at "mine tell"; (case tI => exact seq_news (by k_asm) (by k_mem) (by k_mem)); intro v' h' tk' F' N' st' e'; obtain ⟨t', e'⟩ := e'; subst e')) | fail "no contract")
local macro_rules | `(tactic| walk_at "exec For Name Call cons nil") => `(tactic| (k_here; k_dflt (refine wpAny_For ?_)))
set_option hygiene false in
local macro_rules | `(tactic| walk_at "compareOp Eq") => `(tactic| first | (k_here; (refine eq_share h2 h4 hb5 hsv hv1 ?_)) | (k_here; (refine eq_apart h2 h4 hb5 hap9 hv2 ?_)) | fail "no share")
set_option hygiene false in
local macro_rules | `(tactic| walk_at "binaryOp Sub") => `(tactic| first | (k_here; (refine sub_share hsv ?_); intro v9 tk9 hap9) | fail "no share")
local macro_rules | `(tactic| walk_at "call ref") => `(tactic| first | (k_here; k_dflt (refine' Tells1.useM (f := .ref 262) ?tq (strsim_c ⟨rfl, rfl⟩ _ (by walk_at "mine hts") (by assumption) (by assumption) (by assumption)) ?tB ?tF ?tX ?tN ?tT ?tf ?tk ?td ?tu ?tI ?_; walk_at "mine tell"; (case tq => k_mem); (case tI => refine inst_news (by k_asm) (by k_mem) (by k_mem)); intro v' h' tk' F' N' st' e'; obtain ⟨t', e'⟩ := e'; subst e')) | fail "no contract")
local macro_rules | `(tactic| walk_at "call ref") => `(tactic| first | (k_here; (with_reducible show wpAny _ _ (call (Value.ref 303) _) _ _ _); k_dflt (refine' Tells1.use (lawpiece_c ⟨rfl, rfl⟩ (by walk_at "mine hts") (by assumption) (by assumption) (by assumption)) ?tB ?tF ?tX ?tN ?tT ?tf ?tk ?td ?tu ?tI ?_; walk_at "mine tell"; (case tI => exact row_list (by k_asm) (by k_mem) (by assumption)); intro v' h' tk' F' N' st' e'; obtain ⟨t', e'⟩ := e'; subst e')) | fail "no contract")
set_option hygiene false in
local macro_rules | `(tactic| walk_at "call builtin:len") => `(tactic| (k_here; (with_reducible show wpAny _ _ (call (Value.builtin "len") [Value.str (Mine.st _) _]) _ _ _); (refine len_stN hpl ?_); intro tk' t'))
theorem alike_of {ts : List Str} (h : (ts.map fun y => y == ts.getD 0 Str.empty).all id = true) : Alike ts := by
  refine .inr ?_
  rw [List.all_map] at h
  have e : ts.headD Str.empty = ts.getD 0 Str.empty := by cases ts <;> rfl
  rw [e]; exact h
theorem not_alike {ts : List Str} (h2 : 2 ≤ ts.length) (h : (ts.map fun y => y == ts.getD 0 Str.empty).all id = false) : ¬ Alike ts := by
  rintro (h1 | h1)
  · omega
  · rw [List.all_map] at h
    have e : ts.headD Str.empty = ts.getD 0 Str.empty := by cases ts <;> rfl
    rw [e] at h1
    have : (ts.all (id ∘ fun y => y == ts.getD 0 Str.empty)) = true := h1
    rw [this] at h; cases h
theorem gap_all {ts : List Str} : (ts.map fun y => decide ((y.length : Int) > 0)).all id = true ↔ ¬ Gap ts := by
  rw [List.all_map, List.all_eq_true]
  constructor
  · rintro h ⟨t, ht, h0⟩
    have := h t ht
    simp [h0] at this
  · intro h t ht
    have : t.length ≠ 0 := fun e => h ⟨t, ht, e⟩
    simp; omega
theorem sum_cast (ts : List Str) : (ts.map fun t => (t.length : Int)).sum = (((ts.map (·.length)).sum : Nat) : Int) := by
  induction ts with
  | nil => rfl
  | cons t r ih => simp only [List.map_cons, List.sum_cons, ih]; omega
theorem two_in {p q : Addr × Obj} {l : List (Addr × Obj)} (hp : p ∈ l) (hq : q ∈ l) : ∀ r ∈ [p, q], r ∈ l := fun r hr => by
  rcases List.mem_cons.mp hr with rfl | hr
  · exact hp
  · rw [List.mem_singleton.mp hr]; exact hq
theorem many_of (z : Int) : ∃ M : Nat, 2 + z.fmod 3 = (M : Int) ∧ 2 ≤ M ∧ M ≤ 4 := by
  have h1 := Int.fmod_nonneg_of_pos z (b := 3) (by decide)
  have h2 := Int.fmod_lt_of_pos z (b := 3) (by decide)
  exact ⟨(2 + z.fmod 3).toNat, by omega, by omega, by omega⟩
theorem strs_rep {t : Tok} : ∀ M : Nat, StrsAre (List.replicate M (Value.str (Str.ofString "") t)) (List.replicate M (Str.ofString ""))
  | 0 => .nil
  | M + 1 => .cons _ _ (strs_rep M)
theorem fmod_nat (z : Int) {M : Nat} (h : 0 < M) : ∃ K : Nat, z.fmod (M : Int) = (K : Int) ∧ K < M := by
  have h1 := Int.fmod_nonneg_of_pos z (b := (M : Int)) (by omega)
  have h2 := Int.fmod_lt_of_pos z (b := (M : Int)) (by omega)
  exact ⟨(z.fmod M).toNat, by omega, by omega⟩
local macro_rules | `(tactic| walk_at "call builtin:len") => `(tactic| (k_here; (with_reducible show wpAny _ _ (call (Value.builtin "len") [Value.str _ _]) _ _ _); (refine len_bound (by assumption) ?_); intro tk' t'))
set_option hygiene false in
local macro_rules | `(tactic| walk_at "getItem ref int") => `(tactic| (k_here; (with_reducible show wpAny _ _ (getItem (Value.ref _) (Value.int _ _)) _ _ _); k_dflt (refine item_int (row_list (by k_asm) (by k_mem) hRow) hx9 hK (by omega) ?_)))
set_option hygiene false in
local macro_rules | `(tactic| walk_at "subscriptTail") => `(tactic| (k_here; (with_reducible show wpAny _ _ (subscriptTail _ _ (Value.ref _) (Value.int _ _)) _ _ _); k_dflt (refine sub_int (row_list (by k_asm) (by k_mem) hRow) hx9 hK (by omega) ?_)))
local macro_rules | `(tactic| walk_at "call ref") => `(tactic| first | (k_here; (with_reducible show wpAny _ _ (call (Value.ref 308) _) _ _ _); k_dflt (refine' Tells1.use (lawletters_c ⟨rfl, rfl⟩ (by walk_at "mine hts") (by assumption) (by assumption) (by assumption)) ?tB ?tF ?tX ?tN ?tT ?tf ?tk ?td ?tu ?tI ?_; walk_at "mine tell"; (case tI => exact row_list (by k_asm) (by k_mem) (by assumption)); intro v' h' tk' F' N' st' e'; obtain ⟨t', e'⟩ := e'; subst e')) | fail "no contract")
theorem law_holds : PySem.Challenge.rw_ah5039_01.Holds := hd (by
  k_go0
  all_goals try k_fold
  rename List Int => ns
  rename List Value => vs
  rename IntsAre _ _ => hI
  rename Heap.IsList _ _ _ => hL
  rename Shared => s1
  rename CellsAre _ _ _ => hC9
  clear hC9
  walk1
  refine mid_J (h₀ := s1.heap) (L := s1.heap.objs.size) (fun m news => ∃ (M : Nat) (t : Tok) (oC : Obj), m "many" = some (.int (M : Int) t) ∧ 2 ≤ M ∧ M ≤ 4 ∧ (∃ a, m "script" = some (.ref a) ∧ s1.heap.IsList a vs.toArray) ∧ news = [(s1.heap.objs.size + 1, oC)] ∧ oC.data = .cell none) ?hw ?hk
  case hw =>
    walk_at "mine go"
    · rename Fr _ _ _ _ => F9
      rename News _ _ _ _ => N9
      obtain ⟨M, hM, h2, h4⟩ := many_of (ns.getD (Int.toNat 0) 0)
      rw [hM] at F9
      exact AfterJ.intro F9 N9 _ sub_refl ⟨M, _, _, rfl, h2, h4, ⟨_, rfl, hL⟩, rfl, by assumption⟩
    · rename Fr _ _ _ _ => F9
      rename News _ _ _ _ => N9
      exact AfterJ.intro F9 N9 _ sub_refl ⟨2, _, _, rfl, by omega, by omega, ⟨_, rfl, hL⟩, rfl, by assumption⟩
  case hk =>
    rintro h tk m news F N ⟨M, tM, oC, e1, h2, h4, ⟨al, e2, hLa⟩, rfl, dC⟩
    replace F := Fr.name "script" _ (Fr.name "many" _ F e1) e2
    walk_at "mine go2"
    rename Fr _ _ _ _ => F
    rename News _ _ _ _ => N
    refine rep_N (n := M) F N (.head _) rfl (by omega) ?_
    intro D' h' F N l1
    walk_at "mine go"
    rename Obj => oC2
    rename Addr => Ds
    rename List Value => ws
    rename _ = Data.cell (some (Value.ref D')) => dC2
    rename IntsAre _ (List.take _ _) => hI2
    rename Fr _ _ _ _ => F
    rename News _ _ _ _ => N
    rename ∀ (p : Addr × Obj), p ∈ [_, _] ++ [_] → _ => l3
    have qX : D' ≠ Ds := Nat.ne_of_lt (l3 (D', _) (by simp; left; rfl))
    have qC : s1.heap.objs.size + 1 ≠ Ds := Nat.ne_of_lt (l3 (s1.heap.objs.size + 1, oC2) (by simp))
    have qCX : s1.heap.objs.size + 1 ≠ D' := Nat.ne_of_lt (l1 (s1.heap.objs.size + 1, oC) (by simp))
    have N2 : News s1.heap s1.heap.objs.size _ [(Ds, W.listOf ws.toArray 0), (D', W.listOf _ 0), (s1.heap.objs.size + 1, oC2)] := fun p hp => N p (by
      simp only [List.mem_cons, List.not_mem_nil, or_false] at hp
      rcases hp with rfl | rfl | rfl
      · exact .head _
      · exact .tail _ (.head _)
      · exact .tail _ (.tail _ (.tail _ (.head _))))
    refine iter_listJ (fun i m news => m "many" = some (.int (M : Int) tM) ∧ ∃ (oX oC : Obj) (us : List Value) (ts : List Str), news = [(Ds, W.listOf ws.toArray 0), (D', oX), (s1.heap.objs.size + 1, oC)] ∧ oC.data = .cell (some (.ref D')) ∧ IsRow oX us ∧ StrsAre us ts ∧ ts.length = M ∧ ∀ t ∈ ts, t.length ≤ 5 ∧ t.cps.all (· < 128) = true)
      rfl F N2 (.inr ⟨_, .head _, rfl, _, rfl⟩) ?j0 ?turn ?done
    case j0 =>
      refine ⟨rfl, _, _, _, List.replicate M (Str.ofString ""), rfl, dC2, ⟨rfl, _, rfl⟩, strs_rep M, by simp, fun t ht => ?_⟩
      rw [List.eq_of_mem_replicate ht]
      exact ⟨by decide +kernel, by decide +kernel⟩
    case done =>
      clear F N N2
      rintro m₁ news₁ h tk ⟨e1, oX, oC, us, ts, rfl, dC, hRow, hts, hM, h5⟩ F N
      subst hM
      replace F := Fr.name "many" _ F e1
      have hb5 : ∀ t ∈ ts, t.length ≤ 5 := fun t ht => (h5 t ht).1
      have hb20 : ∀ t ∈ ts, t.length ≤ 20 := fun t ht => by have := hb5 t ht; omega
      have hb3 : ∀ t ∈ ts, t.length ≤ 1000 := fun t ht => by have := hb5 t ht; omega
      have hasc : ∀ t ∈ ts, t.cps.all (· < 128) = true := fun t ht => (h5 t ht).2
      clear h5
      have hlus := strs_len hts
      have hSX : ∀ {nw : List (Addr × Obj)}, (D', oX) ∈ nw → LCg.SrcAt s1.heap D' us.toArray nw := fun hm => .inr ⟨oX, hm, hRow.1, hRow.2⟩
      have hpeq : pieceOf (ts.map tx) = lcsOf (ts.map tx) := pieceOf_eq (by simpa using h2)
      have hpl : (pieceOf (ts.map tx)).length ≤ 1000 := by
        have h1 := (lcsOf_infix (ts.map tx) (tx (ts.getD 0 Str.empty)) (List.mem_map_of_mem (getD_mem (by omega)))).length_le
        rw [tx_len] at h1
        have h2 := getD_le hb5 0
        rw [hpeq]; omega
      have hget : ∀ i, (ts.getD i Str.empty).length ≤ 1000 := fun i => getD_le hb3 i
      walk_at "mine go2"
      rename Fr _ _ _ _ => F
      rename News _ _ _ _ => N
      refine .inl ⟨D', _, _, rfl, rfl, F, N, hSX (by simp), by simp only [List.size_toArray, sizeLine]; omega, ?_⟩
      rintro s2 ⟨g', rfl⟩
      refine rest_inv (fun i v => ∃ t, v = .int ((ts.getD i Str.empty).length : Nat) t) (hSX (by simp)) ?turnA ?finA
      case turnA =>
        clear F N
        intro i ys v I oI C oC9 D m₂ h tk E' hin hP hC hx F N off ne
        obtain ⟨t, rfl⟩ := SetStr.strs_at hts i v (by simpa using hP)
        have hx20 := hget i
        walk_at "mine go2"
        exact TurnEnd.intro (by assumption) (by assumption) sub_refl ⟨_, rfl⟩
      case finA =>
        clear F N
        intro ys hyl hys
        have hyl' : ys.length = ts.length := by rw [← hlus]; simpa using hyl
        have hints : IntsAre ys (ts.map fun t => (t.length : Int)) := ints_of (fun t : Str => (t.length : Int)) Str.empty hyl' hys
        walk_at "mine go3"
        rename Fr _ _ _ _ => F
        rename News _ _ _ _ => N
        refine mid_J (h₀ := s1.heap) (L := s1.heap.objs.size) (fun m news => m "many" = some (.int (ts.length : Int) tM) ∧ (∃ t, m "letters" = some (.int (lettersOf 21 (ts.map tx) : Nat) t)) ∧ (∃ v, m "share" = some v ∧ Sh ts v) ∧ news = [(D', oX), (s1.heap.objs.size + 1, oC)]) ?hwS ?hkS
        case hkS =>
          clear F N
          rintro h tk m news F N ⟨e1, ⟨tl, e2⟩, ⟨sv, e3, hsv⟩, rfl⟩
          replace F := Fr.name "share" _ (Fr.name "letters" _ (Fr.name "many" _ F e1) e2) e3
          obtain ⟨t9, ht9⟩ := SetStr.strs_at hts 0 _ (List.getElem?_eq_getElem (by omega))
          have hx9 : us[0]? = some (.str (ts.getD 0 Str.empty) t9) := by rw [List.getElem?_eq_getElem (by omega), ht9]
          have hK : (0 : Int) = ((0 : Nat) : Int) := rfl
          have hts1 : StrsAre [.str (ts.getD 0 Str.empty) t9] [ts.getD 0 Str.empty] := .cons _ _ .nil
          have hts14 : [ts.getD 0 Str.empty].length ≤ 4 := by simp
          have hts15 : ∀ t ∈ [ts.getD 0 Str.empty], t.length ≤ 5 := fun t ht => by rw [List.mem_singleton.mp ht]; exact getD_le hb5 0
          have hts0 : StrsAre [] [] := .nil
          have hts04 : ([] : List Str).length ≤ 4 := by simp
          have hts05 : ∀ t ∈ ([] : List Str), t.length ≤ 5 := fun t ht => nomatch ht
          have husl : us.length ≤ 1000 := by omega
          rename World => w9
          walk_at "mine ex"
          refine mid_J (h₀ := s1.heap) (L := s1.heap.objs.size) (fun m news => m "many" = some (.int (ts.length : Int) tM) ∧ m "letters" = some (.int (lettersOf 21 (ts.map tx) : Nat) tl) ∧ m "share" = some sv ∧ ∃ xj dj xr dr t1 t2 t3 t4 t5 u, m "judge" = some (.ref xj) ∧ m "row" = some (.ref xr) ∧
            (xr, instObj 225 dr) ∈ news ∧ (dr, rDict w9.params t3 t4 t5 u) ∈ news ∧ (xj, instObj 296 dj) ∈ news ∧ (dj, jDict w9.params t1 t2) ∈ news ∧ (D', oX) ∈ news ∧ (s1.heap.objs.size + 1, oC) ∈ news) ?hw1 ?hk1
          case hw1 =>
            walk_at "mine go2"
            rename Fr _ _ _ _ => F9
            rename News _ _ _ _ => N9
            refine AfterJ.intro F9 N9 _ sub_refl ?j1
            refine ⟨rfl, rfl, rfl, _, ?x1, _, ?x2, ?x3, ?x4, ?x5, ?x6, ?x7, ?x8, rfl, rfl, ?y1, ?y2, ?y3, ?y4, ?y5, ?y6⟩
            case y1 => k_mem
            case y2 => k_mem
            case y3 => k_mem
            case y4 => k_mem
            case y5 => k_mem
            case y6 => k_mem
          case hk1 =>
            clear F N
            rintro h tk m news F N ⟨e1, e2, e3, xj, dj, xr, dr, t1, t2, t3, t4, t5, u, e4, e5, y1, y2, y3, y4, y5, y6⟩
            replace N : News _ _ _ [_, _, _, _, _, _] := fun p hp => N p (in_of y1 (in_of y2 (in_of y3 (in_of y4 (in_of y5 (in_of y6 in_nil))))) p hp)
            clear y1 y2 y3 y4 y5 y6
            replace F := Fr.name "row" _ (Fr.name "judge" _ (Fr.name "share" _ (Fr.name "letters" _ (Fr.name "many" _ F e1) e2) e3) e4) e5
            walk_at "mine ex"
            refine mid_J (h₀ := s1.heap) (L := s1.heap.objs.size) (fun m news => m "many" = some (.int (ts.length : Int) tM) ∧ m "letters" = some (.int (lettersOf 21 (ts.map tx) : Nat) tl) ∧ m "share" = some sv ∧ m "judge" = some (.ref xj) ∧ m "row" = some (.ref xr) ∧ (∃ v1 v2, m "told" = some v1 ∧ Sh ts v1 ∧ m "apart" = some v2 ∧ Ap ts v2) ∧
              news = [(xr, instObj 225 dr), (dr, rDict w9.params t3 t4 t5 u), (xj, instObj 296 dj), (dj, jDict w9.params t1 t2), (D', oX), (s1.heap.objs.size + 1, oC)]) ?hw2 ?hk2
            case hw2 =>
              walk_at "mine go2"
              rename Fr _ _ _ _ => F9
              rename News _ _ _ _ => N9
              refine AfterJ.intro F9 N9 _ ?sub2 ⟨rfl, rfl, rfl, rfl, rfl, ⟨_, _, rfl, by assumption, rfl, by assumption⟩, rfl⟩
              case sub2 => walk_at "mine sub"
            case hk2 =>
              clear F N
              rintro h tk m news F N ⟨e1, e2, e3, e4, e5, ⟨v1, v2, e6, hv1, e7, hv2⟩, rfl⟩
              replace F := Fr.name "apart" _ (Fr.name "told" _ (Fr.name "row" _ (Fr.name "judge" _ (Fr.name "share" _ (Fr.name "letters" _ (Fr.name "many" _ F e1) e2) e3) e4) e5) e6) e7
              walk_at "mine ex"
              refine mid_J (h₀ := s1.heap) (L := s1.heap.objs.size) (fun m news => m "many" = some (.int (ts.length : Int) tM) ∧ m "letters" = some (.int (lettersOf 21 (ts.map tx) : Nat) tl) ∧ m "share" = some sv ∧ m "judge" = some (.ref xj) ∧ m "row" = some (.ref xr) ∧ m "told" = some v1 ∧ m "apart" = some v2 ∧ (∃ la q1 q2 q3 q4, m "alone" = some (.ref la) ∧ (la, W.listOf #[.int 1 q1, .int 0 q2, .int 1 q3, .int 0 q4] 0) ∈ news) ∧
                (xr, instObj 225 dr) ∈ news ∧ (dr, rDict w9.params t3 t4 t5 u) ∈ news ∧ (D', oX) ∈ news ∧ (s1.heap.objs.size + 1, oC) ∈ news) ?hw3 ?hk3
              case hw3 =>
                walk_at "mine go2"
                rename Fr _ _ _ _ => F9
                rename News _ _ _ _ => N9
                refine AfterJ.intro F9 N9 _ sub_refl ?j3
                refine ⟨rfl, rfl, rfl, rfl, rfl, rfl, rfl, ⟨_, ?w1, ?w2, ?w3, ?w4, rfl, ?z1⟩, ?z2, ?z3, ?z4, ?z5⟩
                case z1 => k_mem
                case z2 => k_mem
                case z3 => k_mem
                case z4 => k_mem
                case z5 => k_mem
              case hk3 =>
                clear F N
                rintro h tk m news F N ⟨e1, e2, e3, e4, e5, e6, e7, ⟨la, q1, q2, q3, q4, e8, z1⟩, y1, y2, y5, y6⟩
                replace N : News _ _ _ [_, _, _, _, _] := fun p hp => N p (in_of z1 (in_of y1 (in_of y2 (in_of y5 (in_of y6 in_nil)))) p hp)
                clear z1 y1 y2 y5 y6
                replace F := Fr.name "alone" _ (Fr.name "apart" _ (Fr.name "told" _ (Fr.name "row" _ (Fr.name "judge" _ (Fr.name "share" _ (Fr.name "letters" _ (Fr.name "many" _ F e1) e2) e3) e4) e5) e6) e7) e8
                walk_at "mine ex"
                refine mid_J (h₀ := s1.heap) (L := s1.heap.objs.size) (fun m news => m "many" = some (.int (ts.length : Int) tM) ∧ m "letters" = some (.int (lettersOf 21 (ts.map tx) : Nat) tl) ∧ m "share" = some sv ∧ m "row" = some (.ref xr) ∧ m "told" = some v1 ∧ m "apart" = some v2 ∧ m "alone" = some (.ref la) ∧
                  news = [(la, W.listOf #[.int 1 q1, .int 0 q2, .int 1 q3, .int 0 q4] 0), (xr, instObj 225 dr), (dr, rDict w9.params t3 t4 t5 u), (D', oX), (s1.heap.objs.size + 1, oC)]) ?hw4 ?hk4
                case hw4 =>
                  walk_at "mine go2"
                  rename Fr _ _ _ _ => F
                  rename News _ _ _ _ => N
                  refine LCg.CompSrc.ledger rfl F N (.head _) (by unfold sizeLine; simp) ?_
                  intro g'
                  refine rest_inv (fun i v => v = .bool false) (.inr ⟨_, .head _, rfl, _, rfl⟩) ?tD ?fD
                  case tD =>
                    clear F N
                    intro i ys v I oI C oC9 D m₂ h tk E' hin hP hC hx F N off ne
                    have hnb := six_notBool hv1.notBool hv2.notBool hP
                    rcases hnb with ⟨n9, t9', rfl⟩ | ⟨n9, t9', rfl⟩
                    · walk_at "mine go2"
                      exact TurnEnd.intro (by assumption) (by assumption) sub_refl rfl
                    · walk_at "mine go2"
                      exact TurnEnd.intro (by assumption) (by assumption) sub_refl rfl
                  case fD =>
                    intro ys9 hyl hys
                    have hbs := falses_of hys
                    walk_at "mine go2"
                    rename Fr _ _ _ _ => F9
                    rename News _ _ _ _ => N9
                    refine AfterJ.intro F9 N9 _ ?sub4 ⟨rfl, rfl, rfl, rfl, rfl, rfl, rfl, rfl⟩
                    case sub4 => walk_at "mine sub"
                case hk4 =>
                  clear F N
                  rintro h tk m news F N ⟨e1, e2, e3, e4, e5, e6, e7, rfl⟩
                  replace F := Fr.name "alone" _ (Fr.name "apart" _ (Fr.name "told" _ (Fr.name "row" _ (Fr.name "share" _ (Fr.name "letters" _ (Fr.name "many" _ F e1) e2) e3) e4) e5) e6) e7
                  walk_at "mine ex"
                  refine mid_J (h₀ := s1.heap) (L := s1.heap.objs.size) (fun m news => m "many" = some (.int (ts.length : Int) tM) ∧ m "letters" = some (.int (lettersOf 21 (ts.map tx) : Nat) tl) ∧ m "share" = some sv ∧ m "row" = some (.ref xr) ∧ m "told" = some v1 ∧ m "apart" = some v2 ∧ m "alone" = some (.ref la) ∧
                    news = [(la, W.listOf #[.int 1 q1, .int 0 q2, .int 1 q3, .int 0 q4] 0), (xr, instObj 225 dr), (dr, rDict w9.params t3 t4 t5 u), (D', oX), (s1.heap.objs.size + 1, oC)]) ?hw5 ?hk5
                  case hw5 =>
                    walk_at "mine go2"
                    rename IsRange _ _ _ _ _ _ _ _ => hr
                    rename Fr _ _ _ _ => F
                    rename News _ _ _ _ => N
                    refine iter_rangeJ (n := ts.length) (fun i m news => m "many" = some (.int (ts.length : Int) tM) ∧ m "letters" = some (.int (lettersOf 21 (ts.map tx) : Nat) tl) ∧ m "share" = some sv ∧ m "row" = some (.ref xr) ∧ m "told" = some v1 ∧ m "apart" = some v2 ∧ m "alone" = some (.ref la) ∧
                      news = [(la, W.listOf #[.int 1 q1, .int 0 q2, .int 1 q3, .int 0 q4] 0), (xr, instObj 225 dr), (dr, rDict w9.params t3 t4 t5 u), (D', oX), (s1.heap.objs.size + 1, oC)])
                      rfl F N hr (by omega) (by omega) (by omega) (by omega) ⟨rfl, rfl, rfl, rfl, rfl, rfl, rfl, rfl⟩ ?turnK ?doneK
                    case doneK =>
                      clear F N hr
                      rintro m news h tk ⟨e1, e2, e3, e4, e5, e6, e7, rfl⟩ F N
                      walk_at "mine go2"
                      exact AfterJ.intro F N _ sub_refl ⟨e1, e2, e3, e4, e5, e6, e7, rfl⟩
                    case turnK =>
                      clear F N hr
                      rintro I kq tkq m news oI h tk hkq ⟨e1, e2, e3, e4, e5, e6, e7, rfl⟩ off F N
                      replace F := Fr.name "alone" _ (Fr.name "apart" _ (Fr.name "told" _ (Fr.name "row" _ (Fr.name "share" _ (Fr.name "letters" _ (Fr.name "many" _ F e1) e2) e3) e4) e5) e6) e7
                      walk_at "mine go2"
                      rename Fr _ _ _ _ => F
                      rename News _ _ _ _ => N
                      obtain ⟨t9, ht9⟩ := SetStr.strs_at hts kq _ (List.getElem?_eq_getElem (by omega))
                      have hx9 : us[kq]? = some (.str (ts.getD kq Str.empty) t9) := by rw [List.getElem?_eq_getElem (by omega), ht9]
                      have hK : (0 : Int) + (kq : Int) = ((kq : Nat) : Int) := Int.zero_add _
                      refine iter_listJ (fun j m news => m "many" = some (.int (ts.length : Int) tM) ∧ m "letters" = some (.int (lettersOf 21 (ts.map tx) : Nat) tl) ∧ m "share" = some sv ∧ m "row" = some (.ref xr) ∧ m "told" = some v1 ∧ m "apart" = some v2 ∧ m "alone" = some (.ref la) ∧ m "k" = some (.int (0 + (kq : Int)) tkq) ∧
                        news = [(Dk, W.listOf (List.take kq us).toArray 0), (I, oI), (la, W.listOf #[.int 1 q1, .int 0 q2, .int 1 q3, .int 0 q4] 0), (xr, instObj 225 dr), (dr, rDict w9.params t3 t4 t5 u), (D', oX), (s1.heap.objs.size + 1, oC)])
                        rfl F N (.inr ⟨_, .head _, rfl, _, rfl⟩) ⟨rfl, rfl, rfl, rfl, rfl, rfl, rfl, rfl, rfl⟩ ?turnO ?doneO
                      case doneO =>
                        clear F N
                        rintro m news h tk ⟨e1, e2, e3, e4, e5, e6, e7, e8, rfl⟩ F N
                        walk_at "mine go2"
                        refine TurnJ.intro F N [(la, W.listOf #[.int 1 q1, .int 0 q2, .int 1 q3, .int 0 q4] 0), (xr, instObj 225 dr), (dr, rDict w9.params t3 t4 t5 u), (D', oX), (s1.heap.objs.size + 1, oC)] (fun p hp => .tail _ hp) off trivial ⟨e1, e2, e3, e4, e5, e6, e7, rfl⟩
                      case turnO =>
                        clear F N
                        rintro I2 j v m news oI2 h tk hj hv ⟨e1, e2, e3, e4, e5, e6, e7, e8, rfl⟩ off2 hS2 F N
                        have hjk : j < kq := by simp at hj; omega
                        have hv' : us[j]? = some v := by
                          have : (List.take kq us)[j]? = some v := by simpa using hv
                          rwa [List.getElem?_take, if_pos hjk] at this
                        obtain ⟨tj, rfl⟩ := SetStr.strs_at hts j v hv'
                        obtain ⟨xk, hxk⟩ : ∃ xk, ts.getD kq Str.empty = xk := ⟨_, rfl⟩
                        obtain ⟨xo, hxo⟩ : ∃ xo, ts.getD j Str.empty = xo := ⟨_, rfl⟩
                        have hmk : xk ∈ ts := hxk ▸ getD_mem hkq
                        have hmo : xo ∈ ts := hxo ▸ getD_mem (by omega)
                        rw [hxk] at hx9
                        rw [hxo]
                        have hpair : ∀ {ta tb : Tok}, StrsAre [.str xk ta, .str xo tb] [xk, xo] := .cons _ _ (.cons _ _ .nil)
                        have hpb : ∀ t ∈ [xk, xo], t.length ≤ 20 := fun t ht => by
                          rcases List.mem_cons.mp ht with rfl | ht
                          · exact hb20 _ hmk
                          · rw [List.mem_singleton.mp ht]; exact hb20 _ hmo
                        have hpa : ∀ t ∈ [xk, xo], t.cps.all (· < 128) = true := fun t ht => by
                          rcases List.mem_cons.mp ht with rfl | ht
                          · exact hasc _ hmk
                          · rw [List.mem_singleton.mp ht]; exact hasc _ hmo
                        have hle : lettersOf 21 (ts.map tx) ≤ lcsT (tx ([xk, xo].getD 0 Str.empty)) (tx ([xk, xo].getD 1 Str.empty)) ([xk, xo].getD 0 Str.empty).length ([xk, xo].getD 1 Str.empty).length := by
                          have := letters_le 21 (ts.map tx) (tx xk) (tx xo) (List.mem_map_of_mem hmk) (List.mem_map_of_mem hmo)
                          rw [tx_len, tx_len] at this
                          exact this
                        replace F := Fr.name "k" _ (Fr.name "alone" _ (Fr.name "apart" _ (Fr.name "told" _ (Fr.name "row" _ (Fr.name "share" _ (Fr.name "letters" _ (Fr.name "many" _ F e1) e2) e3) e4) e5) e6) e7) e8
                        walk_at "mine go2"
                        rename Fr _ _ _ _ => F9
                        rename News _ _ _ _ => N9
                        exact TurnJ.intro F9 N9 [(Dk, W.listOf (List.take kq us).toArray 0), (I, oI), (la, W.listOf #[.int 1 q1, .int 0 q2, .int 1 q3, .int 0 q4] 0), (xr, instObj 225 dr), (dr, rDict w9.params t3 t4 t5 u), (D', oX), (s1.heap.objs.size + 1, oC)] (fun p hp => hp) off2 hS2 ⟨rfl, rfl, rfl, rfl, rfl, rfl, rfl, rfl, rfl⟩
                  case hk5 =>
                    clear F N
                    rintro h tk m news F N ⟨e1, e2, e3, e4, e5, e6, e7, rfl⟩
                    replace F := Fr.name "alone" _ (Fr.name "apart" _ (Fr.name "told" _ (Fr.name "row" _ (Fr.name "share" _ (Fr.name "letters" _ (Fr.name "many" _ F e1) e2) e3) e4) e5) e6) e7
                    walk_at "mine ex"
                    replace N : News _ _ _ [(la, _), (D', oX), (s1.heap.objs.size + 1, oC)] := fun p hp => N p (in_of (by k_mem) (in_of (by k_mem) (in_of (by k_mem) in_nil)) p hp)
                    walk_at "mine go2"
        case hwS =>
          rw [sum_cast] at F
          have hK : (0 : Int) = ((0 : Nat) : Int) := rfl
          obtain ⟨t9, ht9⟩ := SetStr.strs_at hts 0 _ (List.getElem?_eq_getElem (by omega))
          have hx9 : us[0]? = some (.str (ts.getD 0 Str.empty) t9) := by rw [List.getElem?_eq_getElem (by omega), ht9]
          walk_at "mine go2"
          refine .inl ⟨D', _, _, rfl, rfl, F, N, hSX (by simp), by simp only [List.size_toArray, sizeLine]; omega, ?_⟩
          clear F N
          rintro s2 ⟨g', rfl⟩
          refine rest_inv (fun i v => v = .bool ((fun y => y == ts.getD 0 Str.empty) (ts.getD i Str.empty))) (hSX (by simp)) ?tB ?fB
          case tB =>
            intro i ys v I oI C oC9 D m₂ h tk E' hin hP hC hx F N off ne
            obtain ⟨t, rfl⟩ := SetStr.strs_at hts i v (by simpa using hP)
            walk_at "mine go2"
            exact TurnEnd.intro (by assumption) (by assumption) sub_refl rfl
          case fB =>
            intro zs hzl hzs
            have hzl' : zs.length = ts.length := by rw [← hlus]; simpa using hzl
            have hbs : LSm.BoolsAre zs (ts.map fun y => y == ts.getD 0 Str.empty) := bools_of (fun y => y == ts.getD 0 Str.empty) Str.empty hzl' hzs
            walk_at "mine go2"
            · rename _ = true => hal
              rename Fr _ _ _ _ => F
              rename News _ _ _ _ => N
              exact AfterJ.intro F N [(D', oX), (s1.heap.objs.size + 1, oC)] (two_in (by simp) (by simp)) ⟨rfl, ⟨_, rfl⟩, ⟨_, rfl, .inl ⟨alike_of hal, _, rfl⟩⟩, rfl⟩
            · rename _ = false => hal
              have hal' := not_alike h2 hal
              rename Fr _ _ _ _ => F
              rename News _ _ _ _ => N
              refine .inl ⟨D', _, _, rfl, rfl, F, N, hSX (by simp), by simp only [List.size_toArray, sizeLine]; omega, ?_⟩
              clear F N
              rintro s2 ⟨g', rfl⟩
              refine rest_inv (fun i v => v = .bool ((fun y : Str => decide ((y.length : Int) > 0)) (ts.getD i Str.empty))) (hSX (by simp)) ?tC ?fC
              case tC =>
                intro i ys v I oI C oC9 D m₂ h tk E' hin hP hC hx F N off ne
                obtain ⟨t, rfl⟩ := SetStr.strs_at hts i v (by simpa using hP)
                have hx20 := hget i
                walk_at "mine go2"
                exact TurnEnd.intro (by assumption) (by assumption) sub_refl rfl
              case fC =>
                intro us9 hul hus
                have hul' : us9.length = ts.length := by rw [← hlus]; simpa using hul
                have hbs2 : LSm.BoolsAre us9 (ts.map fun y : Str => decide ((y.length : Int) > 0)) := bools_of (fun y : Str => decide ((y.length : Int) > 0)) Str.empty hul' hus
                by_cases hq2 : Gap ts
                · have hall : (ts.map fun y : Str => decide ((y.length : Int) > 0)).all id = false := by
                    cases e : (ts.map fun y : Str => decide ((y.length : Int) > 0)).all id with
                    | false => rfl
                    | true => exact absurd hq2 (gap_all.mp e)
                  walk_at "mine go2"
                  rename Fr _ _ _ _ => F
                  rename News _ _ _ _ => N
                  exact AfterJ.intro F N [(D', oX), (s1.heap.objs.size + 1, oC)] (two_in (by simp) (by simp)) ⟨rfl, ⟨_, rfl⟩, ⟨_, rfl, .inr (.inl ⟨hal', hq2, _, rfl⟩)⟩, rfl⟩
                · have hall := gap_all.mpr hq2
                  have hpos := sum_pos (by rintro rfl; simp at h2) hq2
                  have hfin := ratio_fin h2 h4 hb5 hq2
                  walk_at "mine go2"
                  · exfalso
                    rename Float64.isInf _ = true => e9
                    rw [frac_form] at e9
                    unfold ratio at hfin
                    rw [hfin] at e9; cases e9
                  · rename Fr _ _ _ _ => F
                    rename News _ _ _ _ => N
                    rw [frac_form] at F
                    exact AfterJ.intro F N [(D', oX), (s1.heap.objs.size + 1, oC)] (two_in (by simp) (by simp)) ⟨rfl, ⟨_, rfl⟩, ⟨_, rfl, .inr (.inr ⟨hal', hq2, _, rfl⟩)⟩, rfl⟩
    case turn =>
      clear F N N2
      rintro I i v m₁ news₁ oI h tk hi hv ⟨e1, oX, oC, us, ts, rfl, dC, hRow, hts, hM, h5⟩ off hS F N
      replace F := Fr.name "many" _ F e1
      obtain ⟨z, hz⟩ : ∃ z, (List.take (min 21 ns.length - 1) (List.drop 1 ns))[i]? = some z := by
        refine ⟨_, List.getElem?_eq_getElem ?_⟩
        rw [← hI2.length]; simpa using hi
      obtain ⟨tz, htz⟩ := hI2.get i z hz
      have hv' : ws[i]? = some v := by simpa using hv
      rw [htz] at hv'
      obtain rfl := Option.some.inj hv'
      obtain ⟨K, hK, hKM⟩ := fmod_nat z (M := M) (by omega)
      have hlus := strs_len hts
      have hKu : K < us.length := by omega
      obtain ⟨t9, ht9⟩ := SetStr.strs_at hts K _ (List.getElem?_eq_getElem hKu)
      have hx9 : us[K]? = some (.str (ts.getD K Str.empty) t9) := by rw [List.getElem?_eq_getElem hKu, ht9]
      have hx5 := h5 _ (getD_mem (show K < ts.length by omega))
      obtain ⟨xx, hxx⟩ : ∃ xx, ts.getD K Str.empty = xx := ⟨_, rfl⟩
      rw [hxx] at hx9 hx5
      have hroom := room_le M h2 h4
      have hx20 : xx.length ≤ 1000 := by have := hx5.1; omega
      walk_at "mine go2"
      · rename Fr _ _ _ _ => F9
        rename News _ _ _ _ => N9
        have hit0 := Int.fmod_nonneg_of_pos (z.fdiv (M : Int)) (b := 4) (by decide)
        have hit4 := Int.fmod_lt_of_pos (z.fdiv (M : Int)) (b := 4) (by decide)
        refine set_M (n := K) F9 N9 (.tail _ (.tail _ (.tail _ (.head _)))) hRow hK hKu (by omega) [(I, oI), (Ds, W.listOf ws.toArray 0), (s1.heap.objs.size + 1, oC)] ?_ ?_
        · intro p hp
          simp only [List.mem_cons, List.not_mem_nil, or_false] at hp
          rcases hp with rfl | rfl | rfl
          · exact ⟨by simp, Ne.symm off.2.1⟩
          · exact ⟨by simp, Ne.symm qX⟩
          · exact ⟨by simp, qCX⟩
        · intro h9 o9 F9 N9 hr9
          walk_at "mine go2"
          refine TurnJ.intro F9 N9 [(Ds, W.listOf ws.toArray 0), (D', o9), (s1.heap.objs.size + 1, oC)] ?_ ⟨off.1, off.2.1, off.2.2.1, trivial⟩ (.inr ⟨_, .head _, rfl, _, rfl⟩)
            ⟨rfl, o9, oC, _, ts.set K (xx ++ Txt.item (Str.ofString "abac") ((z.fdiv ↑M).fmod 4)), rfl, dC, hr9, strs_set hts K _ _, by simp [hM], fun y hy => ?_⟩
          · intro p hp
            simp only [List.mem_cons, List.not_mem_nil, or_false] at hp ⊢
            rcases hp with rfl | rfl | rfl | rfl <;> simp
          · rcases mem_set hy with rfl | hy
            · exact ⟨by omega, ascii_append hx5.2 (abac_ascii _ hit0 hit4)⟩
            · exact h5 y hy
      · rename Fr _ _ _ _ => F9
        rename News _ _ _ _ => N9
        exact TurnJ.intro F9 N9 [(Ds, W.listOf ws.toArray 0), (D', oX), (s1.heap.objs.size + 1, oC)] (fun p hp => .tail _ hp) off hS ⟨rfl, oX, oC, us, ts, rfl, dC, hRow, hts, hM, h5⟩)

end Mine

end

open PySem PySem.W PyProof.Rows
theorem PySem.Challenge.cw_ah5039_01_holds : PySem.Challenge.rw_ah5039_01.Holds := by
  exact Mine.law_holds
