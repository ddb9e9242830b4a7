import Derived.Test.Qxb6600178aModsSpread
namespace Go.Proofs.Qxb6600178aMods
open Go.RowKit

/-- The places with pb put in at place m. -/
def ins (xs : List Nat) (m pb : Nat) : List Nat := xs.take m ++ pb :: xs.drop m

theorem ins_length (xs : List Nat) (m pb : Nat) (h : m ≤ xs.length) : (ins xs m pb).length = xs.length + 1 := by simp [ins]; omega

theorem ins_getD (xs : List Nat) (m pb j r : Nat) (h : m ≤ xs.length) : (ins xs m pb).getD j r = if j < m then xs.getD j r else if j = m then pb else xs.getD (j - 1) r := by
  unfold ins
  simp only [List.getD_eq_getElem?_getD]
  by_cases h1 : j < m
  · rw [if_pos h1, List.getElem?_append_left (by simp; omega), List.getElem?_take, if_pos h1]
  · rw [if_neg h1, List.getElem?_append_right (by simp; omega)]
    have e : (xs.take m).length = m := by simp; omega
    rw [e]
    by_cases h2 : j = m
    · rw [if_pos h2, h2]
      simp
    · rw [if_neg h2]
      obtain ⟨d, rfl⟩ : ∃ d, j = m + 1 + d := ⟨j - m - 1, by omega⟩
      have e2 : m + 1 + d - m = d + 1 := by omega
      have e3 : m + 1 + d - 1 = m + d := by omega
      rw [e2, e3, List.getElem?_cons_succ, List.getElem?_drop]

theorem nd_ins (r : Nat) (xs : List Nat) (m pb i : Nat) (h : m ≤ xs.length) : nd r (ins xs m pb) i = if i ≤ m then nd r xs i else if i = m + 1 then pb else nd r xs (i - 1) := by
  unfold nd
  cases i with
  | zero => simp
  | succ j =>
    simp only [Nat.add_one_ne_zero, if_false, Nat.add_sub_cancel]
    rw [ins_getD xs m pb j r h]
    by_cases h1 : j < m
    · rw [if_pos h1, if_pos (show j + 1 ≤ m from h1)]
    · rw [if_neg h1, if_neg (show ¬ j + 1 ≤ m from h1)]
      by_cases h2 : j = m
      · rw [if_pos h2, if_pos (show j + 1 = m + 1 by omega)]
      · rw [if_neg h2, if_neg (show ¬ j + 1 = m + 1 by omega), if_neg (show ¬ j = 0 by omega)]

theorem ins_mem {xs : List Nat} {m pb b : Nat} : b ∈ ins xs m pb ↔ b = pb ∨ b ∈ xs := by
  have e : b ∈ xs ↔ b ∈ xs.take m ∨ b ∈ xs.drop m := by
    rw [← List.mem_append, List.take_append_drop]
  unfold ins
  rw [List.mem_append, List.mem_cons, e]
  constructor
  · rintro (h | h | h)
    · exact .inr (.inl h)
    · exact .inl h
    · exact .inr (.inr h)
  · rintro (h | h | h)
    · exact .inr (.inl h)
    · exact .inl h
    · exact .inr (.inr h)

theorem ins_nodup {r : Nat} {xs : List Nat} {m pb : Nat} (h : (r :: xs).Nodup) (hp : pb ∉ r :: xs) : (r :: ins xs m pb).Nodup := by
  have e : (r :: ins xs m pb).Perm (pb :: r :: xs) := by
    unfold ins
    have h1 : (xs.take m ++ pb :: xs.drop m).Perm (pb :: (xs.take m ++ xs.drop m)) := List.perm_middle
    rw [List.take_append_drop] at h1
    exact (h1.cons r).trans (List.Perm.swap _ _ _)
  exact e.nodup_iff.2 (List.nodup_cons.2 ⟨hp, h⟩)

/-- The labels with a nought put in at place m + 1. -/
def insLab (lab : Nat → Int) (m i : Nat) : Int := if i ≤ m then lab i else if i = m + 1 then 0 else lab (i - 1)

/-- The world behind link's four stores. -/
def linked (w : World) (pb A B : Nat) : World :=
  (((w.setCell ⟨pb, 1, none⟩ (ptr B)).setCell ⟨pb, 2, none⟩ (ptr A)).setCell ⟨B, 2, none⟩ (ptr pb)).setCell ⟨A, 1, none⟩ (ptr pb)

/-- An old node behind the four stores. -/
theorem linked_old {w : World} {r pb A B b p n : Nat} {l : Int} (h : w.heap[b]? = some (nodeObj r b l p n)) (hb : b ≠ pb) :
    (linked w pb A B).heap[b]? = some (nodeObj r b l (if b = A then pb else p) (if b = B then pb else n)) := by
  have h2 : ((w.setCell ⟨pb, 1, none⟩ (ptr B)).setCell ⟨pb, 2, none⟩ (ptr A)).heap[b]? = some (nodeObj r b l p n) := by
    rw [Below.heap_setCell _ _ _ _ hb, Below.heap_setCell _ _ _ _ hb]
    exact h
  have h3 : (((w.setCell ⟨pb, 1, none⟩ (ptr B)).setCell ⟨pb, 2, none⟩ (ptr A)).setCell ⟨B, 2, none⟩ (ptr pb)).heap[b]? = some (nodeObj r b l p (if b = B then pb else n)) := by
    by_cases e : b = B
    · subst e
      rw [if_pos rfl]
      exact node_set2 h2 pb
    · rw [if_neg e, Below.heap_setCell _ _ _ _ e]
      exact h2
  unfold linked
  by_cases e : b = A
  · subst e
    rw [if_pos rfl]
    exact node_set1 h3 pb
  · rw [if_neg e, Below.heap_setCell _ _ _ _ e]
    exact h3

theorem linked_new {w : World} {r pb A B : Nat} (hn : w.heap[pb]? = some (.cells #[.int .u64 0, .pointer none, .pointer none, .string ByteArray.empty, .bool false] 40 (0, 0))) (hA : pb ≠ A) (hB : pb ≠ B) (hr : pb ≠ r) :
    (linked w pb A B).heap[pb]? = some (nodeObj r pb 0 B A) := by
  unfold linked
  rw [Below.heap_setCell _ _ _ _ hA, Below.heap_setCell _ _ _ _ hB]
  have h1 := heap_setCell_same w pb 1 _ 40 (ptr B) hn
  have h2 := heap_setCell_same _ pb 2 _ 40 (ptr A) h1
  rw [h2]
  simp [nodeObj, hr, placeCells]

theorem linked_ring {w : World} {r : Nat} {xs : List Nat} {lab : Nat → Int} {m pb : Nat} (h : PRing w r xs lab) (hm : m ≤ xs.length) (hp : pb ∉ r :: xs)
    (hn : w.heap[pb]? = some (.cells #[.int .u64 0, .pointer none, .pointer none, .string ByteArray.empty, .bool false] 40 (0, 0))) :
    PRing (linked w pb (nd r xs (m + 1)) (nd r xs m)) r (ins xs m pb) (insLab lab m) ∧ Only (r :: ins xs m pb) w (linked w pb (nd r xs (m + 1)) (nd r xs m)) := by
  have hne : ∀ i, pb ≠ nd r xs i := fun i e => hp (e ▸ nd_mem r xs i)
  have hrp : pb ≠ r := fun e => hp (by rw [e]; simp)
  have hmem : ∀ i, nd r xs i ∈ r :: ins xs m pb := fun i => by
    rcases List.mem_cons.1 (nd_mem r xs i) with e | e
    · rw [e]; simp
    · exact List.mem_cons_of_mem _ (ins_mem.2 (.inr e))
  have hpm : pb ∈ r :: ins xs m pb := List.mem_cons_of_mem _ (ins_mem.2 (.inl rfl))
  refine ⟨⟨ins_nodup h.nodup hp, fun i hi => ?_⟩, ?_⟩
  · rw [ins_length xs m pb hm] at hi ⊢
    by_cases h1 : i = m + 1
    · subst h1
      have e0 : nd r (ins xs m pb) (m + 1) = pb := by rw [nd_ins r xs m pb _ hm, if_neg (by omega), if_pos rfl]
      have e1 : nd r (ins xs m pb) (prv (xs.length + 1) (m + 1)) = nd r xs m := by
        rw [prv, if_neg (by omega), nd_ins r xs m pb _ hm, if_pos (by omega)]
        congr 1
      have e2 : nd r (ins xs m pb) (m + 1 + 1) = nd r xs (m + 1) := by
        rw [nd_ins r xs m pb _ hm, if_neg (by omega), if_neg (by omega)]
        congr 1
      have e3 : insLab lab m (m + 1) = 0 := by rw [insLab, if_neg (by omega), if_pos rfl]
      rw [e0, e1, e2, e3]
      exact linked_new hn (hne _) (hne _) hrp
    · obtain ⟨j, hj, ej⟩ : ∃ j, j ≤ xs.length ∧ ((i ≤ m ∧ j = i) ∨ (m + 1 < i ∧ j + 1 = i)) := by
        by_cases h2 : i ≤ m
        · exact ⟨i, by omega, .inl ⟨h2, rfl⟩⟩
        · exact ⟨i - 1, by omega, .inr ⟨by omega, by omega⟩⟩
      have e0 : nd r (ins xs m pb) i = nd r xs j := by
        rw [nd_ins r xs m pb _ hm]
        rcases ej with ⟨a, b⟩ | ⟨a, b⟩
        · rw [if_pos a, b]
        · rw [if_neg (by omega), if_neg (by omega)]
          congr 1
          omega
      have e3 : insLab lab m i = lab j := by
        rw [insLab]
        rcases ej with ⟨a, b⟩ | ⟨a, b⟩
        · rw [if_pos a, b]
        · rw [if_neg (by omega), if_neg (by omega)]
          congr 1
          omega
      have e2 : nd r (ins xs m pb) (i + 1) = if nd r xs j = nd r xs m then pb else nd r xs (j + 1) := by
        by_cases c : j = m
        · rw [if_pos (by rw [c]), nd_ins r xs m pb _ hm, if_neg (by omega), if_pos (by omega)]
        · rw [if_neg (fun e => c (nd_inj h.nodup hj hm e)), nd_ins r xs m pb _ hm]
          rcases ej with ⟨a, b⟩ | ⟨a, b⟩
          · rw [if_pos (by omega), b]
          · rw [if_neg (by omega), if_neg (by omega)]
            congr 1
            omega
      have e1 : nd r (ins xs m pb) (prv (xs.length + 1) i) = if nd r xs j = nd r xs (m + 1) then pb else nd r xs (prv xs.length j) := by
        by_cases hmn : m = xs.length
        · subst hmn
          rw [nd_top]
          by_cases c : j = 0
          · subst c
            rw [nd_zero, if_pos rfl]
            have ei : i = 0 := by omega
            subst ei
            rw [prv, if_pos rfl, nd_ins r xs _ pb _ hm, if_neg (by omega), if_pos rfl]
          · rw [if_neg (nd_head h.nodup (by omega) hj)]
            rw [prv, if_neg (by omega), nd_ins r xs _ pb _ hm, if_pos (by omega), prv, if_neg c]
            congr 1
            omega
        · by_cases c : j = m + 1
          · rw [if_pos (by rw [c]), prv, if_neg (by omega), nd_ins r xs m pb _ hm, if_neg (by omega), if_pos (by omega)]
          · rw [if_neg (fun e => c (nd_inj h.nodup hj (by omega) e)), nd_ins r xs m pb _ hm]
            unfold prv
            by_cases c0 : j = 0
            · have ei : i = 0 := by omega
              rw [if_pos ei, if_pos c0, if_neg (by omega), if_neg (by omega)]
              congr 1
            · rw [if_neg (show ¬ i = 0 by omega), if_neg c0]
              rcases ej with ⟨a, b⟩ | ⟨a, b⟩
              · rw [if_pos (by omega), b]
              · rw [if_neg (by omega), if_neg (by omega)]
                congr 1
                omega
      rw [e0, e1, e2, e3]
      exact linked_old (h.node j hj) (hne j).symm
  · unfold linked
    exact ((((Only.refl _ _).setCell hpm _).setCell hpm _).setCell (hmem m) _).setCell (hmem (m + 1)) _
end Go.Proofs.Qxb6600178aMods
