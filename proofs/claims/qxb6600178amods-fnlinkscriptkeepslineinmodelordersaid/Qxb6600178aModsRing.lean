import Derived.Test.Qxb6600178aModsBase
namespace Go.Proofs.Qxb6600178aMods
open Go.RowKit

/-- The block at index i of the ring: the head at 0, the places at 1 .. n, the head again behind them. -/
def nd (r : Nat) (xs : List Nat) (i : Nat) : Nat := if i = 0 then r else xs.getD (i - 1) r
def prv (n i : Nat) : Nat := if i = 0 then n else i - 1
def nodeObj (r b : Nat) (l : Int) (p n : Nat) : Obj := if b = r then .cells (headCells l p n) 43 (0, 0) else .cells (placeCells l p n) 40 (0, 0)

/-- The ring of the head r and the places xs, its labels lab (by index). -/
structure PRing (w : World) (r : Nat) (xs : List Nat) (lab : Nat → Int) : Prop where
  nodup : (r :: xs).Nodup
  node : ∀ i, i ≤ xs.length → w.heap[nd r xs i]? = some (nodeObj r (nd r xs i) (lab i) (nd r xs (prv xs.length i)) (nd r xs (i + 1)))

/-- The labels rise from 0 to the bound. -/
structure Rising (lab : Nat → Int) (n : Nat) : Prop where
  zero : lab 0 = 0
  top : lab (n + 1) = 9223372036854775808
  rise : ∀ i, i ≤ n → lab i < lab (i + 1)

theorem nd_zero (r : Nat) (xs : List Nat) : nd r xs 0 = r := rfl
theorem nd_top (r : Nat) (xs : List Nat) : nd r xs (xs.length + 1) = r := by simp [nd]
theorem nd_mem (r : Nat) (xs : List Nat) (i : Nat) : nd r xs i ∈ r :: xs := by
  unfold nd
  split
  · simp
  · by_cases h : i - 1 < xs.length
    · rw [List.getD_eq_getElem?_getD, List.getElem?_eq_getElem h]
      simp
    · rw [List.getD_eq_getElem?_getD, List.getElem?_eq_none (by omega)]
      simp
theorem nd_eq (r : Nat) (xs : List Nat) (i : Nat) (h : i ≤ xs.length) : nd r xs i = (r :: xs)[i]'(by simp; omega) := by
  unfold nd
  cases i with
  | zero => simp
  | succ i => simp [show i < xs.length by omega]
theorem nd_inj {r : Nat} {xs : List Nat} (hn : (r :: xs).Nodup) {i j : Nat} (hi : i ≤ xs.length) (hj : j ≤ xs.length) (h : nd r xs i = nd r xs j) : i = j := by
  rw [nd_eq r xs i hi, nd_eq r xs j hj] at h
  exact (List.getElem_inj hn).1 h
theorem nd_head {r : Nat} {xs : List Nat} (hn : (r :: xs).Nodup) {i : Nat} (h0 : 0 < i) (hi : i ≤ xs.length) : nd r xs i ≠ r := fun e => by
  have := nd_inj hn hi (Nat.zero_le _) (e.trans (nd_zero r xs).symm)
  omega
theorem nd_index {r : Nat} {xs : List Nat} {b : Nat} (h : b ∈ r :: xs) : ∃ i, i ≤ xs.length ∧ b = nd r xs i := by
  obtain ⟨i, hi, e⟩ := List.getElem_of_mem h
  refine ⟨i, by simpa using Nat.le_of_lt_succ hi, ?_⟩
  rw [nd_eq r xs i (by simpa using Nat.le_of_lt_succ hi), e]

theorem node_cells {w : World} {r b p n : Nat} {l : Int} (h : w.heap[b]? = some (nodeObj r b l p n)) :
    Cells w b ∧ w.cell? ⟨b, 0, none⟩ = some (.int .u64 l) ∧ w.cell? ⟨b, 1, none⟩ = some (ptr p) ∧ w.cell? ⟨b, 2, none⟩ = some (ptr n) ∧ ∀ i, w.frozen? ⟨b, i, none⟩ = false := by
  unfold nodeObj at h
  split at h
  · exact ⟨⟨_, _, h⟩, cell_of_row w b 0 _ 43 (0, 0) h, cell_of_row w b 1 _ 43 (0, 0) h, cell_of_row w b 2 _ 43 (0, 0) h, fun i => frozen_of_row w b i _ 43 h⟩
  · exact ⟨⟨_, _, h⟩, cell_of_row w b 0 _ 40 (0, 0) h, cell_of_row w b 1 _ 40 (0, 0) h, cell_of_row w b 2 _ 40 (0, 0) h, fun i => frozen_of_row w b i _ 40 h⟩

theorem node_set0 {w : World} {r b p n : Nat} {l : Int} (h : w.heap[b]? = some (nodeObj r b l p n)) (l' : Int) : (w.setCell ⟨b, 0, none⟩ (.int .u64 l')).heap[b]? = some (nodeObj r b l' p n) := by
  unfold nodeObj at h ⊢
  split at h
  · rw [if_pos ‹_›, heap_setCell_same w b 0 _ 43 _ h]; simp [headCells]
  · rw [if_neg ‹_›, heap_setCell_same w b 0 _ 40 _ h]; simp [placeCells]
theorem node_set1 {w : World} {r b p n : Nat} {l : Int} (h : w.heap[b]? = some (nodeObj r b l p n)) (p' : Nat) : (w.setCell ⟨b, 1, none⟩ (ptr p')).heap[b]? = some (nodeObj r b l p' n) := by
  unfold nodeObj at h ⊢
  split at h
  · rw [if_pos ‹_›, heap_setCell_same w b 1 _ 43 _ h]; simp [headCells]
  · rw [if_neg ‹_›, heap_setCell_same w b 1 _ 40 _ h]; simp [placeCells]
theorem node_set2 {w : World} {r b p n : Nat} {l : Int} (h : w.heap[b]? = some (nodeObj r b l p n)) (n' : Nat) : (w.setCell ⟨b, 2, none⟩ (ptr n')).heap[b]? = some (nodeObj r b l p n') := by
  unfold nodeObj at h ⊢
  split at h
  · rw [if_pos ‹_›, heap_setCell_same w b 2 _ 43 _ h]; simp [headCells]
  · rw [if_neg ‹_›, heap_setCell_same w b 2 _ 40 _ h]; simp [placeCells]

/-- The same blocks: the same ring. -/
theorem PRing.kept {w w' : World} {r : Nat} {xs : List Nat} {lab : Nat → Int} (h : PRing w r xs lab) (hk : ∀ b ∈ r :: xs, w'.heap[b]? = w.heap[b]?) : PRing w' r xs lab :=
  ⟨h.nodup, fun i hi => (hk _ (nd_mem r xs i)).trans (h.node i hi)⟩
theorem PRing.drewN {w : World} {r : Nat} {xs : List Nat} {lab : Nat → Int} (h : PRing w r xs lab) (n : Nat) : PRing (w.drewN n) r xs lab := h.kept (fun _ _ => rfl)
theorem PRing.congr {w : World} {r : Nat} {xs : List Nat} {lab lab' : Nat → Int} (h : PRing w r xs lab) (e : ∀ i, i ≤ xs.length → lab' i = lab i) : PRing w r xs lab' :=
  ⟨h.nodup, fun i hi => by rw [e i hi]; exact h.node i hi⟩
theorem PRing.lt {w : World} {r : Nat} {xs : List Nat} {lab : Nat → Int} (h : PRing w r xs lab) {b : Nat} (hb : b ∈ r :: xs) : b < w.heap.size := by
  obtain ⟨i, hi, rfl⟩ := nd_index hb
  exact (Array.getElem?_eq_some_iff.1 (h.node i hi)).1

/-- A label is written. -/
theorem PRing.setLabel {w : World} {r : Nat} {xs : List Nat} {lab : Nat → Int} (h : PRing w r xs lab) {i : Nat} (hi : i ≤ xs.length) (l : Int) :
    PRing (w.setCell ⟨nd r xs i, 0, none⟩ (.int .u64 l)) r xs (fun j => if j = i then l else lab j) := by
  refine ⟨h.nodup, fun j hj => ?_⟩
  by_cases e : j = i
  · subst e
    simp only [if_pos trivial]
    exact node_set0 (h.node j hj) l
  · simp only [if_neg e]
    rw [Below.heap_setCell _ _ _ _ (fun e2 => e (nd_inj h.nodup hj hi e2))]
    exact h.node j hj

/-- Only blocks of ys have turned. -/
structure Only (ys : List Nat) (w w' : World) : Prop where
  os : w'.os = w.os
  tape : w'.tape = w.tape
  output : w'.output = w.output
  size : w'.heap.size = w.heap.size
  block : ∀ k, k ∉ ys → w'.heap[k]? = w.heap[k]?

theorem Only.refl (ys : List Nat) (w : World) : Only ys w w := ⟨rfl, rfl, rfl, rfl, fun _ _ => rfl⟩
theorem Only.trans {ys : List Nat} {a b c : World} (h : Only ys a b) (k : Only ys b c) : Only ys a c := ⟨k.os.trans h.os, k.tape.trans h.tape, k.output.trans h.output, k.size.trans h.size, fun i hi => (k.block i hi).trans (h.block i hi)⟩
theorem Only.drewN {ys : List Nat} {a b : World} (h : Only ys a b) (n : Nat) : Only ys a (b.drewN n) := h.trans ⟨rfl, rfl, rfl, rfl, fun _ _ => rfl⟩
theorem Only.setCell {ys : List Nat} {a b : World} (h : Only ys a b) {p : Addr} (hp : p.block ∈ ys) (u : Value) : Only ys a (b.setCell p u) :=
  h.trans ⟨rfl, rfl, rfl, by simp, fun k hk => Below.heap_setCell _ _ _ _ (fun e => hk (e ▸ hp))⟩
theorem Only.below {ys : List Nat} {a b : World} (h : Only ys a b) {B : Nat} (hB : ∀ y ∈ ys, B ≤ y) : Below B a b := ⟨h.os, h.tape, h.output, Nat.le_of_eq h.size.symm, fun k hk => h.block k (fun hm => by have := hB k hm; omega)⟩
end Go.Proofs.Qxb6600178aMods
