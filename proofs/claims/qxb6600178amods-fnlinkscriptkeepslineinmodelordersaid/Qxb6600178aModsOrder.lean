import Derived.Test.Qxb6600178aModsPuts
namespace Go.Proofs.Qxb6600178aMods
open Go.RowKit

theorem Trym.info27 : (Trym.prog.info? 27).map (fun i => (i.zero, i.size, i.bytes)) = some (some (.pointer none), 1, 8) := by kernel_rfl
theorem Trym.info3 : (Trym.prog.info? 3).map (fun i => (i.zero, i.size, i.bytes)) = some (some (.int .i64 0), 1, 8) := by kernel_rfl

theorem make29 (len : Nat) (h1 : len ≤ 4096) (w : World) :
    (Instr.makeSlice 29 (.int .i64 0) (.int .i64 len)).run Trym.prog w = .ok (.slice (some ⟨w.heap.size, 0, none⟩) 0 len) (w.alloc (.cells (madeCells (Value.pointer none).cells len) 27)) := by
  obtain ⟨i0, hi, hz0, hz1, hz2⟩ := info_parts Trym.info27
  have h := run_make (P := Trym.prog) w 29 27 i0 (.pointer none) Trym.underlying29 hi hz0 .i64 .i64 0 len (by omega) (by omega) (by rw [hz2]; omega) (by omega)
  rw [h, hz1]
  simp
theorem make30 (len : Nat) (h1 : len ≤ 4096) (w : World) :
    (Instr.makeSlice 30 (.int .i64 0) (.int .i64 len)).run Trym.prog w = .ok (.slice (some ⟨w.heap.size, 0, none⟩) 0 len) (w.alloc (.cells (madeCells (Value.int .i64 0).cells len) 3)) := by
  obtain ⟨i0, hi, hz0, hz1, hz2⟩ := info_parts Trym.info3
  have h := run_make (P := Trym.prog) w 30 3 i0 (.int .i64 0) Trym.underlying30 hi hz0 .i64 .i64 0 len (by omega) (by omega) (by rw [hz2]; omega) (by omega)
  rw [h, hz1]
  simp

/-- A place's index as a value. -/
def num (n : Nat) : Value := .int .i64 (n : Int)

/-- What the loop over the script holds besides: the places in the order of their making (block r + 1), the order (block r + 2). -/
structure St (w : World) (S : Nat) (c1 : Array Value) (r : Nat) (xs : List Nat) (lab : Nat → Int) (len : Nat) (ps : List Nat) (n : Nat) (L : List Nat) (wr : World) : Prop where
  sc : Script w S c1 r xs lab wr
  pl : wr.ownsRow (S + 1) 27 1 (.slice (some ⟨r + 1, 0, none⟩) ps.length len) ps.length (ps.map ptr)
  od : wr.ownsRow (S + 1) 3 1 (.slice (some ⟨r + 2, 0, none⟩) n len) n (L.map num)
  far : ∀ b ∈ xs, r + 2 < b
  hr : r = S + 1

theorem owned_lt {w : World} {base e n g cap : Nat} {xs : List Value} (h : w.ownsRow base e 1 (.slice (some ⟨g, 0, none⟩) n cap) n xs) : g < w.heap.size := (h.lt g rfl).2

theorem St.lt2 {w : World} {S : Nat} {c1 : Array Value} {r : Nat} {xs : List Nat} {lab : Nat → Int} {len : Nat} {ps : List Nat} {n : Nat} {L : List Nat} {wr : World} (h : St w S c1 r xs lab len ps n L wr) : r + 2 < wr.heap.size := owned_lt h.od

theorem St.len {w : World} {S : Nat} {c1 : Array Value} {r : Nat} {xs : List Nat} {lab : Nat → Int} {len : Nat} {ps : List Nat} {n : Nat} {L : List Nat} {wr : World} (h : St w S c1 r xs lab len ps n L wr) : L.length = n := by
  have := h.od.1
  simpa using this

/-- The cells of the two slices. -/
theorem St.plAt {w : World} {S : Nat} {c1 : Array Value} {r : Nat} {xs : List Nat} {lab : Nat → Int} {len : Nat} {ps : List Nat} {n : Nat} {L : List Nat} {wr : World} (h : St w S c1 r xs lab len ps n L wr) {j : Nat} (hj : j < ps.length) : wr.cell? ⟨r + 1, j, none⟩ = some (.pointer (some ⟨ps.getD j 0, 0, none⟩)) := by
  rw [h.pl.cellAt j (by omega), List.getElem?_map]
  simp [hj, ptr]
theorem St.odAt {w : World} {S : Nat} {c1 : Array Value} {r : Nat} {xs : List Nat} {lab : Nat → Int} {len : Nat} {ps : List Nat} {n : Nat} {L : List Nat} {wr : World} (h : St w S c1 r xs lab len ps n L wr) {j : Nat} (hj : j < n) : wr.cell? ⟨r + 2, j, none⟩ = some (.int .i64 (L.getD j 0 : Nat)) := by
  have hl := h.len
  rw [h.od.cellAt j (by omega), List.getElem?_map]
  simp [show j < L.length by omega, num]

/-- T3: a store into the order. -/
theorem St.store {w : World} {S : Nat} {c1 : Array Value} {r : Nat} {xs : List Nat} {lab : Nat → Int} {len : Nat} {ps : List Nat} {n : Nat} {L : List Nat} {wr : World} (h : St w S c1 r xs lab len ps n L wr) (j v : Nat) :
    St w S c1 r xs lab len ps n (L.set j v) (wr.setCell ⟨r + 2, j, none⟩ (.int .i64 (v : Int))) := by
  obtain ⟨h1, h2⟩ := h.od.stored j (num v)
  have hk : ∀ b, b ≠ r + 2 → (wr.setCell ⟨r + 2, j, none⟩ (.int .i64 (v : Int))).heap[b]? = wr.heap[b]? := fun b hb => Below.heap_setCell _ _ _ _ hb
  have hr := h.hr
  refine ⟨⟨h.sc.ring.kept (fun b hb => hk b ?_), h.sc.rise, ?_, ?_, h.sc.own, h.sc.base⟩, ?_, ?_, h.far, h.hr⟩
  · rcases List.mem_cons.1 hb with rfl | hb
    · omega
    · have := h.far b hb; omega
  · rw [hk S (by omega)]; exact h.sc.row
  · exact h.sc.bel.setCell (p := ⟨r + 2, j, none⟩) (by have := h.sc.base; show w.heap.size ≤ r + 2; omega) _
  · exact h.pl.kept h2 (.inr (by simp [Value.ownBlock]))
  · rw [List.map_set]; exact h1

/-- T2: an append to the order. -/
theorem St.push {w : World} {S : Nat} {c1 : Array Value} {r : Nat} {xs : List Nat} {lab : Nat → Int} {len : Nat} {ps : List Nat} {n : Nat} {L : List Nat} {wr w2 : World} {o : Obj} {v : Nat} (h : St w S c1 r xs lab len ps n L wr)
    (h1 : w2.ownsRow (S + 1) 3 1 (.slice (some ⟨r + 2, 0, none⟩) (n + 1) len) (n + 1) (L.map num ++ [num v])) (h2 : (wr.alloc o).grownBy w2 (some (r + 2))) :
    St w S c1 r xs lab len ps (n + 1) (L ++ [v]) w2 := by
  have hr := h.hr
  have hk : ∀ b, b < wr.heap.size → b ≠ r + 2 → w2.heap[b]? = wr.heap[b]? := fun b hb hne => by
    rw [h2.block b (by simp; omega) (by simp; omega), Below.heap_alloc _ _ _ hb]
  refine ⟨⟨h.sc.ring.kept (fun b hb => hk b (h.sc.ring.lt hb) ?_), h.sc.rise, ?_, ?_, h.sc.own, h.sc.base⟩, ?_, ?_, h.far, h.hr⟩
  · rcases List.mem_cons.1 hb with rfl | hb
    · omega
    · have := h.far b hb; omega
  · rw [hk S (Array.getElem?_eq_some_iff.1 h.sc.row).1 (by omega)]; exact h.sc.row
  · exact (h.sc.bel.alloc h.sc.bel.size o).grown h2 (by have := h.sc.bel.size; simp; omega) (fun k hk => by cases hk; have := h.sc.base; omega)
  · exact (h.pl.alloc o).kept h2 (.inr (by simp [Value.ownBlock]))
  · rw [List.map_append]; exact h1

/-- T1: the new place, the append to pl, the link. -/
theorem St.grow {w : World} {S : Nat} {c1 : Array Value} {r : Nat} {xs : List Nat} {lab lab' : Nat → Int} {len : Nat} {ps : List Nat} {n : Nat} {L : List Nat} {wr w2 w3 : World} {o1 o2 : Obj} {m : Nat} (h : St w S c1 r xs lab len ps n L wr) (hm : m ≤ xs.length)
    (h1 : w2.ownsRow (S + 1) 27 1 (.slice (some ⟨r + 1, 0, none⟩) (ps.length + 1) len) (ps.length + 1) (ps.map ptr ++ [ptr wr.heap.size])) (h2 : ((wr.alloc o1).alloc o2).grownBy w2 (some (r + 1)))
    (p1 : PRing w3 r (ins xs m wr.heap.size) lab') (p2 : Rising lab' (xs.length + 1)) (p3 : Only (r :: ins xs m wr.heap.size) w2 w3) :
    St w S c1 r (ins xs m wr.heap.size) lab' len (ps ++ [wr.heap.size]) n L w3 := by
  have hr := h.hr
  have hlt := h.lt2
  have hS : S < wr.heap.size := (Array.getElem?_eq_some_iff.1 h.sc.row).1
  have hout : ∀ b, b < wr.heap.size → b ∉ r :: xs → b ∉ r :: ins xs m wr.heap.size := fun b hb hn hm => by
    rcases List.mem_cons.1 hm with rfl | hm
    · exact hn (by simp)
    · rcases ins_mem.1 hm with rfl | hm
      · omega
      · exact hn (List.mem_cons_of_mem _ hm)
  have hP : r + 1 ∉ r :: xs := fun hm => by
    rcases List.mem_cons.1 hm with e | hm
    · omega
    · have := h.far _ hm; omega
  have hQ : r + 2 ∉ r :: xs := fun hm => by
    rcases List.mem_cons.1 hm with e | hm
    · omega
    · have := h.far _ hm; omega
  have hSn : S ∉ r :: xs := fun hm => Nat.lt_irrefl _ (h.sc.own S hm)
  have hown : ∀ b ∈ r :: ins xs m wr.heap.size, S < b := by
    intro b hb
    rcases List.mem_cons.1 hb with rfl | hb
    · exact h.sc.own _ (by simp)
    · rcases ins_mem.1 hb with rfl | hb
      · exact hS
      · exact h.sc.own _ (List.mem_cons_of_mem _ hb)
  have keep : ∀ b, b < wr.heap.size → b ∉ r :: xs → b ≠ r + 1 → w3.heap[b]? = wr.heap[b]? := fun b hb hn hne => by
    rw [p3.block b (hout b hb hn), h2.block b (by simp; omega) (by simp; omega), Below.heap_alloc _ _ _ (by simp; omega), Below.heap_alloc _ _ _ hb]
  refine ⟨⟨p1, by rw [ins_length xs m _ hm]; exact p2, ?_, ?_, hown, h.sc.base⟩, ?_, ?_, ?_, h.hr⟩
  · rw [keep S hS hSn (by omega)]; exact h.sc.row
  · refine Below.trans ?_ (p3.below (B := w.heap.size) (fun y hy => by have := hown y hy; have := h.sc.base; omega))
    exact ((h.sc.bel.alloc h.sc.bel.size o1).alloc (by have := h.sc.bel.size; simp; omega) o2).grown h2 (by have := h.sc.bel.size; simp; omega) (fun k hk => by cases hk; have := h.sc.base; omega)
  · rw [List.length_append, List.map_append]
    rcases h1.2 with ⟨e, _⟩ | ⟨g, cap, cur, e, e1, e2, e3⟩
    · simp at e
    · refine ⟨h1.1, .inr ⟨g, cap, cur, e, e1, ?_, e3⟩⟩
      simp only [Value.slice.injEq, Option.some.injEq, Addr.mk.injEq, and_true, true_and] at e
      obtain ⟨rfl, _⟩ := e
      rw [p3.block _ (hout _ (by omega) hP)]
      exact e2
  · rcases h.od.2 with ⟨e, _⟩ | ⟨g, cap, cur, e, e1, e2, e3⟩
    · simp at e
    · refine ⟨h.od.1, .inr ⟨g, cap, cur, e, e1, ?_, e3⟩⟩
      simp only [Value.slice.injEq, Option.some.injEq, Addr.mk.injEq, and_true, true_and] at e
      obtain ⟨rfl, _⟩ := e
      rw [keep _ (by omega) hQ (by omega)]
      exact e2
  · intro b hb
    rcases ins_mem.1 hb with rfl | hb
    · exact hlt
    · exact h.far b hb

/-- The line, the places in the order of their making, the order: they fit together. -/
structure Tied (xs ps os : List Nat) : Prop where
  lp : ps.length = xs.length
  lo : os.length = xs.length
  fit : ∀ j, j < xs.length → os.getD j 0 < xs.length ∧ xs.getD j 0 = ps.getD (os.getD j 0) 0

theorem tied_step {xs ps os L : List Nat} {M pb : Nat} (h : Tied xs ps os) (hM : M ≤ xs.length) (hl : L.length = xs.length + 1)
    (hL : ∀ i, i ≤ xs.length → L.getD i 0 = if i < M then os.getD i 0 else if i = M then xs.length else os.getD (i - 1) 0) : Tied (ins xs M pb) (ps ++ [pb]) L := by
  refine ⟨by rw [ins_length xs M pb hM, List.length_append, h.lp]; rfl, by rw [ins_length xs M pb hM, hl], fun j hj => ?_⟩
  rw [ins_length xs M pb hM] at hj ⊢
  rw [hL j (by omega), ins_getD xs M pb j 0 hM]
  have old : ∀ i, i < xs.length → os.getD i 0 < xs.length + 1 ∧ xs.getD i 0 = (ps ++ [pb]).getD (os.getD i 0) 0 := fun i hi => by
    obtain ⟨a, b⟩ := h.fit i hi
    refine ⟨by omega, ?_⟩
    rw [b]
    simp only [List.getD_eq_getElem?_getD]
    rw [List.getElem?_append_left (by rw [h.lp]; simpa using a)]
  by_cases h1 : j < M
  · rw [if_pos h1, if_pos h1]
    exact old j (by omega)
  · rw [if_neg h1, if_neg h1]
    by_cases h2 : j = M
    · rw [if_pos h2, if_pos h2]
      refine ⟨by omega, ?_⟩
      simp only [List.getD_eq_getElem?_getD]
      rw [← h.lp, List.getElem?_append_right (Nat.le_refl _)]
      simp
    · rw [if_neg h2, if_neg h2]
      exact old (j - 1) (by omega)

/-- The order while it is being shifted: from t + 1 on it stands one further. -/
structure Shift (os : List Nat) (k t : Nat) (L : List Nat) : Prop where
  len : L.length = k + 1
  low : ∀ i, i ≤ t → i < k → L.getD i 0 = os.getD i 0
  high : ∀ i, t < i → i ≤ k → L.getD i 0 = os.getD (i - 1) 0

theorem shift_start (os : List Nat) (k : Nat) (h : os.length = k) (v : Nat) : Shift os k k (os ++ [v]) := by
  refine ⟨by simp [h], fun i _ hi => ?_, fun i h1 h2 => by omega⟩
  simp only [List.getD_eq_getElem?_getD]
  rw [List.getElem?_append_left (by omega)]

theorem getD_set (L : List Nat) (t v i : Nat) (ht : t < L.length) : (L.set t v).getD i 0 = if i = t then v else L.getD i 0 := by
  simp only [List.getD_eq_getElem?_getD]
  rw [List.getElem?_set]
  by_cases e : i = t
  · subst e
    rw [if_pos rfl, if_pos ht, if_pos rfl]
    rfl
  · rw [if_neg (fun h => e h.symm), if_neg e]

theorem shift_step {os L : List Nat} {k u : Nat} (h : Shift os k (u + 1) L) (hu : u + 1 ≤ k) : Shift os k u (L.set (u + 1) (L.getD u 0)) := by
  refine ⟨by simpa using h.len, fun i h1 h2 => ?_, fun i h1 h2 => ?_⟩
  · rw [getD_set _ _ _ _ (by rw [h.len]; omega), if_neg (by omega)]
    exact h.low i (by omega) h2
  · rw [getD_set _ _ _ _ (by rw [h.len]; omega)]
    by_cases e : i = u + 1
    · rw [if_pos e, h.low u (by omega) (by omega), e]
      rfl
    · rw [if_neg e]
      exact h.high i (by omega) h2

theorem shift_end {os L : List Nat} {k M : Nat} (h : Shift os k M L) (hM : M ≤ k) : (L.set M k).length = k + 1 ∧ ∀ i, i ≤ k → (L.set M k).getD i 0 = if i < M then os.getD i 0 else if i = M then k else os.getD (i - 1) 0 := by
  refine ⟨by simpa using h.len, fun i hi => ?_⟩
  rw [getD_set _ _ _ _ (by rw [h.len]; omega)]
  by_cases e : i = M
  · rw [if_pos e, if_neg (by omega), if_pos e]
  · rw [if_neg e]
    by_cases h1 : i < M
    · rw [if_pos h1]; exact h.low i (by omega) (by omega)
    · rw [if_neg h1, if_neg e]; exact h.high i (by omega) hi
end Go.Proofs.Qxb6600178aMods
