import Derived.Test.Qxb6604996aModsClone
namespace Go.Proofs.Qxb6604996aMods
open Go.RowKit

/-- The eight cells of a version that bears a position alone. -/
def verCells (p : Int) : List Value := [.string ByteArray.empty, .bool false, .int .u64 0, .string ByteArray.empty, .int .u64 p, .int .u64 0, .pointer none, .int .i64 0]
def versCells (ps : List Int) : List Value := ps.flatMap verCells

/-- The key record in block kb holds the versions written at positions ps. -/
def KeyAt (w : World) (kb : Nat) (ps : List Int) : Prop :=
  ∃ v, w.heap[kb]? = some (.cells (keyCells v) 70 (0, 0)) ∧ w.ownsRow kb 75 8 v ps.length (versCells ps)

theorem row_ne {w : World} {kb n : Nat} {v : Value} {xs : List Value} {c : Array Value} (hk : w.heap[kb]? = some (.cells c 70 (0, 0))) (hown : w.ownsRow kb 75 8 v n xs) : v.ownBlock ≠ some kb := by
  intro e
  rcases hown.2 with ⟨rfl, _⟩ | ⟨g, cap, cur, rfl, _, hg, _⟩
  · simp [Value.ownBlock] at e
  · simp [Value.ownBlock] at e
    subst e
    rw [hg] at hk
    simp at hk

theorem app_step {w w1 : World} {kb : Nat} {v v' : Value} {ps : List Int} {p : Int} {o : Obj} (hk : w.heap[kb]? = some (.cells (keyCells v) 70 (0, 0))) (hown : w.ownsRow kb 75 8 v ps.length (versCells ps))
    (own1 : w1.ownsRow kb 75 8 v' (ps.length + 1) (versCells ps ++ verCells p)) (grow1 : (w.alloc o).grownBy w1 v.ownBlock) :
    w1.heap[kb]? = some (.cells (keyCells v) 70 (0, 0)) ∧ ∃ g cap, v' = .slice (some ⟨g, 0, none⟩) (ps.length + 1) cap := by
  have hkb : kb < w.heap.size := (Array.getElem?_eq_some_iff.1 hk).1
  refine ⟨?_, ?_⟩
  · rw [grow1.block kb (by simp; omega) (fun e => row_ne hk hown e.symm), Below.heap_alloc _ _ _ hkb]
    exact hk
  · rcases own1.2 with ⟨_, h⟩ | ⟨g, cap, cur, rfl, _⟩
    · omega
    · exact ⟨g, cap, rfl⟩

theorem app_end {w w1 : World} {kb : Nat} {v v' : Value} {ps : List Int} {p : Int} {o : Obj} (hk : w.heap[kb]? = some (.cells (keyCells v) 70 (0, 0))) (hown : w.ownsRow kb 75 8 v ps.length (versCells ps))
    (own1 : w1.ownsRow kb 75 8 v' (ps.length + 1) (versCells ps ++ verCells p)) (grow1 : (w.alloc o).grownBy w1 v.ownBlock) :
    KeyAt (w1.setCell ⟨kb, 0, none⟩ v') kb (ps ++ [p]) ∧ Below kb w (w1.setCell ⟨kb, 0, none⟩ v') := by
  have hkb : kb < w.heap.size := (Array.getElem?_eq_some_iff.1 hk).1
  obtain ⟨hk1, _⟩ := app_step hk hown own1 grow1
  refine ⟨⟨v', ?_, ?_⟩, ?_⟩
  · have h2 := heap_setCell_same w1 kb 0 _ 70 v' hk1
    simpa [keyCells] using h2
  · have e : versCells (ps ++ [p]) = versCells ps ++ verCells p := by simp [versCells]
    rw [e, List.length_append]
    have hne := row_ne hk1 own1
    refine own1.kept (row := some kb) ⟨rfl, rfl, rfl, by simp, fun k _ hk => Below.heap_setCell _ _ _ _ (fun e => hk (by rw [e]))⟩ (.inr hne)
  · refine Below.setCell (B := kb) (p := ⟨kb, 0, none⟩) ?_ (Nat.le_refl _) _
    exact ((Below.refl kb w).alloc (by omega) o).grown grow1 (by simp; omega) (fun k hk => (hown.lt k hk).1)

theorem append_any (kb : Nat) (ps : List Int) (p : Int) (w : World) (h : KeyAt w kb ps) (hl : ps.length ≤ 65536) :
    Calls Trym.prog 11 #[.pointer (some ⟨kb, 0, none⟩), .int .u64 p] w fun e w' => e = .returned (.tuple #[]) ∧ KeyAt w' kb (ps ++ [p]) ∧ Below kb w w' := by
  obtain ⟨v, hk, hown⟩ := h
  obtain ⟨i0, hi, hz0, hz1, hz2⟩ := info_parts Trym.info75
  have c0 : w.cell? ⟨kb, 0, none⟩ = some v := cell_of_row w kb 0 _ 70 (0, 0) hk
  have f0 : w.frozen? ⟨kb, 0, none⟩ = false := frozen_of_row w kb 0 _ 70 hk
  have HK : Hid (w.heap[kb]? = some (.cells (keyCells v) 70 (0, 0))) := hk
  have HO : Hid (w.ownsRow kb 75 8 v ps.length (versCells ps)) := hown
  have hkb : kb < w.heap.size := (Array.getElem?_eq_some_iff.1 hk).1
  clear hk hown
  go_enter Trym.func11, Trym.ntmps11
  go_wp2_with (at_builtin; refine wpList_append_own _ rfl (.tmp 8) (.tmp 11) 68 rfl kb 75 i0 _ 8 80 Trym.underlying68 hi hz0 hz1 hz2 rfl (by decide) v ps.length (versCells ps) rfl (World.ownsRow.alloc HO.out _) ⟨w.heap.size, 0, none⟩ 1 1 (verCells p) rfl rfl ?c1 ?c2 ?c3 ?c4 ?c5 ?c6)
  case c1 =>
    intro j u hu
    rw [Addr.add_lit, Nat.zero_add, cell_of_row _ _ j _ 75 (0, 0) (heap_alloc_new w _)]
    rw [List.getElem?_toArray]
    exact hu
  case c2 =>
    intro u hu
    simp only [verCells, List.mem_cons, List.not_mem_nil, or_false] at hu
    rcases hu with rfl | rfl | rfl | rfl | rfl | rfl | rfl | rfl <;> rfl
  case c3 => unfold maxLen; omega
  case c4 => omega
  case c5 => simp; omega
  case c6 =>
    intro v' w1 own1 grow1 _
    obtain ⟨hk1, hsh⟩ := app_step HK.out HO.out own1 grow1
    obtain ⟨g, cap, rfl⟩ := hsh
    have c1 : w1.cell? ⟨kb, 0, none⟩ = some v := cell_of_row w1 kb 0 _ 70 (0, 0) hk1
    have f1 : w1.frozen? ⟨kb, 0, none⟩ = false := frozen_of_row w1 kb 0 _ 70 hk1
    have HF : Hid _ := app_end HK.out HO.out own1 grow1
    clear own1 grow1 hk1
    go_wp2
    go_end0
    exact ⟨rfl, HF.out⟩
end Go.Proofs.Qxb6604996aMods
