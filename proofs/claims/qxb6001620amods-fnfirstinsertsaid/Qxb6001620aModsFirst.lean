import Derived.Test.Qxb6001620aModsEntries
namespace Go.Proofs.Qxb6001620aMods
open Go.RowKit Go.Maps

/-- What the step of the range loop leaves where an entry has come. -/
structure Came (D : DataW Unit) (left : Lit → Bool) (cnt b r n : Nat) (w w' : World) (x y : Int) (v : Value) : Prop where
  facts : ∃ kl cnt', keyOf Trym.prog 33 (entry x y) = some kl ∧ (∃ d, ∀ zd, D.atKey kl zd = d) ∧ w'.ranges Trym.prog 33 (plainElem Trym.prog 4) b r n D (fun z => left z && !z.sameKey kl) cnt' ∧ cnt' < cnt
  grow : w.grownBy w' (some r)
  size : w'.heap.size = w.heap.size
  entry : (Instr.entry (.pointer (some ⟨r, 0, none⟩))).run Trym.prog w' = .ok (.tuple #[.agg #[.int .i64 x, .int .i64 y], v]) w'

theorem next_first (w : World) {ops : Array Oper} {rest : List Oper} {o : Oper} {a : Act} {Q : Exit → Act → World → Prop} (hg : o.guard = none) (it : Operand) (hop : o.op = Op.next it false)
    (b r n : Nat) (D : DataW Unit) (left : Lit → Bool) (cnt : Nat) (hit : a.eval it = .pointer (some ⟨r, 0, none⟩)) (h : w.ranges Trym.prog 33 (plainElem Trym.prog 4) b r n D left cnt)
    (hDone : Hid (∀ kl, left kl = false) → wpList Trym.prog ops Q rest (a.put o.dst (.tuple #[.bool false])) w)
    (hMore : ∀ (x y : Int) (v : Value) (w' : World), Came D left cnt b r n w w' x y v → wpList Trym.prog ops Q rest (a.put o.dst (.tuple #[.bool true, .agg #[.int .i64 x, .int .i64 y], v])) w') :
    wpList Trym.prog ops Q (o :: rest) a w :=
  wpList_next_ranges w hg it hop 33 law33 (plainElem Trym.prog 4) (fun p : Int × Int => entry p.1 p.2) id (fun key kl hk => by obtain ⟨x, y, rfl⟩ := key_inv hk; exact ⟨(x, y), rfl⟩) (fun v y _ => ⟨v, rfl⟩) b r n D left cnt hit h
    (fun _ hl => hDone hl) (fun p c kl yv w' cnt' hkey _ _ hat hrg hlt hgr hsz hen => hMore p.1 p.2 c w' ⟨⟨kl, cnt', hkey, ⟨_, hat⟩, hrg, hlt⟩, hgr, hsz, hen⟩)

/-- The loop's relation: blocks R0 (the result), R0 + 1 (the lowest so far), R0 + 2 (the iterator). -/
structure FirstRel (w : World) (b n : Nat) (D : DataW Unit) (S : List (Int × Int)) (left : Lit → Bool) (cnt : Nat) (fd : Bool) (x y : Int) (wr : World) : Prop where
  rg : wr.ranges Trym.prog 33 (plainElem Trym.prog 4) b (w.heap.size + 2) n D left cnt
  r0 : wr.heap[w.heap.size]? = some (.cells #[.int .i64 0, .int .i64 0] 33 (0, 0))
  r1 : wr.heap[w.heap.size + 1]? = some (.cells #[.int .i64 x, .int .i64 y] 33 (0, 0))
  bel : Below w.heap.size w wr
  seen : Seen D S left fd x y

theorem rel_came {w wr w1 : World} {b n : Nat} {D : DataW Unit} {S : List (Int × Int)} {left : Lit → Bool} {cnt : Nat} {fd : Bool} {x y x' y' : Int} {v : Value} (R : FirstRel w b n D S left cnt fd x y wr) (C : Came D left cnt b (w.heap.size + 2) n wr w1 x' y' v) :
    w.heap.size + 2 < w1.heap.size ∧ w1.heap[w.heap.size + 1]? = some (.cells #[.int .i64 x, .int .i64 y] 33 (0, 0)) := by
  refine ⟨by rw [C.size]; exact R.rg.lt, ?_⟩
  rw [C.grow.block _ (by have := R.rg.lt; omega) (by simp)]
  exact R.r1

theorem rel_pass {w wr w1 : World} {b n : Nat} {D : DataW Unit} {S : List (Int × Int)} {left : Lit → Bool} {cnt : Nat} {fd : Bool} {x y x' y' : Int} {v : Value} (hS : KeysAre D S) (R : FirstRel w b n D S left cnt fd x y wr) (C : Came D left cnt b (w.heap.size + 2) n wr w1 x' y' v) (o : Obj)
    (hf : fd = true) (hn : ¬ y' < y) : ∃ left' cnt', FirstRel w b n D S left' cnt' true x y (w1.alloc o) ∧ cnt' < cnt := by
  obtain ⟨hs, h1⟩ := rel_came R C
  obtain ⟨kl, cnt', hk, ⟨d, hat⟩, hrg, hlt⟩ := C.facts
  refine ⟨_, cnt', ⟨hrg.alloc o, ?_, ?_, ?_, (seen_step hS R.seen hk hat).2 hf hn⟩, hlt⟩
  · rw [Below.heap_alloc _ _ _ (by omega), C.grow.block _ (by have := R.rg.lt; omega) (by simp)]
    exact R.r0
  · rw [Below.heap_alloc _ _ _ (by omega)]
    exact h1
  · exact (R.bel.grown C.grow R.bel.size (fun k hk => by cases hk; omega)).alloc (by omega) o

theorem rel_take {w wr w1 : World} {b n : Nat} {D : DataW Unit} {S : List (Int × Int)} {left : Lit → Bool} {cnt : Nat} {fd : Bool} {x y x' y' : Int} {v : Value} (hb : b < w.heap.size) (hS : KeysAre D S) (R : FirstRel w b n D S left cnt fd x y wr) (C : Came D left cnt b (w.heap.size + 2) n wr w1 x' y' v) (o : Obj)
    (hn : fd = false ∨ y' < y) : ∃ left' cnt', FirstRel w b n D S left' cnt' true x' y' (((w1.alloc o).setCell ⟨w.heap.size + 1, 0, none⟩ (.int .i64 x')).setCell ⟨w.heap.size + 1, 1, none⟩ (.int .i64 y')) ∧ cnt' < cnt := by
  obtain ⟨hs, h1⟩ := rel_came R C
  obtain ⟨kl, cnt', hk, ⟨d, hat⟩, hrg, hlt⟩ := C.facts
  have hg : (w1.alloc o).grownBy (((w1.alloc o).setCell ⟨w.heap.size + 1, 0, none⟩ (.int .i64 x')).setCell ⟨w.heap.size + 1, 1, none⟩ (.int .i64 y')) (some (w.heap.size + 1)) := by
    refine ⟨rfl, rfl, rfl, by simp, fun k hk hne => ?_⟩
    have e : k ≠ w.heap.size + 1 := fun e => hne (by rw [e])
    rw [Below.heap_setCell _ _ _ _ e, Below.heap_setCell _ _ _ _ e]
  refine ⟨_, cnt', ⟨(hrg.alloc o).kept hg (by simp; omega) (by simp), ?_, ?_, ?_, (seen_step hS R.seen hk hat).1 hn⟩, hlt⟩
  · rw [hg.block _ (by simp; omega) (by simp), Below.heap_alloc _ _ _ (by omega), C.grow.block _ (by have := R.rg.lt; omega) (by simp)]
    exact R.r0
  · have h2 : (w1.alloc o).heap[w.heap.size + 1]? = some (.cells #[.int .i64 x, .int .i64 y] 33 (0, 0)) := by
      rw [Below.heap_alloc _ _ _ (by omega)]
      exact h1
    have h3 := heap_setCell_same (w1.alloc o) (w.heap.size + 1) 0 _ 33 (.int .i64 x') h2
    have h4 := heap_setCell_same _ (w.heap.size + 1) 1 _ 33 (.int .i64 y') h3
    simpa using h4
  · refine ((R.bel.grown C.grow R.bel.size (fun k hk => by cases hk; omega)).alloc (by omega) o).grown hg (by simp; omega) (fun k hk => by cases hk; omega)

theorem first_any (b n : Nat) (D : DataW Unit) (S : List (Int × Int)) (w : World) (hM : MapAt w b n D) (hS : KeysAre D S) :
    Calls Trym.prog 16 #[.map (some b)] w fun e w' => ∃ (x y : Int) (fd : Bool), e = .returned (.tuple #[.agg #[.int .i64 x, .int .i64 y], .bool fd]) ∧ FirstIs S x y fd ∧ Below w.heap.size w w' := by
  have hbl : b < w.heap.size := World.ownsMap.lt hM
  have e1 : ∀ o1 o2, ((w.alloc o1).alloc o2).heap.size = w.heap.size + 2 := by simp
  go_enter Trym.func16, Trym.ntmps16
  go_wp2_with (at_range; refine wpList_range_own _ rfl _ 30 rfl 33 4 law33 Trym.underlying30 (plainElem Trym.prog 4) b n D rfl ((World.ownsMap.alloc hM _).alloc _) ?_; intro w0 hrg0 hg0 hs0)
  go_frame
  simp only [e1] at hrg0 hs0 ⊢
  clear e1
  go_loopw [5, 6] (fun f _ wr => ∃ (left : Lit → Bool) (cnt : Nat) (fd : Bool) (x y : Int), f = .bool fd ∧ FirstRel w b n D S left cnt fd x y wr) (fun _ _ wr => wr.rangeLeft b (w.heap.size + 2))
  case atStart =>
    refine ⟨_, _, false, 0, 0, rfl, hrg0, ?_, ?_, ?_, seen_start hS 0 0⟩
    · rw [hg0.block _ (by simp; omega) (by simp), Below.heap_alloc _ _ _ (by simp)]
      exact heap_alloc_new w _
    · rw [hg0.block _ (by simp) (by simp)]
      have := heap_alloc_new (w.alloc (.cells #[.int .i64 0, .int .i64 0] 33)) (.cells #[.int .i64 0, .int .i64 0] 33)
      simpa using this
    · exact Below.grown (((Below.refl _ _).alloc (Nat.le_refl _) _).alloc (by simp) _) hg0 (by simp; omega) (fun k hk => by cases hk)
  case round =>
    obtain ⟨left, cnt, fd, x, y, rfl, R⟩ := hrel
    have HR : Hid (FirstRel w b n D S left cnt fd x y wr) := R
    clear R
    go_wp2_with (at_next; refine next_first _ rfl _ rfl b (w.heap.size + 2) n D left cnt rfl (Hid.out HR).rg ?_ ?_)
    · intro hl0
      have HF : Hid (FirstIs S x y fd) := seen_end hS (Hid.out HR).seen hl0.out
      clear hl0
      have h0 := (Hid.out HR).r0
      have h1 := (Hid.out HR).r1
      have c00 := cell_of_row wr _ 0 _ 33 (0, 0) h0
      have c01 := cell_of_row wr _ 1 _ 33 (0, 0) h0
      have c10 := cell_of_row wr _ 0 _ 33 (0, 0) h1
      have c11 := cell_of_row wr _ 1 _ 33 (0, 0) h1
      simp at c00 c01 c10 c11
      have f00 := frozen_of_row wr _ 0 _ 33 h0
      have f01 := frozen_of_row wr _ 1 _ 33 h0
      clear h0 h1
      go_wp2
      refine bodyPost_ret (v := .tuple #[.agg #[.int .i64 x, .int .i64 y], .bool fd]) (by simp [results, Trym.results16, go_sem, c00, c01]) rfl ⟨x, y, fd, rfl, HF.out, ?_⟩
      exact ((Hid.out HR).bel.setCell (Nat.le_refl _) _).setCell (Nat.le_refl _) _
    · intro x' y' v w1 hcame
      have hen := hcame.entry
      obtain ⟨hsz, h1⟩ := rel_came (Hid.out HR) hcame
      have c10 : ∀ o, (w1.alloc o).cell? ⟨w.heap.size + 1, 0, none⟩ = some (.int .i64 x) := fun o => cell_of_row _ _ 0 _ 33 (0, 0) ((Below.heap_alloc _ _ _ (by omega)).trans h1)
      have c11 : ∀ o, (w1.alloc o).cell? ⟨w.heap.size + 1, 1, none⟩ = some (.int .i64 y) := fun o => cell_of_row _ _ 1 _ 33 (0, 0) ((Below.heap_alloc _ _ _ (by omega)).trans h1)
      have f10 : ∀ o, (w1.alloc o).frozen? ⟨w.heap.size + 1, 0, none⟩ = false := fun o => frozen_of_row _ _ 0 _ 33 ((Below.heap_alloc _ _ _ (by omega)).trans h1)
      have f11 : ∀ o, (w1.alloc o).frozen? ⟨w.heap.size + 1, 1, none⟩ = false := fun o => frozen_of_row _ _ 1 _ 33 ((Below.heap_alloc _ _ _ (by omega)).trans h1)
      have HC : Hid (Came D left cnt b (w.heap.size + 2) n wr w1 x' y' v) := hcame
      clear hcame h1
      cases fd with
      | false =>
        go_wp2
        go_roundw
        case rel =>
          obtain ⟨l', c', R', _⟩ := rel_take hbl hS HR.out HC.out (.cells #[.int .i64 x', .int .i64 y'] 33) (.inl rfl)
          exact ⟨l', c', true, x', y', rfl, R'⟩
        case measure =>
          obtain ⟨l', c', R', hlt⟩ := rel_take hbl hS HR.out HC.out (.cells #[.int .i64 x', .int .i64 y'] 33) (.inl rfl)
          rw [R'.rg.left_eq, (Hid.out HR).rg.left_eq]
          exact hlt
      | true =>
        by_cases hy : y' < y
        · go_wp2
          go_roundw
          case rel =>
            obtain ⟨l', c', R', _⟩ := rel_take hbl hS HR.out HC.out (.cells #[.int .i64 x', .int .i64 y'] 33) (.inr hy)
            exact ⟨l', c', true, x', y', rfl, R'⟩
          case measure =>
            obtain ⟨l', c', R', hlt⟩ := rel_take hbl hS HR.out HC.out (.cells #[.int .i64 x', .int .i64 y'] 33) (.inr hy)
            rw [R'.rg.left_eq, (Hid.out HR).rg.left_eq]
            exact hlt
        · go_wp2
          go_roundw
          case rel =>
            obtain ⟨l', c', R', _⟩ := rel_pass hS HR.out HC.out (.cells #[.int .i64 x', .int .i64 y'] 33) rfl hy
            exact ⟨l', c', true, x, y, rfl, R'⟩
          case measure =>
            obtain ⟨l', c', R', hlt⟩ := rel_pass hS HR.out HC.out (.cells #[.int .i64 x', .int .i64 y'] 33) rfl hy
            rw [R'.rg.left_eq, (Hid.out HR).rg.left_eq]
            exact hlt

theorem zzfirst_any (b n : Nat) (D : DataW Unit) (S : List (Int × Int)) (w : World) (hM : MapAt w b n D) (hS : KeysAre D S) :
    Calls Trym.prog 14 #[.map (some b)] w fun e w' => ∃ (x y : Int) (fd : Bool), e = .returned (.tuple #[.agg #[.int .i64 x, .int .i64 y], .bool fd]) ∧ FirstIs S x y fd ∧ Below w.heap.size w w' := by
  have HM : Hid (MapAt w b n D) := hM
  have HS : Hid (KeysAre D S) := hS
  clear hM hS
  go_enter Trym.func14, Trym.ntmps14
  go_wp2_with fail
  refine (first_any b n D S _ (World.ownsMap.alloc HM.out _) HS.out).mono ?_
  rintro e w1 ⟨x, y, fd, rfl, hf, hb⟩
  have c0 : w1.cell? ⟨w.heap.size, 0, none⟩ = some (.int .i64 0) := (hb.cell (p := ⟨w.heap.size, 0, none⟩) (by simp)).trans (by simp)
  have c1 : w1.cell? ⟨w.heap.size, 1, none⟩ = some (.int .i64 0) := (hb.cell (p := ⟨w.heap.size, 1, none⟩) (by simp)).trans (by simp)
  have f0 : w1.frozen? ⟨w.heap.size, 0, none⟩ = false := (hb.frozen (p := ⟨w.heap.size, 0, none⟩) (by simp)).trans (by simp)
  have f1 : w1.frozen? ⟨w.heap.size, 1, none⟩ = false := (hb.frozen (p := ⟨w.heap.size, 1, none⟩) (by simp)).trans (by simp)
  have HF : Hid (FirstIs S x y fd) := hf
  have HB : Hid (Below w.heap.size w w1) := ((Below.refl _ _).alloc (Nat.le_refl _) _).trans (hb.mono (by simp))
  clear hf hb
  go_wp2
  refine bodyPost_ret (v := .tuple #[.agg #[.int .i64 x, .int .i64 y], .bool fd]) (by simp [results, Trym.results14, go_sem, c0, c1]) rfl ⟨x, y, fd, rfl, HF.out, ?_⟩
  exact ((Hid.out HB).setCell (Nat.le_refl _) _).setCell (Nat.le_refl _) _
end Go.Proofs.Qxb6001620aMods
