import Derived.Test.Qxb6001620aModsKeys
import Derived.RegionTactic
namespace Go.Proofs.Qxb6001620aMods
open Go.RowKit Go.Maps

theorem bytes12_any (a a' : Option Addr) (len cap len' cap' : Nat) (n room : Int) (w : World) (h : len ≤ 65536) (h' : len' ≤ 65536) :
    Calls Trym.prog 12 #[.slice a len cap, .slice a' len' cap', .int .i64 n, .int .i64 room] w fun e w' => e = .returned (.bool true) ∧ w' = w := by
  go_enter Trym.func12, Trym.ntmps12
  go_wp2
  go_ret
  exact ⟨rfl, rfl⟩

/-- buildEntries over no pair: an empty map. -/
theorem build_none (a a' : Option Addr) (len cap len' cap' : Nat) (w : World) (h : min len len' = 0) (h1 : len ≤ 65536) (h2 : len' ≤ 65536) :
    Calls Trym.prog 13 #[.slice a len cap, .slice a' len' cap', .bool false] w fun e w' => e = .returned (.map (some w.heap.size)) ∧ w' = w.alloc (.map #[] 0) := by
  have hmm := makeMap30
  rcases Nat.eq_zero_or_pos len with hl | hl
  · subst hl
    clear h
    go_enter Trym.func13, Trym.ntmps13
    go_wp2
    refine wp_loop_rounds 1 ?_
    rw [rounds_succ]
    go_wp2
    go_ret
    exact ⟨rfl, rfl⟩
  · obtain rfl : len' = 0 := by omega
    clear h
    go_enter Trym.func13, Trym.ntmps13
    go_wp2
    refine wp_loop_rounds 1 ?_
    rw [rounds_succ]
    go_wp2
    go_ret
    exact ⟨rfl, rfl⟩

theorem next_map {w wr : World} {b k : Nat} {D : DataW Unit} {S : List (Int × Int)} {x y : Int} {kl : Lit} {f : Bool → World} (hM : MapAt wr b k D) (hS : KeysAre D S) (hB : Below w.heap.size w wr) (hkey : keyOf Trym.prog 33 (entry x y) = some kl)
    (hf : ∀ v, (Instr.mapUpdate 30 (.map (some b)) (.agg #[.int .i64 x, .int .i64 y]) (.bool v)).run Trym.prog wr.drew = .ok () (f v) ∧ MapAt (f v) b (k + 1) (D.put kl (.lit (.bool v))) ∧ wr.drew.grownBy (f v) (some b)) (hb : b = w.heap.size) :
    Hid (∀ v, ∃ D' S', MapAt (f v) b (k + 1) D' ∧ KeysAre D' S' ∧ Below w.heap.size w (f v)) := by
  intro v
  exact ⟨_, _, (hf v).2.1, keys_put (owns_isMap hM) hS hkey _, hB.drew.grown (hf v).2.2 hB.size (fun j hj => by cases hj; omega)⟩

theorem build_any (b off len cap b' off' len' cap' : Nat) (zs zs' : List Int) (w : World) (h0 : 0 < len) (h1 : len ≤ 65536) (h0' : 0 < len') (h2 : len' ≤ 65536)
    (hc : ∀ i, i < len → w.cell? ⟨b, off + i, none⟩ = some (.int .i64 (zs.getD i 0))) (hc' : ∀ i, i < len' → w.cell? ⟨b', off' + i, none⟩ = some (.int .i64 (zs'.getD i 0)))
    (hw : ∀ i, i < len → (Lit.int .i64 (zs.getD i 0)).wf = true) (hw' : ∀ i, i < len' → (Lit.int .i64 (zs'.getD i 0)).wf = true) :
    Calls Trym.prog 13 #[.slice (some ⟨b, off, none⟩) len cap, .slice (some ⟨b', off', none⟩) len' cap', .bool false] w fun e w' =>
      e = .returned (.map (some w.heap.size)) ∧ ∃ (n : Nat) (D : DataW Unit) (S : List (Int × Int)), n ≤ 65536 ∧ MapAt w' w.heap.size n D ∧ KeysAre D S ∧ Below w.heap.size w w' := by
  have hmm := makeMap30
  have hbl : b < w.heap.size := World.block_lt_of_cell? w _ (hc 0 h0)
  have hbl' : b' < w.heap.size := World.block_lt_of_cell? w _ (hc' 0 h0')
  rcases (show len ≤ len' ∨ len' < len by omega) with hl | hl
  · go_enter Trym.func13, Trym.ntmps13
    go_wp2
    go_loopw [9] (fun i wr => ∃ (k : Nat) (D : DataW Unit) (S : List (Int × Int)), k ≤ len ∧ i = .int .i64 k ∧ MapAt wr w.heap.size k D ∧ KeysAre D S ∧ Below w.heap.size w wr) (fun i _ => len - (intOf i).toNat)
    case atStart => exact ⟨0, _, [], Nat.zero_le _, rfl, World.ownsMap_made _ _ _ _, keys_start, (Below.refl _ _).alloc (Nat.le_refl _) _⟩
    case round =>
      obtain ⟨k, D, S, hk, rfl, hM, hS, hB⟩ := hrel
      by_cases hlt : k < len
      · have hx1 : wr.cell? ⟨b, off + k, none⟩ = some (.int .i64 (zs.getD k 0)) := (hB.cell (p := ⟨b, off + k, none⟩) hbl).trans (hc k hlt)
        have hx2 : wr.cell? ⟨b', off' + k, none⟩ = some (.int .i64 (zs'.getD k 0)) := (hB.cell (p := ⟨b', off' + k, none⟩) hbl').trans (hc' k (by omega))
        have hx3 := hw k (by omega)
        have hx4 := hw' k (by omega)
        obtain ⟨x, ex⟩ : ∃ x, x = zs.getD k 0 := ⟨_, rfl⟩
        obtain ⟨y, ey⟩ : ∃ y, y = zs'.getD k 0 := ⟨_, rfl⟩
        rw [← ex] at hx1 hx3
        rw [← ey] at hx2 hx4
        clear ex ey
        obtain ⟨kl, hkey⟩ := key_mk x y hx3 hx4
        obtain ⟨f, hf⟩ := update_any (w := wr.drew) hM (by unfold maxLen; omega) hkey
        have hrun := fun v => (hf v).1
        have HF := next_map hM hS hB hkey hf rfl
        clear hf hM hS hB hkey hx3 hx4
        have hq1 : (k : Int) < (len : Int) := by omega
        have hq2 : (k : Int) < (len' : Int) := by omega
        go_wp2
        go_region
        all_goals
          go_wp2
          go_roundw
          case rel =>
            obtain ⟨D', S', h1, h2, h3⟩ := Hid.out HF _
            exact ⟨k + 1, D', S', by omega, by go_num, h1, h2, h3⟩
          case measure => simp [intOf]; omega
      · go_wp2
        go_ret
        exact ⟨rfl, k, D, S, by omega, hM, hS, hB⟩
  · go_enter Trym.func13, Trym.ntmps13
    go_wp2
    go_loopw [9] (fun i wr => ∃ (k : Nat) (D : DataW Unit) (S : List (Int × Int)), k ≤ len' ∧ i = .int .i64 k ∧ MapAt wr w.heap.size k D ∧ KeysAre D S ∧ Below w.heap.size w wr) (fun i _ => len' - (intOf i).toNat)
    case atStart => exact ⟨0, _, [], Nat.zero_le _, rfl, World.ownsMap_made _ _ _ _, keys_start, (Below.refl _ _).alloc (Nat.le_refl _) _⟩
    case round =>
      obtain ⟨k, D, S, hk, rfl, hM, hS, hB⟩ := hrel
      by_cases hlt : k < len'
      · have hx1 : wr.cell? ⟨b, off + k, none⟩ = some (.int .i64 (zs.getD k 0)) := (hB.cell (p := ⟨b, off + k, none⟩) hbl).trans (hc k (by omega))
        have hx2 : wr.cell? ⟨b', off' + k, none⟩ = some (.int .i64 (zs'.getD k 0)) := (hB.cell (p := ⟨b', off' + k, none⟩) hbl').trans (hc' k (by omega))
        have hx3 := hw k (by omega)
        have hx4 := hw' k (by omega)
        obtain ⟨x, ex⟩ : ∃ x, x = zs.getD k 0 := ⟨_, rfl⟩
        obtain ⟨y, ey⟩ : ∃ y, y = zs'.getD k 0 := ⟨_, rfl⟩
        rw [← ex] at hx1 hx3
        rw [← ey] at hx2 hx4
        clear ex ey
        obtain ⟨kl, hkey⟩ := key_mk x y hx3 hx4
        obtain ⟨f, hf⟩ := update_any (w := wr.drew) hM (by unfold maxLen; omega) hkey
        have hrun := fun v => (hf v).1
        have HF := next_map hM hS hB hkey hf rfl
        clear hf hM hS hB hkey hx3 hx4
        have hq1 : (k : Int) < (len : Int) := by omega
        have hq2 : (k : Int) < (len' : Int) := by omega
        go_wp2
        go_region
        all_goals
          go_wp2
          go_roundw
          case rel =>
            obtain ⟨D', S', h1, h2, h3⟩ := Hid.out HF _
            exact ⟨k + 1, D', S', by omega, by go_num, h1, h2, h3⟩
          case measure => simp [intOf]; omega
      · go_wp2
        go_ret
        exact ⟨rfl, k, D, S, by omega, hM, hS, hB⟩
end Go.Proofs.Qxb6001620aMods
