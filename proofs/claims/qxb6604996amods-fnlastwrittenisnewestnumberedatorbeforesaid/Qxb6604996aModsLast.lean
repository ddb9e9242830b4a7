import Derived.Test.Qxb6604996aModsVers
namespace Go.Proofs.Qxb6604996aMods
open Go.RowKit

theorem ret_int {k : IntKind} {a b : Int} (h : a = b) : Ending.returned (.int k a) = .returned (.int k b) := by rw [h]

/-- Is the version at index n written by a numbered commit at pos or before? -/
def num (ps : List Int) (pos : Int) (n : Nat) : Bool := decide (¬ ps.getD n 0 = 0) && decide (ps.getD n 0 ≤ pos)

/-- The greatest index below n whose version is numbered by pos; -1 if there is none. -/
def lastW (ps : List Int) (pos : Int) : Nat → Int
  | 0 => -1
  | n + 1 => if num ps pos n then (n : Int) else lastW ps pos n

theorem ver_cell (ps : List Int) (n j : Nat) (hn : n < ps.length) (hj : j < 8) : (versCells ps)[n * 8 + j]? = (verCells (ps.getD n 0))[j]? := by
  induction ps generalizing n with
  | nil => simp at hn
  | cons a r ih =>
    have e : versCells (a :: r) = verCells a ++ versCells r := by simp [versCells]
    rw [e]
    cases n with
    | zero => rw [List.getElem?_append_left (by simp [verCells]; omega)]; simp
    | succ n =>
      rw [List.getElem?_append_right (by simp [verCells]; omega)]
      have e2 : (n + 1) * 8 + j - (verCells a).length = n * 8 + j := by simp [verCells]; omega
      rw [e2, ih n (by simpa using hn)]
      simp

theorem last_neg (kb : Nat) (en pos : Int) (w : World) (h1 : en ≤ 0) (h2 : -65536 ≤ en) :
    Calls Trym.prog 35 #[.pointer (some ⟨kb, 0, none⟩), .int .i64 en, .int .u64 pos] w fun e w' => e = .returned (.int .i64 (-1)) ∧ w' = w := by
  go_enter Trym.func35, Trym.ntmps35
  go_wp2
  refine wp_loop_rounds 1 ?_
  rw [rounds_succ]
  go_wp2
  go_ret
  exact ⟨rfl, rfl⟩

theorem last_pos (kb : Nat) (ps : List Int) (en : Nat) (pos : Int) (w : World) (hK : KeyAt w kb ps) (hl : ps.length ≤ 65536) (h1 : en ≤ ps.length) :
    Calls Trym.prog 35 #[.pointer (some ⟨kb, 0, none⟩), .int .i64 en, .int .u64 pos] w fun e w' => e = .returned (.int .i64 (lastW ps pos en)) ∧ Below w.heap.size w w' := by
  obtain ⟨v, hk, hown⟩ := hK
  have HK : Hid (w.heap[kb]? = some (.cells (keyCells v) 70 (0, 0))) := hk
  have HO : Hid (w.ownsRow kb 75 8 v ps.length (versCells ps)) := hown
  have hkb : kb < w.heap.size := (Array.getElem?_eq_some_iff.1 hk).1
  clear hk hown
  go_enter Trym.func35, Trym.ntmps35
  go_wp2
  go_loopw [7] (fun i wr => ∃ m : Nat, m ≤ en ∧ i = .int .i64 ((m : Int) - 1) ∧ lastW ps pos m = lastW ps pos en ∧ Below w.heap.size w wr) (fun i _ => (intOf i + 1).toNat)
  case atStart => exact ⟨en, Nat.le_refl _, rfl, rfl, Below.refl _ _⟩
  case round =>
    obtain ⟨m, hm, rfl, hlast, hB⟩ := hrel
    have HL : Hid (lastW ps pos m = lastW ps pos en) := hlast
    have HB : Hid (Below w.heap.size w wr) := hB
    clear hlast hB
    cases m with
    | zero =>
      go_wp2
      go_ret
      exact ⟨ret_int HL.out, HB.out⟩
    | succ n =>
      have hv : ∃ g cap, v = .slice (some ⟨g, 0, none⟩) ps.length cap ∧ g < w.heap.size := by
        rcases HO.out.2 with ⟨_, h⟩ | ⟨g, cap, cur, rfl, _, hg, _⟩
        · omega
        · exact ⟨g, cap, rfl, (Array.getElem?_eq_some_iff.1 hg).1⟩
      obtain ⟨g, cap, rfl, hg⟩ := hv
      have c0 : wr.cell? ⟨kb, 0, none⟩ = some (.slice (some ⟨g, 0, none⟩) ps.length cap) := (HB.out.cell (p := ⟨kb, 0, none⟩) hkb).trans (cell_of_row w kb 0 _ 70 (0, 0) HK.out)
      have cv : ∀ j, j < 8 → wr.cell? ⟨g, n * 8 + j, none⟩ = (verCells (ps.getD n 0))[j]? := fun j hj => by
        rw [HB.out.cell (p := ⟨g, n * 8 + j, none⟩) hg, HO.out.cellAt (n * 8 + j) (by omega), ver_cell ps n j (by omega) hj]
      obtain ⟨q, hq⟩ : ∃ q, q = ps.getD n 0 := ⟨_, rfl⟩
      rw [← hq] at cv
      have d0 : wr.cell? ⟨g, n * 8, none⟩ = some (.string ByteArray.empty) := cv 0 (by omega)
      have d1 : wr.cell? ⟨g, n * 8 + 1, none⟩ = some (.bool false) := cv 1 (by omega)
      have d2 : wr.cell? ⟨g, n * 8 + 2, none⟩ = some (.int .u64 0) := cv 2 (by omega)
      have d3 : wr.cell? ⟨g, n * 8 + 3, none⟩ = some (.string ByteArray.empty) := cv 3 (by omega)
      have d4 : wr.cell? ⟨g, n * 8 + 4, none⟩ = some (.int .u64 q) := cv 4 (by omega)
      have d5 : wr.cell? ⟨g, n * 8 + 5, none⟩ = some (.int .u64 0) := cv 5 (by omega)
      have d6 : wr.cell? ⟨g, n * 8 + 6, none⟩ = some (.pointer none) := cv 6 (by omega)
      have d7 : wr.cell? ⟨g, n * 8 + 7, none⟩ = some (.int .i64 0) := cv 7 (by omega)
      have HQ : Hid (q = ps.getD n 0) := hq
      clear cv hq
      have e1 : ((n + 1 : Nat) : Int) - 1 = (n : Int) := by omega
      rw [e1]
      clear e1
      by_cases hz : q = 0
      · have hz' : (q != 0) = false := by simpa using hz
        have HN : Hid (lastW ps pos n = lastW ps pos en) := by
          have e := HL.out
          have e2 : num ps pos n = false := by unfold num; rw [← HQ.out]; simp [hz]
          show lastW ps pos n = lastW ps pos en; simpa [lastW, e2] using e
        clear hz
        go_wp2
        go_roundw
        case rel => exact ⟨n, by omega, by go_num, HN.out, HB.out.alloc HB.out.size _⟩
        case measure => simp [intOf]
      · have hz' : (q != 0) = true := by simpa using hz
        by_cases hp : q ≤ pos
        · have HN : Hid ((n : Int) = lastW ps pos en) := by
            have e := HL.out
            have e2 : num ps pos n = true := by unfold num; rw [← HQ.out]; simp [hz, hp]
            show (n : Int) = lastW ps pos en; simpa [lastW, e2] using e
          clear hz
          go_wp2
          go_ret
          exact ⟨ret_int HN.out, HB.out.alloc HB.out.size _⟩
        · have HN : Hid (lastW ps pos n = lastW ps pos en) := by
            have e := HL.out
            have e2 : num ps pos n = false := by unfold num; rw [← HQ.out]; simp [hp]
            show lastW ps pos n = lastW ps pos en; simpa [lastW, e2] using e
          clear hz
          go_wp2
          go_roundw
          case rel => exact ⟨n, by omega, by go_num, HN.out, HB.out.alloc HB.out.size _⟩
          case measure => simp [intOf]

/-- ZZlastWritten: whatever 'end' up to the length. -/
theorem zzlast_any (kb : Nat) (ps : List Int) (en pos : Int) (w : World) (hK : KeyAt w kb ps) (hl : ps.length ≤ 65536) (h1 : en ≤ (ps.length : Int)) (h2 : -65536 ≤ en) :
    Calls Trym.prog 12 #[.pointer (some ⟨kb, 0, none⟩), .int .i64 en, .int .u64 pos] w fun e w' => e = .returned (.int .i64 (lastW ps pos en.toNat)) ∧ Below w.heap.size w w' := by
  have h : Calls Trym.prog 35 #[.pointer (some ⟨kb, 0, none⟩), .int .i64 en, .int .u64 pos] w fun e w' => e = .returned (.int .i64 (lastW ps pos en.toNat)) ∧ Below w.heap.size w w' := by
    by_cases hn : en ≤ 0
    · refine (last_neg kb en pos w hn h2).mono ?_
      rintro e w' ⟨rfl, rfl⟩
      have e : en.toNat = 0 := by omega
      rw [e]
      exact ⟨rfl, Below.refl _ _⟩
    · obtain ⟨m, rfl⟩ := Int.eq_ofNat_of_zero_le (show 0 ≤ en by omega)
      exact last_pos kb ps m pos w hK hl (by omega)
  have H : Hid (Calls Trym.prog 35 #[.pointer (some ⟨kb, 0, none⟩), .int .i64 en, .int .u64 pos] w fun e w' => e = .returned (.int .i64 (lastW ps pos en.toNat)) ∧ Below w.heap.size w w') := h
  clear h
  go_enter Trym.func12, Trym.ntmps12
  go_wp2_with fail
  refine (Hid.out H).mono ?_
  rintro e w' ⟨rfl, hb⟩
  go_wp2
  go_ret
  exact ⟨rfl, hb⟩
end Go.Proofs.Qxb6604996aMods
