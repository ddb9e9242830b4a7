import Derived.Test.Qxb6604996aModsProg
import Derived.WalkKit
import Derived.WalkSpells
import Derived.WalkLawsBesides
import Derived.Deep.LoopGhost
import Derived.Laws.MakeOwn
import Derived.KernelRfl
namespace Go.Proofs.Qxb6604996aMods
open Go.RowKit

theorem Trym.info23 : (Trym.prog.info? 23).map (fun i => (i.zero, i.size, i.bytes)) = some (some (.int .u64 0), 1, 8) := by kernel_rfl
theorem Trym.info75 : (Trym.prog.info? 75).map (fun i => (i.zero, i.size, i.bytes)) = some (some (.agg #[.string ByteArray.empty, .bool false, .int .u64 0, .string ByteArray.empty, .int .u64 0, .int .u64 0, .pointer none, .int .i64 0]), 8, 80) := by kernel_rfl

theorem bytes8_any (a : Option Addr) (len cap : Nat) (n p : Int) (w : World) (h : len ≤ 65536) :
    Calls Trym.prog 8 #[.slice a len cap, .int .i64 n, .int .u64 p] w fun e w' => e = .returned (.bool true) ∧ w' = w := by
  go_enter Trym.func8, Trym.ntmps8
  go_wp2
  go_ret
  exact ⟨rfl, rfl⟩

theorem bytes14_any (a : Option Addr) (len cap : Nat) (n p q : Int) (w : World) (h : len ≤ 65536) :
    Calls Trym.prog 14 #[.slice a len cap, .int .i64 n, .int .u64 p, .int .u64 q] w fun e w' => e = .returned (.bool true) ∧ w' = w := by
  go_enter Trym.func14, Trym.ntmps14
  go_wp2
  go_ret
  exact ⟨rfl, rfl⟩

theorem make22 (len : Nat) (h1 : len ≤ 65536) (w : World) :
    (Instr.makeSlice 22 (.int .i64 len) (.int .i64 len)).run Trym.prog w = .ok (.slice (some ⟨w.heap.size, 0, none⟩) len len) (w.alloc (.cells (madeCells (Value.int .u64 0).cells len) 23)) := by
  obtain ⟨i0, hi, hz0, hz1, hz2⟩ := info_parts Trym.info23
  have h := run_make (P := Trym.prog) w 22 23 i0 (.int .u64 0) Trym.underlying22 hi hz0 .i64 .i64 len len (by omega) (by omega) (by rw [hz2]; omega) (by omega)
  rw [h, hz1]
  simp

theorem clone_any (b off len cap : Nat) (zs : List Int) (w : World) (h0 : 0 < len) (h1 : len ≤ 65536)
    (hc : ∀ i, i < len → w.cell? ⟨b, off + i, none⟩ = some (.int .u64 (zs.getD i 0))) :
    Calls Trym.prog 9 #[.slice (some ⟨b, off, none⟩) len cap] w fun e w' => ∃ c : Array Value, e = .returned (.slice (some ⟨w.heap.size, 0, none⟩) len len) ∧ w' = w.alloc (.cells c 23) ∧ c.size = len ∧ ∀ i, i < len → c[i]? = some (.int .u64 (zs.getD i 0)) := by
  have hmk := make22 len h1
  have q22 : ∀ (w : World) (a : Option Addr) (n c n' c' : Nat), (binOp .eql 22 (.slice a n c) (.slice none n' c')).run Trym.prog w = .ok (.bool a.isNone) w := fun w a n c n' c' => Lib.run_eql_slice_nil w _ _ a n c n' c' Trym.underlying22
  go_enter Trym.func9, Trym.ntmps9
  go_wp2
  go_loopw [4] (fun i wr => ∃ (k : Nat) (c : Array Value), k ≤ len ∧ i = .int .i64 k ∧ wr = w.alloc (.cells c 23) ∧ c.size = len ∧ ∀ j, j < k → c[j]? = some (.int .u64 (zs.getD j 0))) (fun i _ => len - (intOf i).toNat)
  case atStart => exact ⟨0, _, Nat.zero_le _, rfl, rfl, by simp [madeCells], by simp⟩
  case round =>
    obtain ⟨k, c, hk, rfl, rfl, hcs, hcj⟩ := hrel
    by_cases hlt : k < len
    · have hcx := hc k hlt
      have hbl := World.block_lt_of_cell? w _ hcx
      obtain ⟨v3, hv3⟩ : ∃ v, c[k]? = some v := ⟨_, Array.getElem?_eq_getElem (by omega)⟩
      go_wp2
      go_roundw
      case rel => exact ⟨k + 1, _, by omega, by go_num, rfl, by simpa using hcs, by
        intro j hj
        rw [Array.getElem?_setIfInBounds]
        by_cases e : k = j
        · subst e; rw [if_pos rfl, if_pos (by omega)]; simp
        · rw [if_neg e]; exact hcj j (by omega)⟩
      case measure => simp [intOf]; omega
    · go_wp2
      go_ret
      exact ⟨c, rfl, rfl, hcs, fun j hj => hcj j (by omega)⟩

/-- No element: nil, or a new empty row. -/
theorem clone_none (a : Option Addr) (cap : Nat) (w : World) :
    Calls Trym.prog 9 #[.slice a 0 cap] w fun e w' => ∃ a' c', e = .returned (.slice a' 0 c') ∧ Below w.heap.size w w' := by
  have hmk := make22 0 (by omega)
  simp only [Int.natCast_zero] at hmk
  have q22 : ∀ (w : World) (a : Option Addr) (n c n' c' : Nat), (binOp .eql 22 (.slice a n c) (.slice none n' c')).run Trym.prog w = .ok (.bool a.isNone) w := fun w a n c n' c' => Lib.run_eql_slice_nil w _ _ a n c n' c' Trym.underlying22
  by_cases h1 : a.isNone = true
  · go_enter Trym.func9, Trym.ntmps9
    go_wp2
    go_ret
    exact ⟨_, _, rfl, Below.refl _ _⟩
  · have h2 : a.isNone = false := Bool.eq_false_iff.2 h1
    clear h1
    go_enter Trym.func9, Trym.ntmps9
    go_wp2
    refine wp_loop_rounds 1 ?_
    rw [rounds_succ]
    go_wp2
    go_ret
    exact ⟨_, _, rfl, (Below.refl _ _).alloc (Nat.le_refl _) _⟩

/-- An empty key record. -/
def keyCells (v : Value) : Array Value := #[v, .slice none 0 0, .bool false, .int .u64 0]

theorem newKey_any (w : World) : Calls Trym.prog 10 #[] w fun e w' => e = .returned (.pointer (some ⟨w.heap.size, 0, none⟩)) ∧ w' = w.alloc (.cells (keyCells (.slice none 0 0)) 70) := by
  go_enter Trym.func10, Trym.ntmps10
  go_wp2
  go_ret
  exact ⟨rfl, rfl⟩
end Go.Proofs.Qxb6604996aMods
