import Derived.Test.Qxb6001620aModsProg
import Derived.WalkKit
import Derived.WalkSpells
import Derived.WalkLawsBesides
import Derived.Deep.LoopGhost
import Derived.Laws.MakeOwn
import Derived.KernelRfl
namespace Go.Proofs.Qxb6001620aMods
open Go.RowKit

theorem Trym.info5 : (Trym.prog.info? 5).map (fun i => (i.zero, i.size, i.bytes)) = some (some (.int .u8 0), 1, 1) := by kernel_rfl

theorem bytes7_any (a : Option Addr) (len cap : Nat) (n room : Int) (w : World) (h : len ≤ 524288) :
    Calls Trym.prog 7 #[.slice a len cap, .int .i64 n, .int .i64 room] w fun e w' => e = .returned (.bool true) ∧ w' = w := by
  go_enter Trym.func7, Trym.ntmps7
  go_wp2
  go_ret
  exact ⟨rfl, rfl⟩

theorem make22 (len : Nat) (room : Int) (h1 : len ≤ 524288) (r0 : 0 ≤ room) (r1 : room ≤ 65536) (w : World) :
    (Instr.makeSlice 22 (.int .i64 len) (.int .i64 (len + room))).run Trym.prog w = .ok (.slice (some ⟨w.heap.size, 0, none⟩) len (len + room.toNat)) (w.alloc (.cells (madeCells (Value.int .u8 0).cells (len + room.toNat)) 5)) := by
  obtain ⟨i0, hi, hz0, hz1, hz2⟩ := info_parts Trym.info5
  have h := run_make (P := Trym.prog) w 22 5 i0 (.int .u8 0) Trym.underlying22 hi hz0 .i64 .i64 len (len + room) (by omega) (by omega) (by rw [hz2]; omega) (by omega)
  rw [h, hz1]
  have e : (↑len + room).toNat = len + room.toNat := by omega
  simp [e]

theorem fresh_any (b off len cap : Nat) (zs : List Int) (room : Int) (w : World) (h0 : 0 < len) (h1 : len ≤ 524288) (r0 : 0 ≤ room) (r1 : room ≤ 65536)
    (hc : ∀ i, i < len → w.cell? ⟨b, off + i, none⟩ = some (.int .u8 (zs.getD i 0))) :
    Calls Trym.prog 8 #[.slice (some ⟨b, off, none⟩) len cap, .int .i64 room] w fun e w' => ∃ c : Array Value, e = .returned (.slice (some ⟨w.heap.size, 0, none⟩) len (len + room.toNat)) ∧ w' = w.alloc (.cells c 5) ∧ c.size = len + room.toNat ∧ ∀ i, i < len → c[i]? = some (.int .u8 (zs.getD i 0)) := by
  have hmk := make22 len room h1 r0 r1
  have q22 : ∀ (w : World) (a : Option Addr) (n c n' c' : Nat), (binOp .eql 22 (.slice a n c) (.slice none n' c')).run Trym.prog w = .ok (.bool a.isNone) w := fun w a n c n' c' => Lib.run_eql_slice_nil w _ _ a n c n' c' Trym.underlying22
  go_enter Trym.func8, Trym.ntmps8
  go_wp2
  go_loopw [6] (fun i wr => ∃ (k : Nat) (c : Array Value), k ≤ len ∧ i = .int .i64 k ∧ wr = w.alloc (.cells c 5) ∧ c.size = len + room.toNat ∧ ∀ j, j < k → c[j]? = some (.int .u8 (zs.getD j 0))) (fun i _ => len - (intOf i).toNat)
  case atStart => exact ⟨0, _, Nat.zero_le _, rfl, rfl, by simp [madeCells], by simp⟩
  case round =>
    obtain ⟨k, c, hk, rfl, rfl, hcs, hcj⟩ := hrel
    by_cases hlt : k < len
    · have hcx := hc k hlt
      have hbl := World.block_lt_of_cell? w _ hcx
      obtain ⟨v3, hv3⟩ : ∃ v, c[k]? = some v := ⟨_, Array.getElem?_eq_getElem (by omega)⟩
      go_wp2
      go_roundw
      case rel => exact ⟨k + 1, _, by omega, by go_num, rfl, by simpa using hcs, by
        intro j hj
        rw [Array.getElem?_setIfInBounds]
        by_cases e : k = j
        · subst e; rw [if_pos rfl, if_pos (by omega)]; simp
        · rw [if_neg e]; exact hcj j (by omega)⟩
      case measure => simp [intOf]; omega
    · go_wp2
      go_ret
      exact ⟨c, rfl, rfl, hcs, fun j hj => hcj j (by omega)⟩

/-- No element: nil, or a new empty row. -/
theorem fresh_none (a : Option Addr) (cap : Nat) (room : Int) (w : World) (r0 : 0 ≤ room) (r1 : room ≤ 65536) :
    Calls Trym.prog 8 #[.slice a 0 cap, .int .i64 room] w fun e w' => (e = .returned (.slice none 0 0) ∧ w' = w) ∨ ∃ c : Array Value, e = .returned (.slice (some ⟨w.heap.size, 0, none⟩) 0 room.toNat) ∧ w' = w.alloc (.cells c 5) ∧ c.size = room.toNat := by
  have hmk := make22 0 room (by omega) r0 r1
  simp only [Int.natCast_zero, Int.zero_add, Nat.zero_add] at hmk
  have q22 : ∀ (w : World) (a : Option Addr) (n c n' c' : Nat), (binOp .eql 22 (.slice a n c) (.slice none n' c')).run Trym.prog w = .ok (.bool a.isNone) w := fun w a n c n' c' => Lib.run_eql_slice_nil w _ _ a n c n' c' Trym.underlying22
  by_cases h : a.isNone = true ∧ room = 0
  · obtain ⟨h1, rfl⟩ := h
    go_enter Trym.func8, Trym.ntmps8
    go_wp2
    go_ret
    exact .inl ⟨rfl, rfl⟩
  · by_cases h1 : a.isNone = true
    · have h2 : (room == 0) = false := by have e : ¬ room = 0 := fun e => h ⟨h1, e⟩
                                          simpa using e
      clear h
      go_enter Trym.func8, Trym.ntmps8
      go_wp2
      refine wp_loop_rounds 1 ?_
      rw [rounds_succ]
      go_wp2
      go_ret
      exact .inr ⟨_, rfl, rfl, by simp [madeCells]⟩
    · have h2 : a.isNone = false := Bool.eq_false_iff.2 h1
      clear h h1
      go_enter Trym.func8, Trym.ntmps8
      go_wp2
      refine wp_loop_rounds 1 ?_
      rw [rounds_succ]
      go_wp2
      go_ret
      exact .inr ⟨_, rfl, rfl, by simp [madeCells]⟩
end Go.Proofs.Qxb6001620aMods
