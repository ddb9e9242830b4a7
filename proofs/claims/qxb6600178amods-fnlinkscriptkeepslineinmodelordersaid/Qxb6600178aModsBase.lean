import Derived.Test.Qxb6600178aModsProg
import Derived.WalkKit
import Derived.WalkSpells
import Derived.WalkLawsBesides
import Derived.Deep.LoopGhost
import Derived.Laws.MakeOwn
import Derived.LaidEql
import Derived.KernelRfl
namespace Go.Proofs.Qxb6600178aMods
open Go.RowKit

def ptr (b : Nat) : Value := .pointer (some ⟨b, 0, none⟩)
def headCells (l : Int) (p n : Nat) : Array Value := #[.int .u64 l, ptr p, ptr n, .string ByteArray.empty, .bool false, .map none]
def placeCells (l : Int) (p n : Nat) : Array Value := #[.int .u64 l, ptr p, ptr n, .string ByteArray.empty, .bool false]

/-- Block b is a row of cells, none of them marked. -/
def Cells (w : World) (b : Nat) : Prop := ∃ c t, w.heap[b]? = some (.cells c t (0, 0))

theorem Trym.info40 : (Trym.prog.info? 40).map (fun i => (i.size)) = some 5 := by kernel_rfl

theorem equal_same (a : Nat) (w : World) : (Op.equal 27 (.pointer (some ⟨a, 0, none⟩)) (.pointer (some ⟨a, 0, none⟩))).run Trym.prog w = .ok true w := by
  obtain ⟨i, hi, hs⟩ := Option.map_eq_some_iff.1 Trym.info40
  have h : ∀ d : Nat, (Op.equalIn (d + 1) 27 (.pointer (some ⟨a, 0, none⟩)) (.pointer (some ⟨a, 0, none⟩))).run Trym.prog w = .ok true w := fun d => by
    simp [Op.equalIn, run_underlying Trym.underlying27, sizeOf, typeInfo, hi, run_sameAddr_same]
  simp [Op.equal, Op.maxDepth, h 9999]

theorem equal_other {a b : Nat} {w : World} (hne : a ≠ b) (ha : Cells w a) (hb : Cells w b) : (Op.equal 27 (.pointer (some ⟨a, 0, none⟩)) (.pointer (some ⟨b, 0, none⟩))).run Trym.prog w = .ok false w := by
  obtain ⟨i, hi, hs⟩ := Option.map_eq_some_iff.1 Trym.info40
  obtain ⟨ca, ta, ha⟩ := ha
  obtain ⟨cb, tb, hb⟩ := hb
  have hn : (⟨a, 0, none⟩ : Addr) ≠ ⟨b, 0, none⟩ := fun e => hne (congrArg Addr.block e)
  have h : ∀ d : Nat, (Op.equalIn (d + 1) 27 (.pointer (some ⟨a, 0, none⟩)) (.pointer (some ⟨b, 0, none⟩))).run Trym.prog w = .ok false w := fun d => by
    simp [Op.equalIn, run_underlying Trym.underlying27, sizeOf, typeInfo, hi, hs, run_sameAddr_other w hn ha hb]
  simp [Op.equal, Op.maxDepth, h 9999]

theorem eql_same (a : Nat) (w : World) : (binOp .eql 27 (.pointer (some ⟨a, 0, none⟩)) (.pointer (some ⟨a, 0, none⟩))).run Trym.prog w = .ok (.bool true) w := by
  simp only [binOp]
  simp [equal_same]
theorem neq_same (a : Nat) (w : World) : (binOp .neq 27 (.pointer (some ⟨a, 0, none⟩)) (.pointer (some ⟨a, 0, none⟩))).run Trym.prog w = .ok (.bool false) w := by
  simp only [binOp]
  simp [equal_same]
theorem eql_other {a b : Nat} {w : World} (hne : a ≠ b) (ha : Cells w a) (hb : Cells w b) : (binOp .eql 27 (.pointer (some ⟨a, 0, none⟩)) (.pointer (some ⟨b, 0, none⟩))).run Trym.prog w = .ok (.bool false) w := by
  simp only [binOp]
  simp [equal_other hne ha hb]
theorem neq_other {a b : Nat} {w : World} (hne : a ≠ b) (ha : Cells w a) (hb : Cells w b) : (binOp .neq 27 (.pointer (some ⟨a, 0, none⟩)) (.pointer (some ⟨b, 0, none⟩))).run Trym.prog w = .ok (.bool true) w := by
  simp only [binOp]
  simp [equal_other hne ha hb]

theorem newRanking_any (w : World) : Calls Trym.prog 7 #[] w fun e w' => e = .returned (ptr w.heap.size) ∧ w' = w.alloc (.cells (headCells 0 w.heap.size w.heap.size) 43) := by
  go_enter Trym.func7, Trym.ntmps7
  go_wp2
  go_ret
  exact ⟨rfl, rfl⟩

theorem newPlace_any (w : World) : Calls Trym.prog 9 #[] w fun e w' => e = .returned (ptr w.heap.size) ∧ w' = w.alloc (.cells #[.int .u64 0, .pointer none, .pointer none, .string ByteArray.empty, .bool false] 40) := by
  go_enter Trym.func9, Trym.ntmps9
  go_wp2
  go_ret
  exact ⟨rfl, rfl⟩

theorem head_any (r : Nat) (w : World) : Calls Trym.prog 8 #[ptr r] w fun e w' => e = .returned (ptr r) ∧ w' = w := by
  unfold ptr
  go_enter Trym.func8, Trym.ntmps8
  go_wp2
  go_ret
  exact ⟨rfl, rfl⟩

theorem next_any (b n : Nat) (w : World) (h : w.cell? ⟨b, 2, none⟩ = some (ptr n)) : Calls Trym.prog 12 #[ptr b] w fun e w' => e = .returned (ptr n) ∧ w' = w := by
  unfold ptr at *
  go_enter Trym.func12, Trym.ntmps12
  go_wp2
  go_ret
  exact ⟨rfl, rfl⟩

theorem prev_any (b n : Nat) (w : World) (h : w.cell? ⟨b, 1, none⟩ = some (ptr n)) : Calls Trym.prog 14 #[ptr b] w fun e w' => e = .returned (ptr n) ∧ w' = w := by
  unfold ptr at *
  go_enter Trym.func14, Trym.ntmps14
  go_wp2
  go_ret
  exact ⟨rfl, rfl⟩

theorem label_any (b : Nat) (l : Int) (w : World) (h : w.cell? ⟨b, 0, none⟩ = some (.int .u64 l)) : Calls Trym.prog 16 #[ptr b] w fun e w' => e = .returned (.int .u64 l) ∧ w' = w := by
  unfold ptr at *
  go_enter Trym.func16, Trym.ntmps16
  go_wp2
  go_ret
  exact ⟨rfl, rfl⟩

theorem above_head (r : Nat) (w : World) : Calls Trym.prog 17 #[ptr r, ptr r] w fun e w' => e = .returned (.int .u64 9223372036854775808) ∧ w' = w := by
  unfold ptr
  have q := eql_same r w
  go_enter Trym.func17, Trym.ntmps17
  go_wp2
  go_ret
  exact ⟨rfl, rfl⟩

theorem above_place (r b : Nat) (l : Int) (w : World) (hne : b ≠ r) (hb : Cells w b) (hr : Cells w r) (h : w.cell? ⟨b, 0, none⟩ = some (.int .u64 l)) : Calls Trym.prog 17 #[ptr r, ptr b] w fun e w' => e = .returned (.int .u64 l) ∧ w' = w := by
  unfold ptr
  have q := eql_other hne hb hr
  clear hb hr hne
  go_enter Trym.func17, Trym.ntmps17
  go_wp2
  go_ret
  exact ⟨rfl, rfl⟩

theorem Trym.info31 : (Trym.prog.info? 31).map (fun i => (i.zero, i.size, i.bytes)) = some (some (.int .u32 0), 1, 4) := by kernel_rfl

theorem bytes5_any (a : Option Addr) (len cap : Nat) (w : World) (h : len ≤ 4096) :
    Calls Trym.prog 5 #[.slice a len cap] w fun e w' => e = .returned (.bool true) ∧ w' = w := by
  go_enter Trym.func5, Trym.ntmps5
  go_wp2
  go_ret
  exact ⟨rfl, rfl⟩

theorem bytes13_any (a : Option Addr) (len cap : Nat) (w : World) (h : len ≤ 4096) :
    Calls Trym.prog 13 #[.slice a len cap] w fun e w' => e = .returned (.bool true) ∧ w' = w := by
  go_enter Trym.func13, Trym.ntmps13
  go_wp2
  go_ret
  exact ⟨rfl, rfl⟩

theorem make22 (len : Nat) (h1 : len ≤ 4096) (w : World) :
    (Instr.makeSlice 22 (.int .i64 len) (.int .i64 len)).run Trym.prog w = .ok (.slice (some ⟨w.heap.size, 0, none⟩) len len) (w.alloc (.cells (madeCells (Value.int .u32 0).cells len) 31)) := by
  obtain ⟨i0, hi, hz0, hz1, hz2⟩ := info_parts Trym.info31
  have h := run_make (P := Trym.prog) w 22 31 i0 (.int .u32 0) Trym.underlying22 hi hz0 .i64 .i64 len len (by omega) (by omega) (by rw [hz2]; omega) (by omega)
  rw [h, hz1]
  simp

theorem clone_any (b off len cap : Nat) (zs : List Int) (w : World) (h0 : 0 < len) (h1 : len ≤ 4096)
    (hc : ∀ i, i < len → w.cell? ⟨b, off + i, none⟩ = some (.int .u32 (zs.getD i 0))) :
    Calls Trym.prog 6 #[.slice (some ⟨b, off, none⟩) len cap] w fun e w' => ∃ c : Array Value, e = .returned (.slice (some ⟨w.heap.size, 0, none⟩) len len) ∧ w' = w.alloc (.cells c 31) ∧ c.size = len ∧ ∀ i, i < len → c[i]? = some (.int .u32 (zs.getD i 0)) := by
  have hmk := make22 len h1
  have q22 : ∀ (w : World) (a : Option Addr) (n c n' c' : Nat), (binOp .eql 22 (.slice a n c) (.slice none n' c')).run Trym.prog w = .ok (.bool a.isNone) w := fun w a n c n' c' => Lib.run_eql_slice_nil w _ _ a n c n' c' Trym.underlying22
  go_enter Trym.func6, Trym.ntmps6
  go_wp2
  go_loopw [4] (fun i wr => ∃ (k : Nat) (c : Array Value), k ≤ len ∧ i = .int .i64 k ∧ wr = w.alloc (.cells c 31) ∧ c.size = len ∧ ∀ j, j < k → c[j]? = some (.int .u32 (zs.getD j 0))) (fun i _ => len - (intOf i).toNat)
  case atStart => exact ⟨0, _, Nat.zero_le _, rfl, rfl, by simp [madeCells], by simp⟩
  case round =>
    obtain ⟨k, c, hk, rfl, rfl, hcs, hcj⟩ := hrel
    by_cases hlt : k < len
    · have hcx := hc k hlt
      have hbl := World.block_lt_of_cell? w _ hcx
      obtain ⟨v3, hv3⟩ : ∃ v, c[k]? = some v := ⟨_, Array.getElem?_eq_getElem (by omega)⟩
      go_wp2
      go_roundw
      case rel => exact ⟨k + 1, _, by omega, by go_num, rfl, by simpa using hcs, by
        intro j hj
        rw [Array.getElem?_setIfInBounds]
        by_cases e : k = j
        · subst e; rw [if_pos rfl, if_pos (by omega)]; simp
        · rw [if_neg e]; exact hcj j (by omega)⟩
      case measure => simp [intOf]; omega
    · go_wp2
      go_ret
      exact ⟨c, rfl, rfl, hcs, fun j hj => hcj j (by omega)⟩

/-- No element: nil, or a new empty row. -/
theorem clone_none (a : Option Addr) (cap : Nat) (w : World) :
    Calls Trym.prog 6 #[.slice a 0 cap] w fun e w' => ∃ a' c', e = .returned (.slice a' 0 c') ∧ Below w.heap.size w w' := by
  have hmk := make22 0 (by omega)
  simp only [Int.natCast_zero] at hmk
  have q22 : ∀ (w : World) (a : Option Addr) (n c n' c' : Nat), (binOp .eql 22 (.slice a n c) (.slice none n' c')).run Trym.prog w = .ok (.bool a.isNone) w := fun w a n c n' c' => Lib.run_eql_slice_nil w _ _ a n c n' c' Trym.underlying22
  by_cases h1 : a.isNone = true
  · go_enter Trym.func6, Trym.ntmps6
    go_wp2
    go_ret
    exact ⟨_, _, rfl, Below.refl _ _⟩
  · have h2 : a.isNone = false := Bool.eq_false_iff.2 h1
    clear h1
    go_enter Trym.func6, Trym.ntmps6
    go_wp2
    refine wp_loop_rounds 1 ?_
    rw [rounds_succ]
    go_wp2
    go_ret
    exact ⟨_, _, rfl, (Below.refl _ _).alloc (Nat.le_refl _) _⟩

end Go.Proofs.Qxb6600178aMods
