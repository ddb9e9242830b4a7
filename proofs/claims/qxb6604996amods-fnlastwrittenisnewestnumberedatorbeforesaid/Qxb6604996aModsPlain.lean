import Derived.Test.Qxb6604996aModsLast
namespace Go.Proofs.Qxb6604996aMods
open Go.RowKit

theorem num_iff (ps : List Int) (pos : Int) (n : Nat) : num ps pos n = true ↔ ¬ ps.getD n 0 = 0 ∧ ps.getD n 0 ≤ pos := by simp [num]

theorem lastW_lt (ps : List Int) (pos : Int) : ∀ n, -1 ≤ lastW ps pos n ∧ lastW ps pos n < n
  | 0 => by simp [lastW]
  | n + 1 => by
    have h := lastW_lt ps pos n
    unfold lastW
    split <;> omega

theorem lastW_mono (ps : List Int) {p q : Int} (h : p ≤ q) : ∀ n, lastW ps p n ≤ lastW ps q n
  | 0 => by simp [lastW]
  | n + 1 => by
    have ih := lastW_mono ps h n
    have hl := lastW_lt ps p n
    unfold lastW
    by_cases h1 : num ps p n = true
    · have h2 : num ps q n = true := by
        rw [num_iff] at h1 ⊢
        exact ⟨h1.1, by omega⟩
      rw [if_pos h1, if_pos h2]
      omega
    · rw [if_neg h1]
      split <;> omega

/-- What lastW gives: nothing numbered; or the newest that is. -/
theorem lastW_cases (ps : List Int) (pos : Int) : ∀ n, (lastW ps pos n = -1 ∧ ∀ j, j < n → num ps pos j = false) ∨ ∃ m, m < n ∧ lastW ps pos n = (m : Int) ∧ num ps pos m = true ∧ ∀ j, m < j → j < n → num ps pos j = false
  | 0 => .inl ⟨rfl, fun j hj => by omega⟩
  | n + 1 => by
    by_cases h : num ps pos n = true
    · exact .inr ⟨n, by omega, by simp [lastW, h], h, fun j h1 h2 => by omega⟩
    · have hf : num ps pos n = false := by simpa using h
      rcases lastW_cases ps pos n with ⟨h1, h2⟩ | ⟨m, h1, h2, h3, h4⟩
      · refine .inl ⟨by simp [lastW, hf, h1], fun j hj => ?_⟩
        by_cases e : j = n
        · rw [e]; exact hf
        · exact h2 j (by omega)
      · refine .inr ⟨m, by omega, by simp [lastW, hf, h2], h3, fun j ha hb => ?_⟩
        by_cases e : j = n
        · rw [e]; exact hf
        · exact h4 j ha (by omega)

theorem key_kept {w w' : World} {kb : Nat} {ps : List Int} (h : KeyAt w kb ps) (hb : Below w.heap.size w w') : KeyAt w' kb ps := by
  obtain ⟨v, hk, hown⟩ := h
  exact ⟨v, (hb.block kb (Array.getElem?_eq_some_iff.1 hk).1).trans hk, hown.kept (row := none) ⟨hb.os, hb.tape, hb.output, hb.size, fun k hk _ => hb.block k hk⟩ (by cases v.ownBlock <;> simp)⟩

theorem key_new (w : World) : KeyAt (w.alloc (.cells (keyCells (.slice none 0 0)) 70)) w.heap.size [] :=
  ⟨_, heap_alloc_new w _, World.ownsRow_nil _ _ _ _⟩

theorem take_snoc (zs : List Int) (k : Nat) (h : k < zs.length) : zs.take k ++ [zs.getD k 0] = zs.take (k + 1) := by
  rw [List.take_succ_eq_append_getElem h]
  simp [h]

theorem getD_take (zs : List Int) (n k : Nat) (h : k < n) : (zs.take n).getD k 0 = zs.getD k 0 := by
  simp [h]

/-- The answer under a name of its own. -/
theorem zzlast_ex (kb : Nat) (ps : List Int) (en pos : Int) (w : World) (hK : KeyAt w kb ps) (hl : ps.length ≤ 65536) (h1 : en ≤ (ps.length : Int)) (h2 : -65536 ≤ en) :
    Calls Trym.prog 12 #[.pointer (some ⟨kb, 0, none⟩), .int .i64 en, .int .u64 pos] w fun e w' => ∃ a, e = .returned (.int .i64 a) ∧ Hid (a = lastW ps pos en.toNat) ∧ Below w.heap.size w w' := by
  refine (zzlast_any kb ps en pos w hK hl h1 h2).mono ?_
  rintro e w' ⟨rfl, hb⟩
  exact ⟨_, rfl, rfl, hb⟩
end Go.Proofs.Qxb6604996aMods
