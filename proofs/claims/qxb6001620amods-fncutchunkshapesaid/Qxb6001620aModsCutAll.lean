import Derived.Test.Qxb6001620aModsCut
namespace Go.Proofs.Qxb6001620aMods
open Go.RowKit

/-- No byte, and room behind it: no chunk. -/
theorem cut_none (a : Option Addr) (cap : Nat) (n : Int) (w : World) (h1 : 1 ≤ n) (h2 : 0 < cap) :
    Calls Trym.prog 15 #[.slice a 0 cap, .int .i64 n] w fun e w' => e = .returned (.slice none 0 0) ∧ w' = w := by
  have hb2 : ((0 : Int) == (cap : Int)) = false := by simpa using (by omega : ¬ (0 : Int) = (cap : Int))
  go_enter Trym.func15, Trym.ntmps15
  go_wp2
  refine wp_loop_rounds 1 ?_
  rw [rounds_succ]
  go_wp2
  go_ret
  exact ⟨rfl, rfl⟩

/-- ZZcut hands on what cut gives. -/
theorem zzcut {d n : Value} {w : World} {R : Value → World → Prop} (h : Calls Trym.prog 15 #[d, n] w fun e w' => ∃ v, e = .returned v ∧ R v w') :
    Calls Trym.prog 9 #[d, n] w fun e w' => ∃ v, e = .returned v ∧ R v w' := by
  have H : Hid (Calls Trym.prog 15 #[d, n] w fun e w' => ∃ v, e = .returned v ∧ R v w') := h
  clear h
  go_enter Trym.func9, Trym.ntmps9
  go_wp2_with (go_at_call 15; refine (Hid.out H).mono ?_; rintro e w' ⟨v, rfl, hv⟩)
  go_ret
  exact ⟨_, rfl, hv⟩

/-- What the chunks are: their slices lie in the row at vb; chunk k's bytes lie in block G k. -/
def ChunksAt (w' : World) (vb M N len : Nat) (zs : List Int) (G C : Nat → Nat) : Prop :=
  ∀ k, k < M → w'.cell? ⟨vb, k, none⟩ = some (.slice (some ⟨G k, 0, none⟩) (min N (len - k * N)) (C k)) ∧
    ∀ i, i < min N (len - k * N) → w'.cell? ⟨G k, i, none⟩ = some (.int .u8 (zs.getD (k * N + i) 0))

theorem cut_full (g len cap N : Nat) (zs : List Int) (w : World) (hg : g < w.heap.size) (h0 : 0 < len) (hN : 1 ≤ N) (hNm : N ≤ 9223372036854775807) (hlen : len ≤ 524288) (hcap : len ≤ cap) (hcap2 : cap ≤ 1048576)
    (hcell : ∀ i, i < len → w.cell? ⟨g, i, none⟩ = some (.int .u8 (zs.getD i 0))) :
    Calls Trym.prog 9 #[.slice (some ⟨g, 0, none⟩) len cap, .int .i64 N] w fun e w' => ∃ v, e = .returned v ∧ ∃ (vb M vc : Nat) (G C : Nat → Nat), v = .slice (some ⟨vb, 0, none⟩) M vc ∧ Below w.heap.size w w' ∧ len ≤ M * N ∧ M * N < len + N ∧ ChunksAt w' vb M N len zs G C := by
  refine zzcut ?_
  by_cases hbr : (len : Int) ≤ (N : Int) ∧ len = cap
  · obtain ⟨h1, rfl⟩ := hbr
    refine (cut_one (some ⟨g, 0, none⟩) len N w h1).mono ?_
    rintro e w' ⟨rfl, rfl⟩
    refine ⟨_, rfl, w.heap.size, 1, 1, fun _ => g, fun _ => len, rfl, (Below.refl _ _).alloc (Nat.le_refl _) _, by omega, by omega, ?_⟩
    intro k hk
    obtain rfl : k = 0 := by omega
    have e : min N (len - 0 * N) = len := by omega
    rw [e]
    refine ⟨by simp, fun i hi => ?_⟩
    rw [World.cell?_of_block (w := w) (Below.heap_alloc _ _ _ hg), hcell i hi]
    simp
  · refine (cut_many g len cap N zs w hg h0 hN hNm hlen hcap hcap2 hbr hcell).mono ?_
    rintro e w' ⟨v, L, rfl, hown, hbel, hc1, hc2, hL⟩
    have hLp : 0 < L.length := by
      rcases Nat.eq_zero_or_pos L.length with h | h
      · rw [h] at hc1; omega
      · exact h
    rcases hown.2 with ⟨_, h⟩ | ⟨vb, vc, cur, rfl, _, hh, _⟩
    · omega
    · refine ⟨_, rfl, vb, L.length, vc, fun k => (L.getD k (0, 0, 0)).1, fun k => (L.getD k (0, 0, 0)).2.2, rfl, hbel, hc1, hc2, ?_⟩
      intro k hk
      have hx : L[k]? = some (L.getD k (0, 0, 0)) := by simp [hk]
      obtain ⟨_, hl, c, hcb, hci⟩ := hL k _ hx
      rw [← hl]
      refine ⟨?_, fun i hi => ?_⟩
      · rw [hown.cellAt k (by omega), List.getElem?_map, hx]
        rfl
      · rw [cell_of_row w' _ i c 5 (0, 0) hcb]
        exact hci i hi

theorem fresh_zero (a : Option Addr) (cap : Nat) (room : Int) (w : World) (r0 : 0 ≤ room) (r1 : room ≤ 65536) :
    Calls Trym.prog 8 #[.slice a 0 cap, .int .i64 room] w fun e w' => ∃ (ao : Option Addr) (c : Nat), e = .returned (.slice ao 0 c) ∧ Below w.heap.size w w' := by
  refine (fresh_none a cap room w r0 r1).mono ?_
  rintro e w' (⟨rfl, rfl⟩ | ⟨c, rfl, rfl, _⟩)
  · exact ⟨_, _, rfl, Below.refl _ _⟩
  · exact ⟨_, _, rfl, (Below.refl _ _).alloc (Nat.le_refl _) _⟩

theorem cut_zero (a : Option Addr) (cap : Nat) (n : Int) (w : World) (h1 : 1 ≤ n) :
    Calls Trym.prog 9 #[.slice a 0 cap, .int .i64 n] w fun e w' => ∃ v, e = .returned v ∧ ((v = .slice none 0 0 ∧ w' = w) ∨ (v = .slice (some ⟨w.heap.size, 0, none⟩) 1 1 ∧ w' = w.alloc (.cells #[.slice a 0 0] 22))) := by
  refine zzcut ?_
  rcases Nat.eq_zero_or_pos cap with h | h
  · subst h
    refine (cut_one a 0 n w (by omega)).mono ?_
    rintro e w' ⟨rfl, rfl⟩
    exact ⟨_, rfl, .inr ⟨rfl, rfl⟩⟩
  · refine (cut_none a cap n w h1 h).mono ?_
    rintro e w' ⟨rfl, rfl⟩
    exact ⟨_, rfl, .inl ⟨rfl, rfl⟩⟩
end Go.Proofs.Qxb6001620aMods
