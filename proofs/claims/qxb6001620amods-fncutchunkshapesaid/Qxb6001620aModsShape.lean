import Derived.Test.Qxb6001620aModsCutAll
import Derived.WalkSmall
namespace Go.Proofs.Qxb6001620aMods
open Go.RowKit

theorem bytes10_any (a : Option Addr) (len cap : Nat) (n room : Int) (w : World) (h : len ≤ 524288) :
    Calls Trym.prog 10 #[.slice a len cap, .int .i64 n, .int .i64 room] w fun e w' => e = .returned (.bool true) ∧ w' = w := by
  go_enter Trym.func10, Trym.ntmps10
  go_wp2
  go_ret
  exact ⟨rfl, rfl⟩

/-- More than so many bytes, or a room or a chunk's size outside the law: true at once. -/
theorem shape_out (a : Option Addr) (len cap : Nat) (n room : Int) (w : World) (h : 524288 < len ∨ room < 0 ∨ 65536 < room ∨ n < 1) :
    Calls Trym.prog 4 #[.slice a len cap, .int .i64 n, .int .i64 room] w fun e w' => e = .returned (.bool true) ∧ Below w.heap.size w w' := by
  by_cases h1 : 1048576 < len
  · clear h
    go_enter Trym.func4, Trym.ntmps4
    go_wp2
    go_ret
    exact ⟨rfl, Below.refl _ _⟩
  by_cases h2 : 524288 < len
  · clear h
    go_enter Trym.func4, Trym.ntmps4
    go_wp2
    go_ret
    exact ⟨rfl, Below.refl _ _⟩
  by_cases h3 : room < 0
  · clear h
    go_enter Trym.func4, Trym.ntmps4
    go_wp2
    go_ret
    exact ⟨rfl, Below.refl _ _⟩
  by_cases h4 : 65536 < room
  · clear h
    go_enter Trym.func4, Trym.ntmps4
    go_wp2
    go_ret
    exact ⟨rfl, Below.refl _ _⟩
  · have h5 : n < 1 := by omega
    clear h
    go_enter Trym.func4, Trym.ntmps4
    go_wp2
    go_ret
    exact ⟨rfl, Below.refl _ _⟩

/-- The count of the chunks, by the quotient and the rest. -/
theorem count_is {len N M : Nat} (hN : 1 ≤ N) (h1 : len ≤ M * N) (h2 : M * N < len + N) : M = len / N + if len % N = 0 then 0 else 1 := by
  have hdm := Nat.div_add_mod len N
  have hr := Nat.mod_lt len (show 0 < N by omega)
  have hcomm : N * (len / N) = (len / N) * N := Nat.mul_comm _ _
  rcases Nat.lt_trichotomy M (len / N + if len % N = 0 then 0 else 1) with h | h | h
  · exfalso
    split at h
    · have h3 := Nat.mul_le_mul_right N (show M + 1 ≤ len / N by omega)
      rw [Nat.add_mul] at h3
      omega
    · have h3 := Nat.mul_le_mul_right N (show M ≤ len / N by omega)
      omega
  · exact h
  · exfalso
    split at h
    · have h3 := Nat.mul_le_mul_right N (show len / N + 1 ≤ M by omega)
      rw [Nat.add_mul] at h3
      omega
    · have h3 := Nat.mul_le_mul_right N (show len / N + 1 + 1 ≤ M by omega)
      rw [Nat.add_mul, Nat.add_mul] at h3
      omega

theorem chunk_len {len N M k : Nat} (hN : 1 ≤ N) (h : M * N < len + N) (hk : k < M) : 0 < min N (len - k * N) ∧ min N (len - k * N) ≤ N ∧ (k + 1 < M → min N (len - k * N) = N) := by
  have h1 := Nat.mul_le_mul_right N (show k + 1 ≤ M from hk)
  rw [Nat.add_mul] at h1
  refine ⟨by omega, by omega, fun h2 => ?_⟩
  have h3 := Nat.mul_le_mul_right N (show k + 1 + 1 ≤ M from h2)
  rw [Nat.add_mul, Nat.add_mul] at h3
  omega

set_option maxHeartbeats 800000 in
theorem shape_full (b off len cap N : Nat) (zs : List Int) (room : Int) (w : World) (h0 : 0 < len) (h1 : len ≤ 524288) (r0 : 0 ≤ room) (r1 : room ≤ 65536) (hN : 1 ≤ N) (hNm : N ≤ 9223372036854775807)
    (hc : ∀ i, i < len → w.cell? ⟨b, off + i, none⟩ = some (.int .u8 (zs.getD i 0))) :
    Calls Trym.prog 4 #[.slice (some ⟨b, off, none⟩) len cap, .int .i64 N, .int .i64 room] w fun e w' => e = .returned (.bool true) ∧ Below w.heap.size w w' := by
  have hbl : b < w.heap.size := World.block_lt_of_cell? w _ (hc 0 h0)
  go_enter Trym.func4, Trym.ntmps4
  go_wp2_with fail
  refine (bytes10_any _ len cap N room w h1).mono ?_
  rintro e w' ⟨rfl, hw⟩
  subst w'
  go_wp2_with fail
  refine (fresh_any b off len cap zs room _ h0 h1 r0 r1 hc).mono ?_
  rintro e w2 ⟨c2, rfl, rfl, hs2, hc2⟩
  go_wp2_with fail
  refine (cut_full w.heap.size len (len + room.toNat) N zs _ (by simp) h0 hN hNm h1 (by omega) (by omega) (fun i hi => by
    rw [cell_of_row _ _ i c2 5 (0, 0) (heap_alloc_new w _)]; exact hc2 i hi)).mono ?_
  rintro e w3 ⟨v, rfl, vb, M, vc, G, C, rfl, hbel, hM1, hM2, hch⟩
  have hB : Hid (Below w.heap.size w w3) := by
    refine Below.trans ?_ (hbel.mono (by simp))
    exact (Below.refl _ _).alloc (Nat.le_refl _) _
  have hMl : M ≤ 1048576 := by
    rcases Nat.le_total M 1048576 with h | h
    · exact h
    · have h2 := Nat.mul_le_mul_right N h
      omega
  have HM : Hid (len ≤ M * N ∧ M * N < len + N) := ⟨hM1, hM2⟩
  have hcount := count_is hN hM1 hM2
  have HC : Hid (ChunksAt w3 vb M N len zs G C) := hch
  have hn0 : ((len : Int) == 0) = false := by simpa using (by omega : ¬ (len : Int) = 0)
  obtain ⟨d, hd⟩ : ∃ d, d = len / N := ⟨_, rfl⟩
  obtain ⟨r, hr⟩ : ∃ r, r = len % N := ⟨_, rfl⟩
  rw [← hd, ← hr] at hcount
  have ed : (len : Int) / (N : Int) = (d : Int) := by rw [hd]; simp
  have er : (len : Int) % (N : Int) = (r : Int) := by rw [hr]; simp
  have hdl : d ≤ 524288 := by have := Nat.div_le_self len N; omega
  clear hbel hM1 hM2 hch hc2 hs2 hc hd hr
  by_cases hz : r = 0
  · subst hz
    obtain rfl : M = d := by simpa using hcount
    clear hcount
    go_wp2
    clear ed er
    go_loopg [11, 12] M (fun gk i _ wr => ∃ k : Nat, k + gk = M ∧ i = .int .i64 k ∧ wr = w3)
    case atStart => exact ⟨0, by omega, rfl, rfl⟩
    case round =>
      obtain ⟨k, hk, rfl, rfl⟩ := hrel
      by_cases hlt : k < M
      · obtain ⟨hcv, _⟩ := HC.out k hlt
        obtain ⟨hl0, hl1, hl2⟩ := chunk_len hN HM.out.2 hlt
        obtain ⟨l, hl⟩ : ∃ l, l = min N (len - k * N) := ⟨_, rfl⟩
        rw [← hl] at hcv hl0 hl1 hl2
        clear hl
        have hl3 : ((l : Int) == 0) = false := by simpa using (by omega : ¬ (l : Int) = 0)
        by_cases hlast : k + 1 < M
        · obtain rfl := hl2 hlast
          clear hl2
          go_wp2
          go_roundg (gk - 1)
          case measure => omega
          case rel => exact ⟨k + 1, by omega, by go_num, rfl⟩
        · clear hl2
          go_wp2
          go_roundg (gk - 1)
          case measure => omega
          case rel => exact ⟨k + 1, by omega, by go_num, rfl⟩
      · go_wp2
        go_ret
        exact ⟨rfl, hB.out⟩
  · have hz1 : ((r : Int) != 0) = true := by simpa using (by omega : ¬ (r : Int) = 0)
    obtain rfl : M = d + 1 := by simpa [hz] using hcount
    clear hcount
    go_wp2
    clear ed er
    go_loopg [11, 12] (d + 1) (fun gk i _ wr => ∃ k : Nat, k + gk = (d + 1) ∧ i = .int .i64 k ∧ wr = w3)
    case atStart => exact ⟨0, by omega, rfl, rfl⟩
    case round =>
      obtain ⟨k, hk, rfl, rfl⟩ := hrel
      by_cases hlt : k < (d + 1)
      · obtain ⟨hcv, _⟩ := HC.out k hlt
        obtain ⟨hl0, hl1, hl2⟩ := chunk_len hN HM.out.2 hlt
        obtain ⟨l, hl⟩ : ∃ l, l = min N (len - k * N) := ⟨_, rfl⟩
        rw [← hl] at hcv hl0 hl1 hl2
        clear hl
        have hl3 : ((l : Int) == 0) = false := by simpa using (by omega : ¬ (l : Int) = 0)
        by_cases hlast : k + 1 < (d + 1)
        · obtain rfl := hl2 hlast
          clear hl2
          go_wp2
          go_roundg (gk - 1)
          case measure => omega
          case rel => exact ⟨k + 1, by omega, by go_num, rfl⟩
        · clear hl2
          go_wp2
          go_roundg (gk - 1)
          case measure => omega
          case rel => exact ⟨k + 1, by omega, by go_num, rfl⟩
      · go_wp2
        go_ret
        exact ⟨rfl, hB.out⟩

/-- No byte at all. -/
theorem shape_none (a : Option Addr) (cap : Nat) (n : Int) (room : Int) (w : World) (r0 : 0 ≤ room) (r1 : room ≤ 65536) (hn : 1 ≤ n) :
    Calls Trym.prog 4 #[.slice a 0 cap, .int .i64 n, .int .i64 room] w fun e w' => e = .returned (.bool true) ∧ Below w.heap.size w w' := by
  go_enter Trym.func4, Trym.ntmps4
  go_wp2_with fail
  refine (bytes10_any _ 0 cap n room w (by omega)).mono ?_
  rintro e w' ⟨rfl, hw⟩
  subst w'
  go_wp2_with fail
  refine (fresh_zero a cap room _ r0 r1).mono ?_
  rintro e w2 ⟨a2, c2, rfl, hb2⟩
  go_wp2_with fail
  refine (cut_zero a2 c2 n _ hn).mono ?_
  have hB : Hid (Below w.heap.size w w2) := hb2
  clear hb2
  rintro e w3 ⟨v, rfl, ⟨rfl, rfl⟩ | ⟨rfl, rfl⟩⟩
  · go_wp2
    go_ret
    exact ⟨rfl, hB.out⟩
  · go_wp2
    go_ret
    exact ⟨rfl, hB.out.alloc (hB.out.size) _⟩
end Go.Proofs.Qxb6001620aMods
