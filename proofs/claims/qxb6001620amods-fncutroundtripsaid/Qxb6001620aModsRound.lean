import Derived.Test.Qxb6001620aModsCutAll
import Derived.Deep.QuietTactic
import Derived.BigQuiet
import Derived.WalkSmall
namespace Go.Proofs.Qxb6001620aMods
open Go.RowKit

theorem getB (c : Array Value) (w : World) (i : Nat) : (w.alloc (.cells c 5)).cell? ⟨w.heap.size, i, none⟩ = c[i]? := cell_of_row _ _ i c 5 (0, 0) (heap_alloc_new w _)

/-- More than so many bytes, or a room or a chunk's size outside the law: true at once. -/
theorem round_out (a : Option Addr) (len cap : Nat) (n room : Int) (w : World) (h : 524288 < len ∨ room < 0 ∨ 65536 < room ∨ n < 1) :
    Calls Trym.prog 3 #[.slice a len cap, .int .i64 n, .int .i64 room] w fun e w' => e = .returned (.bool true) ∧ Below w.heap.size w w' := by
  by_cases h1 : 1048576 < len
  · clear h
    go_enter Trym.func3, Trym.ntmps3
    go_wp2
    go_ret
    exact ⟨rfl, Below.refl _ _⟩
  by_cases h2 : 524288 < len
  · clear h
    go_enter Trym.func3, Trym.ntmps3
    go_wp2
    go_ret
    exact ⟨rfl, Below.refl _ _⟩
  by_cases h3 : room < 0
  · clear h
    go_enter Trym.func3, Trym.ntmps3
    go_wp2
    go_ret
    exact ⟨rfl, Below.refl _ _⟩
  by_cases h4 : 65536 < room
  · clear h
    go_enter Trym.func3, Trym.ntmps3
    go_wp2
    go_ret
    exact ⟨rfl, Below.refl _ _⟩
  · have h5 : n < 1 := by omega
    clear h
    go_enter Trym.func3, Trym.ntmps3
    go_wp2
    go_ret
    exact ⟨rfl, Below.refl _ _⟩

theorem next_pos {p k N l len : Nat} (h1 : p = min (k * N) len) (h2 : l = min N (len - k * N)) (h3 : p = k * N) : p + l = min ((k + 1) * N) len := by
  rw [Nat.add_mul]
  omega

theorem round_full (b off len cap N : Nat) (zs : List Int) (room : Int) (w : World) (h0 : 0 < len) (h1 : len ≤ 524288) (r0 : 0 ≤ room) (r1 : room ≤ 65536) (hN : 1 ≤ N) (hNm : N ≤ 9223372036854775807)
    (hc : ∀ i, i < len → w.cell? ⟨b, off + i, none⟩ = some (.int .u8 (zs.getD i 0))) :
    Calls Trym.prog 3 #[.slice (some ⟨b, off, none⟩) len cap, .int .i64 N, .int .i64 room] w fun e w' => e = .returned (.bool true) ∧ Below w.heap.size w w' := by
  have hbl : b < w.heap.size := World.block_lt_of_cell? w _ (hc 0 h0)
  go_enter Trym.func3, Trym.ntmps3
  go_wp2_with fail
  refine (bytes7_any _ len cap N room w h1).mono ?_
  rintro e w' ⟨rfl, hw⟩
  subst w'
  go_wp2_with fail
  refine (fresh_any b off len cap zs 0 _ h0 h1 (by omega) (by omega) hc).mono ?_
  rintro e w1 ⟨c1, rfl, rfl, hs1, hc1⟩
  go_wp2_with fail
  refine (fresh_any b off len cap zs room _ h0 h1 r0 r1 (fun i hi => by rw [World.cell?_of_block (w := w) (Below.heap_alloc _ _ _ hbl)]; exact hc i hi)).mono ?_
  rintro e w2 ⟨c2, rfl, rfl, hs2, hc2⟩
  go_wp2_with fail
  refine (cut_full (w.heap.size + 1) len (len + room.toNat) N zs _ (by simp) h0 hN hNm h1 (by omega) (by omega) (fun i hi => by
    have e : w.heap.size + 1 = (w.alloc (.cells c1 5)).heap.size := by simp
    rw [e, getB]; exact hc2 i hi)).mono ?_
  rintro e w3 ⟨v, rfl, vb, M, vc, G, C, rfl, hbel, hM1, hM2, hch⟩
  have ho : ∀ i, i < len → w3.cell? ⟨w.heap.size, i, none⟩ = some (.int .u8 (zs.getD i 0)) := by
    intro i hi
    rw [hbel.cell (p := ⟨w.heap.size, i, none⟩) (by simp; omega), World.cell?_of_block (w := w.alloc (.cells c1 5)) (Below.heap_alloc _ _ _ (by simp)), getB]
    exact hc1 i hi
  have hB : Hid (Below w.heap.size w w3) := by
    refine Below.trans ?_ (hbel.mono (by simp; omega))
    exact ((Below.refl _ _).alloc (Nat.le_refl _) _).alloc (by simp) _
  have hMl : M ≤ 1048576 := by
    rcases Nat.le_total M 1048576 with h | h
    · exact h
    · have h2 := Nat.mul_le_mul_right N h
      omega
  have HM : Hid (len ≤ M * N ∧ M * N < len + N) := ⟨hM1, hM2⟩
  have HC : Hid (ChunksAt w3 vb M N len zs G C) := hch
  have HO : Hid (∀ i, i < len → w3.cell? ⟨w.heap.size, i, none⟩ = some (.int .u8 (zs.getD i 0))) := ho
  clear hbel hM1 hM2 hch hc1 hc2 hs1 hs2 hc ho
  go_wp2
  go_loopw [10, 11, 12, 13] (fun pos i _ _ wr => ∃ k p nd : Nat, k ≤ M ∧ i = .int .i64 k ∧ pos = .int .i64 p ∧ p = min (k * N) len ∧ wr = w3.drewN nd) (fun _ i _ _ _ => M - (intOf i).toNat)
  case atStart => exact ⟨0, 0, 0, Nat.zero_le _, rfl, rfl, by simp, rfl⟩
  case round =>
    obtain ⟨k, p, nd, hk, rfl, rfl, hp, rfl⟩ := hrel
    have HP : Hid (p = min (k * N) len) := hp
    have hpl : p ≤ len := by omega
    clear hp
    by_cases hlt : k < M
    · obtain ⟨hcv, hcb⟩ := HC.out k hlt
      obtain ⟨l, hl⟩ : ∃ l, l = min N (len - k * N) := ⟨_, rfl⟩
      rw [← hl] at hcv hcb
      have HL : Hid (l = min N (len - k * N)) := hl
      have hkN : k * N < len := by
        have h1 := HM.out.2
        have h2 := Nat.mul_le_mul_right N (show k + 1 ≤ M from hlt)
        rw [Nat.add_mul] at h2
        omega
      have hpk : Hid (p = k * N) := by have := HP.out; show p = k * N; omega
      have hpl2 : p + l ≤ len := by have := hpk.out; omega
      have HB : Hid (∀ i, i < l → w3.cell? ⟨G k, i, none⟩ = some (.int .u8 (zs.getD (k * N + i) 0))) := hcb
      clear hl hcb hkN
      go_wp2
      go_loopw [10, 13] (fun pos j wr => ∃ t nd : Nat, t ≤ l ∧ j = .int .i64 t ∧ pos = .int .i64 ((p : Int) + (t : Int)) ∧ wr = w3.drewN nd) (fun _ j _ => l - (intOf j).toNat)
      case atStart => exact ⟨0, nd, Nat.zero_le _, rfl, by simp, rfl⟩
      case round =>
        obtain ⟨t, nd2, ht, rfl, rfl, rfl⟩ := hrel
        by_cases hlt2 : t < l
        · have hx1 : w3.cell? ⟨G k, t, none⟩ = some (.int .u8 (zs.getD (p + t) 0)) := by rw [hpk.out]; exact HB.out t hlt2
          have hx2 : w3.cell? ⟨w.heap.size, p + t, none⟩ = some (.int .u8 (zs.getD (p + t) 0)) := HO.out _ (by omega)
          have hd : decide ((len : Int) ≤ (p : Int) + (t : Int)) = false := decide_eq_false (by omega)
          have hd2 : ¬ (len : Int) ≤ (p : Int) + (t : Int) := by omega
          have hq1 : (t : Int) < (l : Int) := by omega
          have hq2 : (p : Int) + (t : Int) < (len : Int) := by omega
          go_wp2
          go_quiet (fail)
          go_wp2
          go_roundw
          case rel => exact ⟨t + 1, _, by omega, by go_num, by go_num, rfl⟩
          case measure => simp [intOf]; omega
        · go_wp2
          obtain rfl : t = l := by omega
          go_roundw
          case rel => exact ⟨k + 1, p + t, _, by omega, by go_num, by go_num, next_pos HP.out HL.out hpk.out, rfl⟩
          case measure => simp [intOf]; omega
    · obtain rfl : k = M := by omega
      have hpe : p = len := by have := HP.out; have := HM.out; omega
      subst hpe
      go_wp2
      go_ret
      exact ⟨rfl, below_drewN hB.out _⟩

/-- No byte at all. -/
theorem round_none (a : Option Addr) (cap : Nat) (n : Int) (room : Int) (w : World) (r0 : 0 ≤ room) (r1 : room ≤ 65536) (hn : 1 ≤ n) :
    Calls Trym.prog 3 #[.slice a 0 cap, .int .i64 n, .int .i64 room] w fun e w' => e = .returned (.bool true) ∧ Below w.heap.size w w' := by
  go_enter Trym.func3, Trym.ntmps3
  go_wp2_with fail
  refine (bytes7_any _ 0 cap n room w (by omega)).mono ?_
  rintro e w' ⟨rfl, hw⟩
  subst w'
  go_wp2_with fail
  refine (fresh_zero a cap 0 _ (by omega) (by omega)).mono ?_
  rintro e w1 ⟨a1, c1, rfl, hb1⟩
  go_wp2_with fail
  refine (fresh_zero a cap room _ r0 r1).mono ?_
  rintro e w2 ⟨a2, c2, rfl, hb2⟩
  go_wp2_with fail
  refine (cut_zero a2 c2 n _ hn).mono ?_
  have hB : Hid (Below w.heap.size w w2) := hb1.trans (hb2.mono hb1.size)
  clear hb1 hb2
  rintro e w3 ⟨v, rfl, ⟨rfl, rfl⟩ | ⟨rfl, rfl⟩⟩
  · go_wp2
    refine wp_loop_rounds 1 ?_
    rw [rounds_succ]
    go_wp2
    go_ret
    exact ⟨rfl, hB.out⟩
  · go_wp2
    refine wp_loop_rounds 2 ?_
    rw [rounds_succ]
    go_wp2
    refine wp_loop_rounds 1 ?_
    rw [rounds_succ]
    go_wp2
    rw [rounds_succ]
    go_wp2
    go_ret
    exact ⟨rfl, hB.out.alloc (hB.out.size) _⟩
end Go.Proofs.Qxb6001620aMods
