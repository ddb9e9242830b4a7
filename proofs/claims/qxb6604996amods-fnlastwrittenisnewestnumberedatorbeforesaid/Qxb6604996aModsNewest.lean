import Derived.Test.Qxb6604996aModsPlain
namespace Go.Proofs.Qxb6604996aMods
open Go.RowKit

theorem numby_true (p pos : Int) (w : World) (h : ¬ p = 0 ∧ p ≤ pos) : Calls Trym.prog 13 #[.int .u64 p, .int .u64 pos] w fun e w' => e = .returned (.bool true) ∧ w' = w := by
  obtain ⟨h1, h2⟩ := h
  have h3 : (p != 0) = true := by simpa using h1
  clear h1
  go_enter Trym.func13, Trym.ntmps13
  go_wp2
  go_ret
  exact ⟨rfl, rfl⟩

theorem numby_false (p pos : Int) (w : World) (h : ¬ (¬ p = 0 ∧ p ≤ pos)) : Calls Trym.prog 13 #[.int .u64 p, .int .u64 pos] w fun e w' => e = .returned (.bool false) ∧ w' = w := by
  by_cases h1 : p = 0
  · have h3 : (p != 0) = false := by simpa using h1
    clear h1 h
    go_enter Trym.func13, Trym.ntmps13
    go_wp2
    go_ret
    exact ⟨rfl, rfl⟩
  · have h3 : (p != 0) = true := by simpa using h1
    have h4 : ¬ p ≤ pos := fun e => h ⟨h1, e⟩
    clear h1 h
    go_enter Trym.func13, Trym.ntmps13
    go_wp2
    go_ret
    exact ⟨rfl, rfl⟩

theorem ans_full {zs : List Int} {pos a : Int} {n : Nat} (h : a = lastW zs pos n) : (a = -1 ∧ ∀ j, j < n → num zs pos j = false) ∨ ∃ A : Nat, a = (A : Int) ∧ A < n ∧ (¬ zs.getD A 0 = 0 ∧ zs.getD A 0 ≤ pos) ∧ ∀ j, A < j → j < n → num zs pos j = false := by
  rcases lastW_cases zs pos n with ⟨h1, h2⟩ | ⟨m, h1, h2, h3, h4⟩
  · exact .inl ⟨h.trans h1, h2⟩
  · exact .inr ⟨m, h.trans h2, h1, (num_iff _ _ _).1 h3, h4⟩

theorem newest_out (a : Option Addr) (len cap : Nat) (en p : Int) (w : World) (h : 65536 < len ∨ en < -65536 ∨ (len : Int) < en) :
    Calls Trym.prog 3 #[.slice a len cap, .int .i64 en, .int .u64 p] w fun e w' => e = .returned (.bool true) ∧ Below w.heap.size w w' := by
  by_cases h1 : 1048576 < len
  · clear h
    go_enter Trym.func3, Trym.ntmps3
    go_wp2
    go_ret
    exact ⟨rfl, Below.refl _ _⟩
  by_cases h2 : 65536 < len
  · clear h
    go_enter Trym.func3, Trym.ntmps3
    go_wp2
    go_ret
    exact ⟨rfl, Below.refl _ _⟩
  by_cases h3 : en < -65536
  · clear h
    go_enter Trym.func3, Trym.ntmps3
    go_wp2
    go_ret
    exact ⟨rfl, Below.refl _ _⟩
  · have h5 : (len : Int) < en := by omega
    clear h
    go_enter Trym.func3, Trym.ntmps3
    go_wp2
    go_ret
    exact ⟨rfl, Below.refl _ _⟩

set_option maxHeartbeats 1000000 in
theorem newest_full (b off len cap : Nat) (zs : List Int) (en p : Int) (w : World) (hz : zs.length = len) (h0 : 0 < len) (h1 : len ≤ 65536) (h2 : -65536 ≤ en) (h3 : en ≤ (len : Int))
    (hc : ∀ i, i < len → w.cell? ⟨b, off + i, none⟩ = some (.int .u64 (zs.getD i 0))) :
    Calls Trym.prog 3 #[.slice (some ⟨b, off, none⟩) len cap, .int .i64 en, .int .u64 p] w fun e w' => e = .returned (.bool true) ∧ Below w.heap.size w w' := by
  have hbl : b < w.heap.size := World.block_lt_of_cell? w _ (hc 0 h0)
  have HC : Hid (∀ i, i < len → w.cell? ⟨b, off + i, none⟩ = some (.int .u64 (zs.getD i 0))) := hc
  have HZ : Hid (zs.length = len) := hz
  clear hc hz
  go_enter Trym.func3, Trym.ntmps3
  go_wp2_with fail
  refine (bytes8_any _ len cap en p w h1).mono ?_
  rintro e w' ⟨rfl, hw⟩
  subst w'
  go_wp2_with fail
  refine (clone_any b off len cap zs w h0 h1 HC.out).mono ?_
  rintro e w1 ⟨c1, rfl, rfl, hs1, hc1⟩
  go_wp2_with fail
  refine (newKey_any _).mono ?_
  rintro e w2 ⟨rfl, rfl⟩
  have hw2 : Hid (((w.alloc (.cells c1 23)).alloc (.cells (keyCells (.slice none 0 0)) 70)).heap[w.heap.size]? = some (.cells c1 23 (0, 0))) := by
    show _ = _
    rw [Below.heap_alloc _ _ _ (by simp)]
    exact heap_alloc_new w _
  have hk2 : KeyAt ((w.alloc (.cells c1 23)).alloc (.cells (keyCells (.slice none 0 0)) 70)) (w.heap.size + 1) [] := by
    have := key_new (w.alloc (.cells c1 23))
    simpa using this
  have hB2 : Hid (Below w.heap.size w ((w.alloc (.cells c1 23)).alloc (.cells (keyCells (.slice none 0 0)) 70))) := ((Below.refl _ _).alloc (Nat.le_refl _) _).alloc (by simp) _
  have HC1 : Hid (∀ i, i < len → c1[i]? = some (.int .u64 (zs.getD i 0))) := hc1
  clear hc1 hs1
  go_wp2_with fail
  go_loopw [8] (fun i wr => ∃ k : Nat, k ≤ len ∧ i = .int .i64 k ∧ KeyAt wr (w.heap.size + 1) (zs.take k) ∧ wr.heap[w.heap.size]? = some (.cells c1 23 (0, 0)) ∧ Below w.heap.size w wr) (fun i _ => len - (intOf i).toNat)
  case atStart => exact ⟨0, Nat.zero_le _, rfl, hk2, hw2.out, hB2.out⟩
  case round =>
    obtain ⟨k, hk, rfl, hK, hrow, hB⟩ := hrel
    have HK : Hid (KeyAt wr (w.heap.size + 1) (zs.take k)) := hK
    have HR : Hid (wr.heap[w.heap.size]? = some (.cells c1 23 (0, 0))) := hrow
    have HB : Hid (Below w.heap.size w wr) := hB
    have hsz : w.heap.size + 1 < wr.heap.size := by
      obtain ⟨v, h, _⟩ := hK
      exact (Array.getElem?_eq_some_iff.1 h).1
    clear hK hrow hB hk2 hw2 hB2
    by_cases hlt : k < len
    · have hx : wr.cell? ⟨w.heap.size, k, none⟩ = some (.int .u64 (zs.getD k 0)) := (cell_of_row wr _ k c1 23 (0, 0) HR.out).trans (HC1.out k hlt)
      go_wp2_with (go_at_call 11; refine (append_any (w.heap.size + 1) (zs.take k) _ _ HK.out (by have := HZ.out; simp; omega)).mono ?_)
      rintro e w3 ⟨rfl, hK3, hB3⟩
      have HK3 : Hid (KeyAt w3 (w.heap.size + 1) (zs.take (k + 1))) := by
        have e := take_snoc zs k (by have := HZ.out; omega)
        show KeyAt _ _ _
        rw [← e]
        simpa using hK3
      have HR3 : Hid (w3.heap[w.heap.size]? = some (.cells c1 23 (0, 0))) := (hB3.block _ (by omega)).trans HR.out
      have HB3 : Hid (Below w.heap.size w w3) := HB.out.trans (hB3.mono (by omega))
      clear hK3 hB3
      go_wp2
      go_roundw
      case rel => exact ⟨k + 1, by omega, by go_num, HK3.out, HR3.out, HB3.out⟩
      case measure => simp [intOf]; omega
    · obtain rfl : k = len := by omega
      have HK0 : Hid (KeyAt wr (w.heap.size + 1) zs) := by
        have e := HK.out
        rw [List.take_of_length_le (by have := HZ.out; omega)] at e
        exact e
      have hzl : zs.length ≤ 65536 := by have := HZ.out; omega
      have hze : en ≤ (zs.length : Int) := by have := HZ.out; omega
      clear HK HC hk hlt
      go_wp2_with fail
      refine (zzlast_ex (w.heap.size + 1) zs en p _ HK0.out hzl hze h2).mono ?_
      rintro e w4 ⟨a, rfl, ha, hb4⟩
      have HR4 : Hid (w4.heap[w.heap.size]? = some (.cells c1 23 (0, 0))) := (hb4.block _ (by omega)).trans HR.out
      have HB4 : Hid (Below w.heap.size w w4) := HB.out.trans (hb4.mono (by omega))
      have HA : Hid (a = lastW zs p en.toNat) := ha
      clear hb4 HK0 HR HB ha hsz
      rcases ans_full HA.out with ⟨ea, hno⟩ | ⟨A, ea, hA1, hA2, hA3⟩
      · subst ea
        have HN : Hid (∀ j, j < en.toNat → num zs p j = false) := hno
        clear hno HA
        go_wp2_with fail
        go_loopg [10] en.toNat (fun gk j wx => ∃ m : Nat, m + gk = en.toNat ∧ j = .int .i64 m ∧ wx = w4)
        case atStart => exact ⟨0, by omega, rfl, rfl⟩
        case round =>
          obtain ⟨m, hm, rfl, rfl⟩ := hrel
          by_cases hlt2 : (m : Int) < en
          · have hmk : m < k := by omega
            have hx : wr.cell? ⟨w.heap.size, m, none⟩ = some (.int .u64 (zs.getD m 0)) := (cell_of_row wr _ m c1 23 (0, 0) HR4.out).trans (HC1.out m hmk)
            obtain ⟨x, ex⟩ : ∃ x, x = zs.getD m 0 := ⟨_, rfl⟩
            rw [← ex] at hx
            have HX : Hid (¬ (¬ x = 0 ∧ x ≤ p)) := by
              show ¬ (¬ x = 0 ∧ x ≤ p)
              have h := HN.out m (by omega)
              rw [← Bool.not_eq_true, num_iff] at h
              rw [ex]
              exact h
            clear ex
            go_wp2_with (go_at_call 13; refine (numby_false _ _ _ HX.out).mono ?_; rintro e w' ⟨rfl, hww⟩; subst w')
            go_roundg (gk - 1)
            case measure => omega
            case rel => exact ⟨m + 1, by omega, by go_num, rfl⟩
          · go_wp2
            go_ret
            exact ⟨rfl, HB4.out⟩
      · subst ea
        have HN : Hid (∀ j, A < j → j < en.toNat → num zs p j = false) := hA3
        have hAk : A < k := by omega
        have hAe : (A : Int) < en := by omega
        have hAm : ((A : Int) == -1) = false := by simp
        have hca : w4.cell? ⟨w.heap.size, A, none⟩ = some (.int .u64 (zs.getD A 0)) := (cell_of_row w4 _ A c1 23 (0, 0) HR4.out).trans (HC1.out A (by omega))
        obtain ⟨x, ex⟩ : ∃ x, x = zs.getD A 0 := ⟨_, rfl⟩
        rw [← ex] at hca hA2
        have HX : Hid (¬ x = 0 ∧ x ≤ p) := hA2
        clear ex hA2 hA3 HA
        go_wp2_with (go_at_call 13; refine (numby_true _ _ _ HX.out).mono ?_; rintro e w' ⟨rfl, hww⟩; subst w')
        go_loopg [11] en.toNat (fun gk j wx => ∃ m : Nat, A + 1 ≤ m ∧ m + gk ≤ en.toNat + A + 1 ∧ m ≤ en.toNat ∧ en.toNat ≤ m + gk ∧ j = .int .i64 m ∧ wx = w4)
        case atStart => exact ⟨A + 1, by omega, by omega, by omega, by omega, by go_num, rfl⟩
        case round =>
          obtain ⟨m, hm0, hm, hm1, hm2, rfl, rfl⟩ := hrel
          by_cases hlt2 : (m : Int) < en
          · have hmk : m < k := by omega
            have hx : wr.cell? ⟨w.heap.size, m, none⟩ = some (.int .u64 (zs.getD m 0)) := (cell_of_row wr _ m c1 23 (0, 0) HR4.out).trans (HC1.out m hmk)
            obtain ⟨y, ey⟩ : ∃ y, y = zs.getD m 0 := ⟨_, rfl⟩
            rw [← ey] at hx
            have HY : Hid (¬ (¬ y = 0 ∧ y ≤ p)) := by
              show ¬ (¬ y = 0 ∧ y ≤ p)
              have h := HN.out m (by omega) (by omega)
              rw [← Bool.not_eq_true, num_iff] at h
              rw [ey]
              exact h
            clear ey
            go_wp2_with (go_at_call 13; refine (numby_false _ _ _ HY.out).mono ?_; rintro e w' ⟨rfl, hww⟩; subst w')
            go_roundg (gk - 1)
            case measure => omega
            case rel => exact ⟨m + 1, by omega, by omega, by omega, by omega, by go_num, rfl⟩
          · go_wp2
            go_ret
            exact ⟨rfl, HB4.out⟩

/-- No element at all. -/
theorem newest_none (a0 : Option Addr) (cap : Nat) (en p : Int) (w : World) (h2 : -65536 ≤ en) (h3 : en ≤ 0) :
    Calls Trym.prog 3 #[.slice a0 0 cap, .int .i64 en, .int .u64 p] w fun e w' => e = .returned (.bool true) ∧ Below w.heap.size w w' := by
  have he : en.toNat = 0 := by omega
  have HE : Hid (en.toNat = 0) := he
  clear he
  go_enter Trym.func3, Trym.ntmps3
  go_wp2_with fail
  refine (bytes8_any _ 0 cap en p w (by omega)).mono ?_
  rintro e w' ⟨rfl, hw⟩
  subst w'
  go_wp2_with fail
  refine (clone_none a0 cap w).mono ?_
  rintro e w1 ⟨a1, cap1, rfl, hb1⟩
  go_wp2_with fail
  refine (newKey_any _).mono ?_
  rintro e w2 ⟨rfl, rfl⟩
  have HK : Hid (KeyAt (w1.alloc (.cells (keyCells (.slice none 0 0)) 70)) w1.heap.size []) := key_new w1
  have HB : Hid (Below w.heap.size w (w1.alloc (.cells (keyCells (.slice none 0 0)) 70))) := hb1.alloc hb1.size _
  have hs1 : w.heap.size ≤ (w1.alloc (.cells (keyCells (.slice none 0 0)) 70)).heap.size := HB.out.size
  obtain ⟨w3, e3⟩ : ∃ w3, w3 = w1.alloc (.cells (keyCells (.slice none 0 0)) 70) := ⟨_, rfl⟩
  rw [← e3] at HK HB hs1 ⊢
  clear hb1 e3
  go_wp2_with fail
  refine wp_loop_rounds 1 ?_
  rw [rounds_succ]
  go_wp2_with fail
  refine (zzlast_ex w1.heap.size [] en _ _ HK.out (by simp) (by simpa using h3) h2).mono ?_
  rintro e w4 ⟨a, rfl, ha, hb4⟩
  obtain rfl : a = -1 := by rw [ha.out, HE.out]; rfl
  have HB4 : Hid (Below w.heap.size w w4) := HB.out.trans (hb4.mono (by omega))
  clear hb4 ha
  go_wp2_with fail
  refine wp_loop_rounds 1 ?_
  rw [rounds_succ]
  go_wp2
  go_ret
  exact ⟨rfl, HB4.out⟩
end Go.Proofs.Qxb6604996aMods
