import Derived.Test.Qxb6604996aModsGrows
namespace Go.Proofs.Qxb6604996aMods
open Go.RowKit

set_option maxHeartbeats 1000000 in
theorem grows_gt (b off len cap : Nat) (zs : List Int) (en p q : Int) (w : World) (hpq : q < p) (hz : zs.length = len) (h0 : 0 < len) (h1 : len ≤ 65536) (h2 : -65536 ≤ en) (h3 : en ≤ (len : Int))
    (hp : 0 ≤ q) (hq : p ≤ 18446744073709551615) (hwf : ∀ i, i < len → 0 ≤ zs.getD i 0 ∧ zs.getD i 0 ≤ 18446744073709551615)
    (hc : ∀ i, i < len → w.cell? ⟨b, off + i, none⟩ = some (.int .u64 (zs.getD i 0))) :
    Calls Trym.prog 4 #[.slice (some ⟨b, off, none⟩) len cap, .int .i64 en, .int .u64 p, .int .u64 q] w fun e w' => e = .returned (.bool true) ∧ Below w.heap.size w w' := by
  have hbl : b < w.heap.size := World.block_lt_of_cell? w _ (hc 0 h0)
  have HC : Hid (∀ i, i < len → w.cell? ⟨b, off + i, none⟩ = some (.int .u64 (zs.getD i 0))) := hc
  have HW : Hid (∀ i, i < len → 0 ≤ zs.getD i 0 ∧ zs.getD i 0 ≤ 18446744073709551615) := hwf
  have HZ : Hid (zs.length = len) := hz
  have HP : Hid (0 ≤ q ∧ p ≤ 18446744073709551615) := ⟨hp, hq⟩
  clear hc hwf hz hp hq
  go_enter Trym.func4, Trym.ntmps4
  go_wp2_with fail
  refine (bytes14_any _ len cap en p q w h1).mono ?_
  rintro e w' ⟨rfl, hw⟩
  subst w'
  go_wp2_with fail
  refine (clone_any b off len cap zs w h0 h1 HC.out).mono ?_
  rintro e w1 ⟨c1, rfl, rfl, hs1, hc1⟩
  go_wp2_with fail
  refine (newKey_any _).mono ?_
  rintro e w2 ⟨rfl, rfl⟩
  have hw2 : Hid (((w.alloc (.cells c1 23)).alloc (.cells (keyCells (.slice none 0 0)) 70)).heap[w.heap.size]? = some (.cells c1 23 (0, 0))) := by
    show _ = _
    rw [Below.heap_alloc _ _ _ (by simp)]
    exact heap_alloc_new w _
  have hk2 : KeyAt ((w.alloc (.cells c1 23)).alloc (.cells (keyCells (.slice none 0 0)) 70)) (w.heap.size + 1) [] := by
    have := key_new (w.alloc (.cells c1 23))
    simpa using this
  have hB2 : Hid (Below w.heap.size w ((w.alloc (.cells c1 23)).alloc (.cells (keyCells (.slice none 0 0)) 70))) := ((Below.refl _ _).alloc (Nat.le_refl _) _).alloc (by simp) _
  have HC1 : Hid (∀ i, i < len → c1[i]? = some (.int .u64 (zs.getD i 0))) := hc1
  clear hc1 hs1
  go_wp2_with fail
  go_loopw [12] (fun i wr => ∃ k : Nat, k ≤ len ∧ i = .int .i64 k ∧ KeyAt wr (w.heap.size + 1) (zs.take k) ∧ wr.heap[w.heap.size]? = some (.cells c1 23 (0, 0)) ∧ Below w.heap.size w wr) (fun i _ => len - (intOf i).toNat)
  case atStart => exact ⟨0, Nat.zero_le _, rfl, hk2, hw2.out, hB2.out⟩
  case round =>
    obtain ⟨k, hk, rfl, hK, hrow, hB⟩ := hrel
    have HK : Hid (KeyAt wr (w.heap.size + 1) (zs.take k)) := hK
    have HR : Hid (wr.heap[w.heap.size]? = some (.cells c1 23 (0, 0))) := hrow
    have HB : Hid (Below w.heap.size w wr) := hB
    have hsz : w.heap.size + 1 < wr.heap.size := by
      obtain ⟨v, h, _⟩ := hK
      exact (Array.getElem?_eq_some_iff.1 h).1
    clear hK hrow hB hk2 hw2 hB2
    by_cases hlt : k < len
    · have hx : wr.cell? ⟨w.heap.size, k, none⟩ = some (.int .u64 (zs.getD k 0)) := (cell_of_row wr _ k c1 23 (0, 0) HR.out).trans (HC1.out k hlt)
      go_wp2_with (go_at_call 11; refine (append_any (w.heap.size + 1) (zs.take k) _ _ HK.out (by have := HZ.out; simp; omega)).mono ?_)
      rintro e w3 ⟨rfl, hK3, hB3⟩
      have HK3 : Hid (KeyAt w3 (w.heap.size + 1) (zs.take (k + 1))) := by
        have e := take_snoc zs k (by have := HZ.out; omega)
        show KeyAt _ _ _
        rw [← e]
        simpa using hK3
      have HR3 : Hid (w3.heap[w.heap.size]? = some (.cells c1 23 (0, 0))) := (hB3.block _ (by omega)).trans HR.out
      have HB3 : Hid (Below w.heap.size w w3) := HB.out.trans (hB3.mono (by omega))
      clear hK3 hB3
      go_wp2
      go_roundw
      case rel => exact ⟨k + 1, by omega, by go_num, HK3.out, HR3.out, HB3.out⟩
      case measure => simp [intOf]; omega
    · obtain rfl : k = len := by omega
      have HK0 : Hid (KeyAt wr (w.heap.size + 1) zs) := by
        have e := HK.out
        rw [List.take_of_length_le (by have := HZ.out; omega)] at e
        exact e
      have hzl : zs.length ≤ 65536 := by have := HZ.out; omega
      have hze : en ≤ (zs.length : Int) := by have := HZ.out; omega
      clear HK HC hk hlt
      go_wp2_with fail
      refine (zzlast_ex (w.heap.size + 1) zs en q _ HK0.out hzl hze h2).mono ?_
      rintro e w4 ⟨a, rfl, ha, hb4⟩
      have HK4 : Hid (KeyAt w4 (w.heap.size + 1) zs) := key_kept HK0.out hb4
      have HR4 : Hid (w4.heap[w.heap.size]? = some (.cells c1 23 (0, 0))) := (hb4.block _ (by omega)).trans HR.out
      have HB4 : Hid (Below w.heap.size w w4) := HB.out.trans (hb4.mono (by omega))
      have hs4 : wr.heap.size ≤ w4.heap.size := hb4.size
      clear hb4 HK0 HR HB
      go_wp2_with fail
      refine (zzlast_ex (w.heap.size + 1) zs en p _ HK4.out hzl hze h2).mono ?_
      rintro e w5 ⟨bb, rfl, hbb, hb5⟩
      have HK5 : Hid (KeyAt w5 (w.heap.size + 1) zs) := key_kept HK4.out hb5
      have HR5 : Hid (w5.heap[w.heap.size]? = some (.cells c1 23 (0, 0))) := (hb5.block _ (by omega)).trans HR4.out
      have HB5 : Hid (Below w.heap.size w w5) := HB4.out.trans (hb5.mono (by omega))
      have hs5 : w4.heap.size ≤ w5.heap.size := hb5.size
      clear hb5 HK4 HR4 HB4
      go_wp2_with fail
      refine (zzlast_ex (w.heap.size + 1) zs en _ _ HK5.out hzl hze h2).mono ?_
      rintro e w6 ⟨cc, rfl, hcc, hb6⟩
      have HR6 : Hid (w6.heap[w.heap.size]? = some (.cells c1 23 (0, 0))) := (hb6.block _ (by omega)).trans HR5.out
      have HB6 : Hid (Below w.heap.size w w6) := HB5.out.trans (hb6.mono (by omega))
      clear hb6 HK5 HR5 HB5 hs4 hs5 hsz
      have HA : Hid (a = lastW zs q en.toNat) := ha
      have HBB : Hid (bb = lastW zs p en.toNat) := hbb
      have HCC : Hid (cc = lastW zs 18446744073709551615 en.toNat) := hcc
      clear ha hbb hcc
      go_wp2_with fail
      go_loopg [16, 17] en.toNat (fun gk want j wx => ∃ (m : Nat) (t : Int), m + gk = en.toNat ∧ j = .int .i64 m ∧ want = .int .i64 t ∧ Hid (t = lastW zs 18446744073709551615 m) ∧ wx = w6)
      case atStart => exact ⟨0, -1, by omega, rfl, rfl, rfl, rfl⟩
      case round =>
        obtain ⟨m, t, hm, rfl, rfl, HT, rfl⟩ := hrel
        by_cases hlt2 : (m : Int) < en
        · have hmk : m < k := by omega
          have hx : wr.cell? ⟨w.heap.size, m, none⟩ = some (.int .u64 (zs.getD m 0)) := (cell_of_row wr _ m c1 23 (0, 0) HR6.out).trans (HC1.out m hmk)
          have hw := (HW.out m hmk).2
          obtain ⟨x, ex⟩ : ∃ x, x = zs.getD m 0 := ⟨_, rfl⟩
          rw [← ex] at hx
          have HX : Hid (x = zs.getD m 0 ∧ zs.getD m 0 ≤ 18446744073709551615) := ⟨ex, hw⟩
          clear ex hw
          by_cases hx0 : x = 0
          · have hx1 : (x != 0) = false := by simpa using hx0
            have HT' : Hid (t = lastW zs 18446744073709551615 (m + 1)) := by
              have e2 : num zs 18446744073709551615 m = false := by unfold num; rw [← HX.out.1]; simp [hx0]
              show t = _
              rw [lastW, e2]
              exact HT.out
            clear hx0
            go_wp2
            go_roundg (gk - 1)
            case measure => omega
            case rel => exact ⟨m + 1, t, by omega, by go_num, rfl, HT'.out, rfl⟩
          · have hx1 : (x != 0) = true := by simpa using hx0
            have HT' : Hid ((m : Int) = lastW zs 18446744073709551615 (m + 1)) := by
              have e2 : num zs 18446744073709551615 m = true := by rw [num_iff, ← HX.out.1]; exact ⟨hx0, by rw [HX.out.1]; exact HX.out.2⟩
              show (m : Int) = _
              rw [lastW, e2]
              rfl
            clear hx0
            go_wp2
            go_roundg (gk - 1)
            case measure => omega
            case rel => exact ⟨m + 1, m, by omega, by go_num, rfl, HT'.out, rfl⟩
        · have hmt : m = en.toNat := by omega
          have hct : t = cc := by rw [HT.out, HCC.out, hmt]
          subst hct
          have t1 : -1 ≤ a := by rw [HA.out]; exact (lastW_lt zs q _).1
          have t2 : a ≤ bb := by rw [HA.out, HBB.out]; exact lastW_mono zs (Int.le_of_lt hpq) _
          have t3 : bb ≤ t := by rw [HBB.out, HCC.out]; exact lastW_mono zs HP.out.2 _
          have hen : en.toNat ≤ k := by omega
          clear hmt hm HT
          rcases ans_cases HA.out with ea | ⟨A, ea, hA1, hA2⟩
          · subst ea
            rcases ans_cases HBB.out with eb | ⟨B, eb, hB1, hB2⟩
            · subst eb
              go_wp2
              go_ret
              exact ⟨rfl, HB6.out⟩
            · subst eb
              have hcb : wr.cell? ⟨w.heap.size, B, none⟩ = some (.int .u64 (zs.getD B 0)) := (cell_of_row wr _ B c1 23 (0, 0) HR6.out).trans (HC1.out B (by omega))
              obtain ⟨y, ey⟩ : ∃ y, y = zs.getD B 0 := ⟨_, rfl⟩
              rw [← ey] at hcb hB2
              clear ey
              have hBk : B < k := by omega
              go_wp2
              go_ret
              exact ⟨rfl, HB6.out⟩
          · subst ea
            have hca : wr.cell? ⟨w.heap.size, A, none⟩ = some (.int .u64 (zs.getD A 0)) := (cell_of_row wr _ A c1 23 (0, 0) HR6.out).trans (HC1.out A (by omega))
            obtain ⟨x, ex⟩ : ∃ x, x = zs.getD A 0 := ⟨_, rfl⟩
            rw [← ex] at hca hA2
            clear ex
            have hAk : A < k := by omega
            rcases ans_cases HBB.out with eb | ⟨B, eb, hB1, hB2⟩
            · omega
            · subst eb
              have hcb : wr.cell? ⟨w.heap.size, B, none⟩ = some (.int .u64 (zs.getD B 0)) := (cell_of_row wr _ B c1 23 (0, 0) HR6.out).trans (HC1.out B (by omega))
              obtain ⟨y, ey⟩ : ∃ y, y = zs.getD B 0 := ⟨_, rfl⟩
              rw [← ey] at hcb hB2
              clear ey
              have hBk : B < k := by omega
              go_wp2
              go_ret
              exact ⟨rfl, HB6.out⟩

/-- No element at all. -/
theorem grows_none (a0 : Option Addr) (cap : Nat) (en p q : Int) (w : World) (h2 : -65536 ≤ en) (h3 : en ≤ 0) :
    Calls Trym.prog 4 #[.slice a0 0 cap, .int .i64 en, .int .u64 p, .int .u64 q] w fun e w' => e = .returned (.bool true) ∧ Below w.heap.size w w' := by
  have he : en.toNat = 0 := by omega
  have HE : Hid (en.toNat = 0) := he
  clear he
  rcases (show q < p ∨ p ≤ q by omega) with hpq | hpq
  all_goals
    go_enter Trym.func4, Trym.ntmps4
    go_wp2_with fail
    refine (bytes14_any _ 0 cap en p q w (by omega)).mono ?_
    rintro e w' ⟨rfl, hw⟩
    subst w'
    go_wp2_with fail
    refine (clone_none a0 cap w).mono ?_
    rintro e w1 ⟨a1, cap1, rfl, hb1⟩
    go_wp2_with fail
    refine (newKey_any _).mono ?_
    rintro e w2 ⟨rfl, rfl⟩
    have HK : Hid (KeyAt (w1.alloc (.cells (keyCells (.slice none 0 0)) 70)) w1.heap.size []) := key_new w1
    have HB : Hid (Below w.heap.size w (w1.alloc (.cells (keyCells (.slice none 0 0)) 70))) := hb1.alloc hb1.size _
    have hs1 : w.heap.size ≤ (w1.alloc (.cells (keyCells (.slice none 0 0)) 70)).heap.size := HB.out.size
    obtain ⟨w3, e3⟩ : ∃ w3, w3 = w1.alloc (.cells (keyCells (.slice none 0 0)) 70) := ⟨_, rfl⟩
    rw [← e3] at HK HB hs1 ⊢
    clear hb1 e3
    go_wp2_with fail
    refine wp_loop_rounds 1 ?_
    rw [rounds_succ]
    go_wp2_with fail
    refine (zzlast_ex w1.heap.size [] en _ _ HK.out (by simp) (by simpa using h3) h2).mono ?_
    rintro e w4 ⟨a, rfl, ha, hb4⟩
    obtain rfl : a = -1 := by rw [ha.out, HE.out]; rfl
    have HK4 : Hid (KeyAt w4 w1.heap.size []) := key_kept HK.out hb4
    have HB4 : Hid (Below w.heap.size w w4) := HB.out.trans (hb4.mono (by omega))
    have hs4 : w3.heap.size ≤ w4.heap.size := hb4.size
    clear hb4 ha
    go_wp2_with fail
    refine (zzlast_ex w1.heap.size [] en _ _ HK4.out (by simp) (by simpa using h3) h2).mono ?_
    rintro e w5 ⟨a, rfl, ha, hb5⟩
    obtain rfl : a = -1 := by rw [ha.out, HE.out]; rfl
    have HK5 : Hid (KeyAt w5 w1.heap.size []) := key_kept HK4.out hb5
    have HB5 : Hid (Below w.heap.size w w5) := HB4.out.trans (hb5.mono (by omega))
    have hs5 : w4.heap.size ≤ w5.heap.size := hb5.size
    clear hb5 ha
    go_wp2_with fail
    refine (zzlast_ex w1.heap.size [] en _ _ HK5.out (by simp) (by simpa using h3) h2).mono ?_
    rintro e w6 ⟨a, rfl, ha, hb6⟩
    obtain rfl : a = -1 := by rw [ha.out, HE.out]; rfl
    have HB6 : Hid (Below w.heap.size w w6) := HB5.out.trans (hb6.mono (by omega))
    clear hb6 ha
    go_wp2_with fail
    refine wp_loop_rounds 1 ?_
    rw [rounds_succ]
    go_wp2
    go_ret
    exact ⟨rfl, HB6.out⟩
end Go.Proofs.Qxb6604996aMods
