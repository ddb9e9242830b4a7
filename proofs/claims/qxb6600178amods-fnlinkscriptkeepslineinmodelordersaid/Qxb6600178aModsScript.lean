import Derived.Test.Qxb6600178aModsOrder
namespace Go.Proofs.Qxb6600178aMods
open Go.RowKit

theorem script_out (a : Option Addr) (len cap : Nat) (w : World) (h : 4096 < len) :
    Calls Trym.prog 3 #[.slice a len cap] w fun e w' => e = .returned (.bool true) ∧ Below w.heap.size w w' := by
  by_cases h1 : 1048576 < len
  · go_enter Trym.func3, Trym.ntmps3
    go_wp2
    go_ret
    exact ⟨rfl, Below.refl _ _⟩
  · go_enter Trym.func3, Trym.ntmps3
    go_wp2
    go_ret
    exact ⟨rfl, Below.refl _ _⟩

theorem new_cell {W : World} {n : Nat} (h : n = W.heap.size) (x : Value) (e : TypeId) : ∀ j u, [x][j]? = some u → (W.alloc (.cells #[x] e)).cell? ((⟨n, 0, none⟩ : Addr).add j) = some u := by
  intro j u hu
  subst h
  rw [Addr.add_lit, Nat.zero_add, cell_of_row _ _ j _ e (0, 0) (heap_alloc_new W _)]
  simpa using hu
theorem one_ptr (b : Nat) : ∀ u ∈ [Value.pointer (some ⟨b, 0, none⟩)], u.oneCell' = true := by
  intro u hu
  simp at hu
  subst hu
  rfl
theorem one_int (n : Int) : ∀ u ∈ [Value.int .i64 n], u.oneCell' = true := by
  intro u hu
  simp at hu
  subst hu
  rfl

/-- Behind the new place and the append to pl: the ring stands, the new place is as it was made. -/
theorem st_mid {w : World} {S : Nat} {c1 : Array Value} {r : Nat} {xs : List Nat} {lab : Nat → Int} {len : Nat} {ps : List Nat} {n : Nat} {L : List Nat} {wr w2 : World} {o1 o2 : Obj} (h : St w S c1 r xs lab len ps n L wr)
    (h2 : ((wr.alloc o1).alloc o2).grownBy w2 (some (r + 1))) : PRing w2 r xs lab ∧ w2.heap[wr.heap.size]? = some o1 := by
  have hlt := h.lt2
  refine ⟨h.sc.ring.kept (fun b hb => ?_), ?_⟩
  · have hb1 := h.sc.ring.lt hb
    have hb2 : b ≠ r + 1 := by
      rcases List.mem_cons.1 hb with rfl | hb
      · omega
      · have := h.far b hb; omega
    rw [h2.block b (by simp; omega) (by simp; omega), Below.heap_alloc _ _ _ (by simp; omega), Below.heap_alloc _ _ _ hb1]
  · rw [h2.block _ (by simp; omega) (by simp; omega), Below.heap_alloc _ _ _ (by simp)]
    exact heap_alloc_new wr _

theorem end_round {w : World} {S : Nat} {c1 : Array Value} {r : Nat} {xs : List Nat} {lab' : Nat → Int} {len : Nat} {ps os : List Nat} {L : List Nat} {wr : World} {k M pb : Nat} (hk : xs.length = k) (hT : Tied xs ps os) (hM : M ≤ xs.length)
    (h : St w S c1 r (ins xs M pb) lab' len (ps ++ [pb]) (k + 1) L wr) (hL : (L.set M k).length = k + 1 ∧ ∀ i, i ≤ k → (L.set M k).getD i 0 = if i < M then os.getD i 0 else if i = M then k else os.getD (i - 1) 0) :
    Hid ((ins xs M pb).length = k + 1 ∧ Tied (ins xs M pb) (ps ++ [pb]) (L.set M k) ∧ St w S c1 r (ins xs M pb) lab' len (ps ++ [pb]) (k + 1) (L.set M k) (wr.setCell ⟨r + 2, M, none⟩ (.int .i64 (k : Int)))) := by
  subst hk
  exact ⟨ins_length xs M pb hM, tied_step hT hM hL.1 hL.2, h.store M xs.length⟩

theorem st_start {w w2 : World} {S : Nat} {c1 : Array Value} {r len : Nat} (h : Script w S c1 r [] lab0 w2) (hr : r = S + 1) (hs : w2.heap.size = r + 1) (hl : len ≤ 4096) :
    St w S c1 r [] lab0 len [] 0 [] ((w2.alloc (.cells (madeCells (Value.pointer none).cells len) 27)).alloc (.cells (madeCells (Value.int .i64 0).cells len) 3)) := by
  have hS : S < w2.heap.size := (Array.getElem?_eq_some_iff.1 h.row).1
  refine ⟨⟨(h.ring.alloc _).alloc _, h.rise, ?_, ?_, h.own, h.base⟩, ?_, ?_, by simp, hr⟩
  · rw [Below.heap_alloc _ _ _ (by simp; omega), Below.heap_alloc _ _ _ hS]
    exact h.row
  · exact (h.bel.alloc h.bel.size _).alloc (by have := h.bel.size; simp; omega) _
  · have h1 := World.ownsRow_made (base := S + 1) (e := 27) (size := 1) w2 (madeCells (Value.pointer none).cells len) len (by omega) (by unfold maxLen; omega) (by simp [madeCells])
    rw [hs] at h1
    exact h1.alloc _
  · have h1 := World.ownsRow_made (base := S + 1) (e := 3) (size := 1) (w2.alloc (.cells (madeCells (Value.pointer none).cells len) 27)) (madeCells (Value.int .i64 0).cells len) len (by simp; omega) (by unfold maxLen; omega) (by simp [madeCells])
    have e : (w2.alloc (.cells (madeCells (Value.pointer none).cells len) 27)).heap.size = r + 2 := by simp; omega
    rw [e] at h1
    exact h1

set_option maxRecDepth 100000 in
set_option maxHeartbeats 2000000 in
theorem script_full (b off len cap : Nat) (zs : List Int) (w : World) (h0 : 0 < len) (h1 : len ≤ 4096) (hwf : ∀ i, i < len → 0 ≤ zs.getD i 0 ∧ zs.getD i 0 ≤ 4294967295)
    (hc : ∀ i, i < len → w.cell? ⟨b, off + i, none⟩ = some (.int .u32 (zs.getD i 0))) :
    Calls Trym.prog 3 #[.slice (some ⟨b, off, none⟩) len cap] w fun e w' => e = .returned (.bool true) ∧ Below w.heap.size w w' := by
  have HC : Hid (∀ i, i < len → w.cell? ⟨b, off + i, none⟩ = some (.int .u32 (zs.getD i 0))) := hc
  have HW : Hid (∀ i, i < len → 0 ≤ zs.getD i 0 ∧ zs.getD i 0 ≤ 4294967295) := hwf
  obtain ⟨i27, hi27, _, hz27, _⟩ := info_parts Trym.info27
  obtain ⟨i3, hi3, _, hz3, _⟩ := info_parts Trym.info3
  have m29 := make29 len h1
  have m30 := make30 len h1
  clear hc hwf
  go_enter Trym.func3, Trym.ntmps3
  go_wp2_with fail
  refine (bytes5_any _ len cap w h1).mono ?_
  rintro e w' ⟨rfl, hw⟩
  subst w'
  go_wp2_with fail
  refine (clone_any b off len cap zs w h0 h1 HC.out).mono ?_
  rintro e w1 ⟨c1, rfl, rfl, hs1, hc1⟩
  go_wp2_with fail
  refine (newRanking_any _).mono ?_
  rintro e w2 ⟨rfl, rfl⟩
  have hsc : Script w w.heap.size c1 (w.heap.size + 1) [] lab0 ((w.alloc (.cells c1 31)).alloc (.cells (headCells 0 (w.alloc (.cells c1 31)).heap.size (w.alloc (.cells c1 31)).heap.size) 43)) := by
    have hr := ring_new (w.alloc (.cells c1 31))
    have e : (w.alloc (.cells c1 31)).heap.size = w.heap.size + 1 := by simp
    rw [e] at hr ⊢
    exact ⟨hr.1, hr.2, by rw [Below.heap_alloc _ _ _ (by simp)]; exact heap_alloc_new w _, ((Below.refl _ _).alloc (Nat.le_refl _) _).alloc (by simp) _, by intro y hy; simp at hy; omega, Nat.le_refl _⟩
  have HC1 : Hid (∀ i, i < len → c1[i]? = some (.int .u32 (zs.getD i 0))) := hc1
  obtain ⟨w2, ew2⟩ : ∃ w2, w2 = (w.alloc (.cells c1 31)).alloc (.cells (headCells 0 (w.alloc (.cells c1 31)).heap.size (w.alloc (.cells c1 31)).heap.size) 43) := ⟨_, rfl⟩
  have hs2 : w2.heap.size = w.heap.size + 2 := by rw [ew2]; simp
  rw [← ew2] at hsc ⊢
  have er : (w.alloc (.cells c1 31)).heap.size = w.heap.size + 1 := by simp
  rw [er]
  obtain ⟨r, hr⟩ : ∃ r, r = w.heap.size + 1 := ⟨_, rfl⟩
  have hs3 : w2.heap.size = r + 1 := by omega
  rw [← hr] at hsc ⊢
  have HST : Hid (St w w.heap.size c1 r [] lab0 len [] 0 [] ((w2.alloc (.cells (madeCells (Value.pointer none).cells len) 27)).alloc (.cells (madeCells (Value.int .i64 0).cells len) 3))) := st_start hsc hr hs3 h1
  have HRR : Hid (r = w.heap.size + 1 ∧ w2.heap.size = r + 1) := ⟨hr, hs3⟩
  clear hsc hc1 hs1 ew2 er hr hs2 HC
  unfold ptr
  go_wp2_with fail
  refine (head_any r w2).mono ?_
  rintro e w' ⟨rfl, hw⟩
  subst w'
  unfold ptr
  go_wp2_with fail
  go_loopg [5, 6, 7, 8, 9, 10, 11, 12] len (fun gk pv ov iv _ _ _ _ _ wr => ∃ (k : Nat) (xs ps os : List Nat) (lab : Nat → Int), k + gk = len ∧ pv = .slice (some ⟨r + 1, 0, none⟩) k len ∧ ov = .slice (some ⟨r + 2, 0, none⟩) k len ∧ iv = .int .i64 k ∧ Hid (xs.length = k ∧ Tied xs ps os ∧ St w w.heap.size c1 r xs lab len ps k os wr))
  case atStart => exact ⟨0, [], [], [], lab0, by omega, rfl, rfl, rfl, rfl, ⟨rfl, rfl, by simp⟩, HST.out⟩
  case round =>
    obtain ⟨k, xs, ps, os, lab, hkg, rfl, rfl, rfl, HK⟩ := hrel
    clear HST m29 m30
    have hrs := HRR.out.1
    by_cases hlt : k < len
    · have hx : wr.cell? ⟨w.heap.size, k, none⟩ = some (.int .u32 (zs.getD k 0)) := (cell_of_row wr _ k c1 31 (0, 0) HK.out.2.2.sc.row).trans (HC1.out k hlt)
      have hz := HW.out k hlt
      obtain ⟨z, ez⟩ : ∃ z, z = zs.getD k 0 := ⟨_, rfl⟩
      rw [← ez] at hx hz
      clear ez
      obtain ⟨z0, z1⟩ := hz
      have hk1 : k ≤ 4095 := by omega
      obtain ⟨M, hmod, hM⟩ : ∃ M : Nat, z % ((k : Int) + 1) = (M : Int) ∧ M ≤ k := by
        have a1 := Int.emod_nonneg z (show (k : Int) + 1 ≠ 0 by omega)
        have a2 := Int.emod_lt_of_pos z (show 0 < (k : Int) + 1 by omega)
        exact ⟨(z % ((k : Int) + 1)).toNat, by omega, by omega⟩
      clear hrs
      by_cases hMk : M < k
      · have hod : wr.cell? ⟨r + 2, M, none⟩ = some (.int .i64 (os.getD M 0 : Nat)) := HK.out.2.2.odAt hMk
        have hpl : wr.cell? ⟨r + 1, os.getD M 0, none⟩ = some (.pointer (some ⟨ps.getD (os.getD M 0) 0, 0, none⟩)) := HK.out.2.2.plAt (by have := (HK.out.2.1.fit M (by rw [HK.out.1]; exact hMk)).1; have := HK.out.2.1.lp; omega)
        obtain ⟨o, eo⟩ : ∃ o, o = os.getD M 0 := ⟨_, rfl⟩
        rw [← eo] at hod hpl
        obtain ⟨A, eA⟩ : ∃ A, A = ps.getD o 0 := ⟨_, rfl⟩
        rw [← eA] at hpl
        have ho : o < k := by have := (HK.out.2.1.fit M (by rw [HK.out.1]; exact hMk)).1; rw [← eo, HK.out.1] at this; exact this
        have HA : Hid (A = nd r xs (M + 1)) := by
          have := (HK.out.2.1.fit M (by rw [HK.out.1]; exact hMk)).2
          rw [← eo, ← eA] at this
          show A = nd r xs (M + 1)
          rw [← this, nd, if_neg (by omega)]
          simp only [Nat.add_sub_cancel, List.getD_eq_getElem?_getD]
          rw [List.getElem?_eq_getElem (by have := HK.out.1; omega)]
          rfl
        clear eo eA
        go_wp2_with fail
        refine (newPlace_any wr).mono ?_
        rintro e w' ⟨rfl, hw⟩
        subst w'
        unfold ptr
        have P0 : Hid (((wr.alloc (.cells #[.int .u64 0, .pointer none, .pointer none, .string ByteArray.empty, .bool false] 40)).alloc (.cells #[.pointer (some ⟨wr.heap.size, 0, none⟩)] 27)).ownsRow (w.heap.size + 1) 27 1 (.slice (some ⟨r + 1, 0, none⟩) k len) k (ps.map ptr)) := by
          have h := HK.out.2.2.pl
          rw [HK.out.2.1.lp, HK.out.1] at h
          exact (h.alloc _).alloc _
        go_wp2_with (at_builtin; refine wpList_append_fits _ rfl (.tmp 61) (.tmp 63) 29 rfl (w.heap.size + 1) 27 i27 1 Trym.underlying29 hi27 hz27 (r + 1) k len (ps.map ptr) rfl P0.out ⟨wr.heap.size + 1, 0, none⟩ 1 1 [.pointer (some ⟨wr.heap.size, 0, none⟩)] rfl rfl (new_cell (by simp) _ _) (one_ptr _) (by omega) ?_; intro w3 own3 grow3; have O3 : Hid _ := own3; have G3 : Hid _ := grow3; clear own3 grow3)
        obtain ⟨hmid, hnew⟩ := st_mid HK.out.2.2 G3.out
        have C4 : Hid (Calls Trym.prog 10 #[.pointer (some ⟨r, 0, none⟩), .pointer (some ⟨wr.heap.size, 0, none⟩), .pointer (some ⟨A, 0, none⟩)] w3 fun e w' => e = .returned (.tuple #[]) ∧ Hid (∃ lab', PRing w' r (ins xs M wr.heap.size) lab' ∧ Rising lab' (xs.length + 1) ∧ Only (r :: ins xs M wr.heap.size) w3 w')) := zzlink_any r xs lab M wr.heap.size A w3 hmid HK.out.2.2.sc.rise (by have := HK.out.1; omega) (by have := HK.out.1; omega) (script_fresh HK.out.2.2.sc) HA.out hnew
        clear hmid hnew P0
        refine (Hid.out C4).mono ?_
        rintro e w4 ⟨rfl, hF⟩
        obtain ⟨lab', hP', hR', hO'⟩ := hF.out
        have hMx : M ≤ xs.length := by have := HK.out.1; omega
        have hst4 : St w w.heap.size c1 r (ins xs M wr.heap.size) lab' len (ps ++ [wr.heap.size]) k os w4 := by
          have h3 := O3.out
          have e : k = ps.length := by rw [HK.out.2.1.lp, HK.out.1]
          rw [e] at h3
          exact HK.out.2.2.grow hMx h3 G3.out hP' hR' hO'
        have H4 : Hid (St w w.heap.size c1 r (ins xs M wr.heap.size) lab' len (ps ++ [wr.heap.size]) k os w4) := hst4
        have Q0 : Hid ((w4.alloc (.cells #[.int .i64 (k : Int)] 3)).ownsRow (w.heap.size + 1) 3 1 (.slice (some ⟨r + 2, 0, none⟩) k len) k (os.map num)) := hst4.od.alloc _
        clear hF hP' hR' hO' hst4 C4 O3 G3
        go_wp2_with (at_builtin; refine wpList_append_fits _ rfl (.tmp 69) (.tmp 71) 30 rfl (w.heap.size + 1) 3 i3 1 Trym.underlying30 hi3 hz3 (r + 2) k len (os.map num) rfl Q0.out ⟨w4.heap.size, 0, none⟩ 1 1 [.int .i64 (k : Int)] rfl rfl (new_cell rfl _ _) (one_int _) (by omega) ?_; intro w5 own5 grow5; have O5 : Hid _ := own5; have G5 : Hid _ := grow5; clear own5 grow5)
        have H5 : Hid (St w w.heap.size c1 r (ins xs M wr.heap.size) lab' len (ps ++ [wr.heap.size]) (k + 1) (os ++ [k]) w5) := H4.out.push O5.out G5.out
        clear O5 G5 Q0 H4
        go_loopg [12] (k - M) (fun gk2 jv wx => ∃ (t : Nat) (L : List Nat), M + gk2 = t ∧ t ≤ k ∧ jv = .int .i64 t ∧ Hid (Shift os k t L ∧ St w w.heap.size c1 r (ins xs M wr.heap.size) lab' len (ps ++ [wr.heap.size]) (k + 1) L wx))
        case atStart => exact ⟨k, os ++ [k], by omega, Nat.le_refl _, rfl, shift_start os k (by rw [HK.out.2.1.lo, HK.out.1]) k, H5.out⟩
        case round =>
          obtain ⟨t, L, htM, htk, rfl, HL⟩ := hrel
          by_cases htt : t = M
          · subst htt
            have hc0 : wr.cell? ⟨r + 2, t, none⟩ = some (.int .i64 (L.getD t 0 : Nat)) := HL.out.2.odAt (by omega)
            have hf0 : wr.frozen? ⟨r + 2, t, none⟩ = false := HL.out.2.od.frozenAt t
            obtain ⟨l0, el0⟩ : ∃ l0, l0 = L.getD t 0 := ⟨_, rfl⟩
            rw [← el0] at hc0
            clear el0
            have hse := shift_end HL.out.1 htk
            have HEND := end_round HK.out.1 HK.out.2.1 hMx HL.out.2 hse
            clear hse
            go_wp2_with fail
            go_roundg (len - (k + 1))
            case measure => omega
            case rel => exact ⟨k + 1, _, _, _, _, by omega, rfl, rfl, by go_num, HEND.out⟩
          · obtain ⟨u, rfl⟩ : ∃ u, t = u + 1 := ⟨t - 1, by omega⟩
            have hc0 : wr.cell? ⟨r + 2, u + 1, none⟩ = some (.int .i64 (L.getD (u + 1) 0 : Nat)) := HL.out.2.odAt (by omega)
            have hc1 : wr.cell? ⟨r + 2, u, none⟩ = some (.int .i64 (L.getD u 0 : Nat)) := HL.out.2.odAt (by omega)
            have hf0 : wr.frozen? ⟨r + 2, u + 1, none⟩ = false := HL.out.2.od.frozenAt (u + 1)
            have HS := shift_step HL.out.1 htk
            have HT := HL.out.2.store (u + 1) (L.getD u 0)
            obtain ⟨l0, el0⟩ : ∃ l0, l0 = L.getD (u + 1) 0 := ⟨_, rfl⟩
            obtain ⟨l1, el1⟩ : ∃ l1, l1 = L.getD u 0 := ⟨_, rfl⟩
            rw [← el0] at hc0
            rw [← el1] at hc1 HS HT
            have HN : Hid (Shift os k u (L.set (u + 1) l1) ∧ St w w.heap.size c1 r _ lab' len _ (k + 1) (L.set (u + 1) l1) (wr.setCell ⟨r + 2, u + 1, none⟩ (.int .i64 (l1 : Int)))) := ⟨HS, HT⟩
            clear el0 el1 HS HT
            have e1 : ((u + 1 : Nat) : Int) = (u : Int) + 1 := by omega
            rw [e1]
            clear e1
            have hMu : M ≤ u := by omega
            go_wp2_with fail
            go_roundg (gk - 1)
            case measure => omega
            case rel => exact ⟨u, _, by omega, by omega, rfl, HN.out⟩
      · obtain rfl : k = M := by omega
        have HA : Hid (r = nd r xs (k + 1)) := by show r = nd r xs (k + 1); rw [← HK.out.1, nd_top]
        go_wp2_with fail
        refine (newPlace_any wr).mono ?_
        rintro e w' ⟨rfl, hw⟩
        subst w'
        unfold ptr
        have P0 : Hid (((wr.alloc (.cells #[.int .u64 0, .pointer none, .pointer none, .string ByteArray.empty, .bool false] 40)).alloc (.cells #[.pointer (some ⟨wr.heap.size, 0, none⟩)] 27)).ownsRow (w.heap.size + 1) 27 1 (.slice (some ⟨r + 1, 0, none⟩) k len) k (ps.map ptr)) := by
          have h := HK.out.2.2.pl
          rw [HK.out.2.1.lp, HK.out.1] at h
          exact (h.alloc _).alloc _
        go_wp2_with (at_builtin; refine wpList_append_fits _ rfl (.tmp 61) (.tmp 63) 29 rfl (w.heap.size + 1) 27 i27 1 Trym.underlying29 hi27 hz27 (r + 1) k len (ps.map ptr) rfl P0.out ⟨wr.heap.size + 1, 0, none⟩ 1 1 [.pointer (some ⟨wr.heap.size, 0, none⟩)] rfl rfl (new_cell (by simp) _ _) (one_ptr _) (by omega) ?_; intro w3 own3 grow3; have O3 : Hid _ := own3; have G3 : Hid _ := grow3; clear own3 grow3)
        obtain ⟨hmid, hnew⟩ := st_mid HK.out.2.2 G3.out
        have C4 : Hid (Calls Trym.prog 10 #[.pointer (some ⟨r, 0, none⟩), .pointer (some ⟨wr.heap.size, 0, none⟩), .pointer (some ⟨r, 0, none⟩)] w3 fun e w' => e = .returned (.tuple #[]) ∧ Hid (∃ lab', PRing w' r (ins xs k wr.heap.size) lab' ∧ Rising lab' (xs.length + 1) ∧ Only (r :: ins xs k wr.heap.size) w3 w')) := zzlink_any r xs lab k wr.heap.size r w3 hmid HK.out.2.2.sc.rise (by have := HK.out.1; omega) (by have := HK.out.1; omega) (script_fresh HK.out.2.2.sc) HA.out hnew
        clear hmid hnew P0
        refine (Hid.out C4).mono ?_
        rintro e w4 ⟨rfl, hF⟩
        obtain ⟨lab', hP', hR', hO'⟩ := hF.out
        have hMx : k ≤ xs.length := by have := HK.out.1; omega
        have hst4 : St w w.heap.size c1 r (ins xs k wr.heap.size) lab' len (ps ++ [wr.heap.size]) k os w4 := by
          have h3 := O3.out
          have e : k = ps.length := by rw [HK.out.2.1.lp, HK.out.1]
          rw [e] at h3
          exact HK.out.2.2.grow hMx h3 G3.out hP' hR' hO'
        have H4 : Hid (St w w.heap.size c1 r (ins xs k wr.heap.size) lab' len (ps ++ [wr.heap.size]) k os w4) := hst4
        have Q0 : Hid ((w4.alloc (.cells #[.int .i64 (k : Int)] 3)).ownsRow (w.heap.size + 1) 3 1 (.slice (some ⟨r + 2, 0, none⟩) k len) k (os.map num)) := hst4.od.alloc _
        clear hF hP' hR' hO' hst4 C4 O3 G3
        go_wp2_with (at_builtin; refine wpList_append_fits _ rfl (.tmp 69) (.tmp 71) 30 rfl (w.heap.size + 1) 3 i3 1 Trym.underlying30 hi3 hz3 (r + 2) k len (os.map num) rfl Q0.out ⟨w4.heap.size, 0, none⟩ 1 1 [.int .i64 (k : Int)] rfl rfl (new_cell rfl _ _) (one_int _) (by omega) ?_; intro w5 own5 grow5; have O5 : Hid _ := own5; have G5 : Hid _ := grow5; clear own5 grow5)
        have H5 : Hid (St w w.heap.size c1 r (ins xs k wr.heap.size) lab' len (ps ++ [wr.heap.size]) (k + 1) (os ++ [k]) w5) := H4.out.push O5.out G5.out
        clear O5 G5 Q0 H4
        go_loopg [12] (k - k) (fun gk2 jv wx => ∃ (t : Nat) (L : List Nat), k + gk2 = t ∧ t ≤ k ∧ jv = .int .i64 t ∧ Hid (Shift os k t L ∧ St w w.heap.size c1 r (ins xs k wr.heap.size) lab' len (ps ++ [wr.heap.size]) (k + 1) L wx))
        case atStart => exact ⟨k, os ++ [k], by omega, Nat.le_refl _, rfl, shift_start os k (by rw [HK.out.2.1.lo, HK.out.1]) k, H5.out⟩
        case round =>
          obtain ⟨t, L, htM, htk, rfl, HL⟩ := hrel
          obtain rfl : k = t := by omega
          have hc0 : wr.cell? ⟨r + 2, k, none⟩ = some (.int .i64 (L.getD k 0 : Nat)) := HL.out.2.odAt (by omega)
          have hf0 : wr.frozen? ⟨r + 2, k, none⟩ = false := HL.out.2.od.frozenAt k
          obtain ⟨l0, el0⟩ : ∃ l0, l0 = L.getD k 0 := ⟨_, rfl⟩
          rw [← el0] at hc0
          clear el0
          have hse := shift_end HL.out.1 htk
          have HEND := end_round HK.out.1 HK.out.2.1 hMx HL.out.2 hse
          clear hse
          go_wp2_with fail
          go_roundg (len - (k + 1))
          case measure => omega
          case rel => exact ⟨k + 1, _, _, _, _, by omega, rfl, rfl, by go_num, HEND.out⟩
    · obtain rfl : k = len := by omega
      obtain ⟨hxl, hT, hSt⟩ := HK.out
      have hri := rise_any r xs lab wr hSt.sc.ring hSt.sc.rise (by omega)
      rw [hxl] at hri
      have RI : Hid (Calls Trym.prog 11 #[.pointer (some ⟨r, 0, none⟩), .int .i64 (k : Int)] wr fun e w' => e = .returned (.bool true) ∧ w' = wr) := hri
      have HH : Hid (xs.length = k ∧ Tied xs ps os ∧ St w w.heap.size c1 r xs lab k ps k os wr) := ⟨hxl, hT, hSt⟩
      have q := fun x => neq_same x wr
      clear hri hxl hT hSt HK hrs HC1 HW
      go_wp2_with fail
      refine (Hid.out RI).mono ?_
      rintro e w' ⟨rfl, hw⟩
      subst w'
      go_wp2_with fail
      go_loopg [13, 14] k (fun gk2 qv iv wx => ∃ (t bt : Nat), t + gk2 = k ∧ qv = .pointer (some ⟨bt, 0, none⟩) ∧ iv = .int .i64 t ∧ Hid (bt = nd r xs t) ∧ wx = wr)
      case atStart => exact ⟨0, r, by omega, rfl, rfl, rfl, rfl⟩
      case round =>
        obtain ⟨t, bt, htg, rfl, rfl, HBT, rfl⟩ := hrel
        by_cases hlt2 : t < k
        · have hfit := HH.out.2.1.fit t (by rw [HH.out.1]; exact hlt2)
          have hod : wr.cell? ⟨r + 2, t, none⟩ = some (.int .i64 (os.getD t 0 : Nat)) := HH.out.2.2.odAt hlt2
          have hpl : wr.cell? ⟨r + 1, os.getD t 0, none⟩ = some (.pointer (some ⟨ps.getD (os.getD t 0) 0, 0, none⟩)) := HH.out.2.2.plAt (by rw [HH.out.2.1.lp]; exact hfit.1)
          obtain ⟨o, eo⟩ : ∃ o, o = os.getD t 0 := ⟨_, rfl⟩
          rw [← eo] at hod hpl hfit
          obtain ⟨A, eA⟩ : ∃ A, A = ps.getD o 0 := ⟨_, rfl⟩
          rw [← eA] at hpl hfit
          have ho : o < k := by have := hfit.1; rw [HH.out.1] at this; exact this
          have hA : A = nd r xs (t + 1) := by
            rw [← hfit.2, nd, if_neg (by omega)]
            simp only [Nat.add_sub_cancel, List.getD_eq_getElem?_getD]
            rw [List.getElem?_eq_getElem (by have := HH.out.1; omega)]
            rfl
          have C2 : Hid (Calls Trym.prog 12 #[.pointer (some ⟨bt, 0, none⟩)] wr fun e w' => e = .returned (.pointer (some ⟨A, 0, none⟩)) ∧ w' = wr) := ring_next HH.out.2.2.sc.ring (by have := HH.out.1; omega) HBT.out hA
          have HA : Hid (A = nd r xs (t + 1)) := hA
          clear eo eA hA hfit
          go_wp2_with fail
          refine (Hid.out C2).mono ?_
          rintro e w' ⟨rfl, hw⟩
          subst w'
          go_wp2_with fail
          go_roundg (gk - 1)
          case measure => omega
          case rel => exact ⟨t + 1, A, by omega, rfl, by go_num, HA.out, rfl⟩
        · go_wp2
          go_ret
          exact ⟨rfl, HH.out.2.2.sc.bel⟩

/-- No position at all. -/
theorem script_none (a : Option Addr) (cap : Nat) (w : World) :
    Calls Trym.prog 3 #[.slice a 0 cap] w fun e w' => e = .returned (.bool true) ∧ Below w.heap.size w w' := by
  have m29 := make29 0 (by omega)
  have m30 := make30 0 (by omega)
  simp only [Int.natCast_zero] at m29 m30
  go_enter Trym.func3, Trym.ntmps3
  go_wp2_with fail
  refine (bytes5_any _ 0 cap w (by omega)).mono ?_
  rintro e w' ⟨rfl, hw⟩
  subst w'
  go_wp2_with fail
  refine (clone_none a cap w).mono ?_
  rintro e w1 ⟨a1, cap1, rfl, hb1⟩
  go_wp2_with fail
  refine (newRanking_any _).mono ?_
  rintro e w2 ⟨rfl, rfl⟩
  have HB : Hid (Below w.heap.size w (w1.alloc (.cells (headCells 0 w1.heap.size w1.heap.size) 43))) := hb1.alloc hb1.size _
  have hr := ring_new w1
  obtain ⟨w3, e3⟩ : ∃ w3, w3 = w1.alloc (.cells (headCells 0 w1.heap.size w1.heap.size) 43) := ⟨_, rfl⟩
  rw [← e3] at HB hr ⊢
  have HR : Hid (∀ o1 o2, Calls Trym.prog 11 #[.pointer (some ⟨w1.heap.size, 0, none⟩), .int .i64 (0 : Int)] ((w3.alloc o1).alloc o2) fun e w' => e = .returned (.bool true) ∧ w' = (w3.alloc o1).alloc o2) := fun o1 o2 => rise_any w1.heap.size [] lab0 _ ((hr.1.alloc o1).alloc o2) hr.2 (by simp)
  clear hb1 e3 hr
  unfold ptr
  go_wp2_with fail
  refine (head_any w1.heap.size w3).mono ?_
  rintro e w' ⟨rfl, hw⟩
  subst w'
  unfold ptr
  go_wp2_with fail
  refine wp_loop_rounds 1 ?_
  rw [rounds_succ]
  go_wp2_with fail
  refine (Hid.out HR _ _).mono ?_
  rintro e w' ⟨rfl, hw⟩
  subst w'
  go_wp2_with fail
  refine wp_loop_rounds 1 ?_
  rw [rounds_succ]
  go_wp2
  go_ret
  exact ⟨rfl, (HB.out.alloc HB.out.size _).alloc (by have := HB.out.size; simp; omega) _⟩
end Go.Proofs.Qxb6600178aMods
