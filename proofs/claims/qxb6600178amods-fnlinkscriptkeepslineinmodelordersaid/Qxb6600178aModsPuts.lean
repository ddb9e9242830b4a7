import Derived.Test.Qxb6600178aModsRise
namespace Go.Proofs.Qxb6600178aMods
open Go.RowKit

theorem ring_next {w : World} {r : Nat} {xs : List Nat} {lab : Nat → Int} (h : PRing w r xs lab) {i b c : Nat} (hi : i ≤ xs.length) (hb : b = nd r xs i) (hc : c = nd r xs (i + 1)) :
    Calls Trym.prog 12 #[.pointer (some ⟨b, 0, none⟩)] w fun e w' => e = .returned (.pointer (some ⟨c, 0, none⟩)) ∧ w' = w := by
  rw [hb, hc]
  exact next_any _ _ w (node_cells (h.node i hi)).2.2.2.1

/-- What stands just below the node at i + 1 (the head, where i is the last) is the node at i. -/
theorem ring_below {w : World} {r : Nat} {xs : List Nat} {lab : Nat → Int} (h : PRing w r xs lab) {i : Nat} (hi : i ≤ xs.length) : w.cell? ⟨nd r xs (i + 1), 1, none⟩ = some (ptr (nd r xs i)) := by
  by_cases e : i = xs.length
  · subst e
    have h3 := (node_cells (h.node 0 (Nat.zero_le _))).2.2.1
    rw [prv, if_pos rfl] at h3
    rw [nd_top]
    exact h3
  · have h3 := (node_cells (h.node (i + 1) (by omega))).2.2.1
    rw [prv, if_neg (by omega)] at h3
    exact h3

theorem ring_prev {w : World} {r : Nat} {xs : List Nat} {lab : Nat → Int} (h : PRing w r xs lab) {i b c : Nat} (hi : i ≤ xs.length) (hb : b = nd r xs (i + 1)) (hc : c = nd r xs i) :
    Calls Trym.prog 14 #[.pointer (some ⟨b, 0, none⟩)] w fun e w' => e = .returned (.pointer (some ⟨c, 0, none⟩)) ∧ w' = w := by
  rw [hb, hc]
  exact prev_any _ _ w (ring_below h hi)

/-- The empty ring. -/
def lab0 (i : Nat) : Int := if i = 0 then 0 else 9223372036854775808
theorem ring_new (w : World) : PRing (w.alloc (.cells (headCells 0 w.heap.size w.heap.size) 43)) w.heap.size [] lab0 ∧ Rising lab0 0 := by
  refine ⟨⟨by simp, fun i hi => ?_⟩, rfl, rfl, fun i hi => ?_⟩
  · obtain rfl : i = 0 := by simpa using hi
    have e : nodeObj w.heap.size w.heap.size (lab0 0) w.heap.size w.heap.size = .cells (headCells 0 w.heap.size w.heap.size) 43 (0, 0) := by simp [nodeObj, lab0]
    show _ = some (nodeObj w.heap.size w.heap.size (lab0 0) w.heap.size w.heap.size)
    rw [e]
    exact heap_alloc_new w _
  · obtain rfl : i = 0 := by omega
    decide

theorem PRing.alloc {w : World} {r : Nat} {xs : List Nat} {lab : Nat → Int} (h : PRing w r xs lab) (o : Obj) : PRing (w.alloc o) r xs lab :=
  h.kept (fun _ hb => Below.heap_alloc _ _ _ (h.lt hb))

/-- What the loop over the script holds: the ring of k places, the copy of the script in block S, nothing below turned. -/
structure Script (w : World) (S : Nat) (c1 : Array Value) (r : Nat) (xs : List Nat) (lab : Nat → Int) (wr : World) : Prop where
  ring : PRing wr r xs lab
  rise : Rising lab xs.length
  row : wr.heap[S]? = some (.cells c1 31 (0, 0))
  bel : Below w.heap.size w wr
  own : ∀ b ∈ r :: xs, S < b
  base : w.heap.size ≤ S

/-- One step of the script. -/
theorem script_step {w wr w3 : World} {S : Nat} {c1 : Array Value} {r : Nat} {xs : List Nat} {lab lab' : Nat → Int} {m : Nat} {o : Obj} (h : Script w S c1 r xs lab wr)
    (hm : m ≤ xs.length) (h1 : PRing w3 r (ins xs m wr.heap.size) lab') (h2 : Rising lab' (xs.length + 1)) (h3 : Only (r :: ins xs m wr.heap.size) (wr.alloc o) w3) :
    Script w S c1 r (ins xs m wr.heap.size) lab' w3 := by
  have hS : S < wr.heap.size := (Array.getElem?_eq_some_iff.1 h.row).1
  have hown : ∀ b ∈ r :: ins xs m wr.heap.size, S < b := by
    intro b hb
    rcases List.mem_cons.1 hb with rfl | hb
    · exact h.own _ (by simp)
    · rcases ins_mem.1 hb with rfl | hb
      · exact hS
      · exact h.own _ (List.mem_cons_of_mem _ hb)
  refine ⟨h1, by rw [ins_length xs m _ hm]; exact h2, ?_, ?_, hown, h.base⟩
  · rw [h3.block S (fun hm => Nat.lt_irrefl _ (hown S hm)), Below.heap_alloc _ _ _ hS]
    exact h.row
  · exact (h.bel.alloc h.bel.size o).trans (h3.below (fun y hy => by have := hown y hy; have := h.base; omega))

theorem script_fresh {w wr : World} {S : Nat} {c1 : Array Value} {r : Nat} {xs : List Nat} {lab : Nat → Int} (h : Script w S c1 r xs lab wr) : wr.heap.size ∉ r :: xs := fun hm => by
  have := h.ring.lt hm
  omega

theorem puts_out (a : Option Addr) (len cap : Nat) (w : World) (h : 4096 < len) :
    Calls Trym.prog 4 #[.slice a len cap] w fun e w' => e = .returned (.bool true) ∧ Below w.heap.size w w' := by
  by_cases h1 : 1048576 < len
  · go_enter Trym.func4, Trym.ntmps4
    go_wp2
    go_ret
    exact ⟨rfl, Below.refl _ _⟩
  · go_enter Trym.func4, Trym.ntmps4
    go_wp2
    go_ret
    exact ⟨rfl, Below.refl _ _⟩

set_option maxHeartbeats 1600000 in
theorem puts_full (b off len cap : Nat) (zs : List Int) (w : World) (h0 : 0 < len) (h1 : len ≤ 4096) (hwf : ∀ i, i < len → 0 ≤ zs.getD i 0 ∧ zs.getD i 0 ≤ 4294967295)
    (hc : ∀ i, i < len → w.cell? ⟨b, off + i, none⟩ = some (.int .u32 (zs.getD i 0))) :
    Calls Trym.prog 4 #[.slice (some ⟨b, off, none⟩) len cap] w fun e w' => e = .returned (.bool true) ∧ Below w.heap.size w w' := by
  have HC : Hid (∀ i, i < len → w.cell? ⟨b, off + i, none⟩ = some (.int .u32 (zs.getD i 0))) := hc
  have HW : Hid (∀ i, i < len → 0 ≤ zs.getD i 0 ∧ zs.getD i 0 ≤ 4294967295) := hwf
  clear hc hwf
  go_enter Trym.func4, Trym.ntmps4
  go_wp2_with fail
  refine (bytes13_any _ len cap w h1).mono ?_
  rintro e w' ⟨rfl, hw⟩
  subst w'
  go_wp2_with fail
  refine (clone_any b off len cap zs w h0 h1 HC.out).mono ?_
  rintro e w1 ⟨c1, rfl, rfl, hs1, hc1⟩
  go_wp2_with fail
  refine (newRanking_any _).mono ?_
  rintro e w2 ⟨rfl, rfl⟩
  have hsc : Script w w.heap.size c1 (w.heap.size + 1) [] lab0 ((w.alloc (.cells c1 31)).alloc (.cells (headCells 0 (w.alloc (.cells c1 31)).heap.size (w.alloc (.cells c1 31)).heap.size) 43)) := by
    have hr := ring_new (w.alloc (.cells c1 31))
    have e : (w.alloc (.cells c1 31)).heap.size = w.heap.size + 1 := by simp
    rw [e] at hr ⊢
    exact ⟨hr.1, hr.2, by rw [Below.heap_alloc _ _ _ (by simp)]; exact heap_alloc_new w _, ((Below.refl _ _).alloc (Nat.le_refl _) _).alloc (by simp) _, by intro y hy; simp at hy; omega, Nat.le_refl _⟩
  have HC1 : Hid (∀ i, i < len → c1[i]? = some (.int .u32 (zs.getD i 0))) := hc1
  obtain ⟨w2, ew2⟩ : ∃ w2, w2 = (w.alloc (.cells c1 31)).alloc (.cells (headCells 0 (w.alloc (.cells c1 31)).heap.size (w.alloc (.cells c1 31)).heap.size) 43) := ⟨_, rfl⟩
  rw [← ew2] at hsc ⊢
  have HSC : Hid (Script w w.heap.size c1 (w.heap.size + 1) [] lab0 w2) := hsc
  have er : (w.alloc (.cells c1 31)).heap.size = w.heap.size + 1 := by simp
  rw [er]
  obtain ⟨r, hr⟩ : ∃ r, r = w.heap.size + 1 := ⟨_, rfl⟩
  rw [← hr] at HSC ⊢
  have HRR : Hid (r = w.heap.size + 1) := hr
  clear hsc hc1 hs1 ew2 er hr HC
  unfold ptr
  go_wp2_with fail
  refine (head_any r w2).mono ?_
  rintro e w' ⟨rfl, hw⟩
  subst w'
  unfold ptr
  go_wp2_with fail
  go_loopg [5, 6, 7, 8, 9, 10] len (fun gk kv _ _ _ _ _ wr => ∃ (k : Nat) (xs : List Nat) (lab : Nat → Int), k + gk = len ∧ kv = .int .i64 k ∧ Hid (xs.length = k ∧ Script w w.heap.size c1 r xs lab wr))
  case atStart => exact ⟨0, [], lab0, by omega, rfl, rfl, HSC.out⟩
  case round =>
    obtain ⟨k, xs, lab, hkg, rfl, HK⟩ := hrel
    clear HSC
    by_cases hlt : k < len
    · have hx : wr.cell? ⟨w.heap.size, k, none⟩ = some (.int .u32 (zs.getD k 0)) := (cell_of_row wr _ k c1 31 (0, 0) HK.out.2.row).trans (HC1.out k hlt)
      have hz := HW.out k hlt
      obtain ⟨z, ez⟩ : ∃ z, z = zs.getD k 0 := ⟨_, rfl⟩
      rw [← ez] at hx hz
      clear ez
      obtain ⟨z0, z1⟩ := hz
      have hk1 : k ≤ 4095 := by omega
      obtain ⟨M, hmod, hM⟩ : ∃ M : Nat, z % ((k : Int) + 1) = (M : Int) ∧ M ≤ k := by
        have a1 := Int.emod_nonneg z (show (k : Int) + 1 ≠ 0 by omega)
        have a2 := Int.emod_lt_of_pos z (show 0 < (k : Int) + 1 by omega)
        exact ⟨(z % ((k : Int) + 1)).toNat, by omega, by omega⟩
      obtain ⟨b1, eb1⟩ : ∃ b1, b1 = nd r xs 1 := ⟨_, rfl⟩
      have C1 : Hid (Calls Trym.prog 12 #[.pointer (some ⟨r, 0, none⟩)] wr fun e w' => e = .returned (.pointer (some ⟨b1, 0, none⟩)) ∧ w' = wr) := ring_next HK.out.2.ring (Nat.zero_le _) rfl eb1
      have HB1 : Hid (b1 = nd r xs 1) := eb1
      clear eb1
      go_wp2_with fail
      refine (Hid.out C1).mono ?_
      rintro e w' ⟨rfl, hw⟩
      subst w'
      go_wp2_with fail
      go_loopg [7, 8] M (fun gk2 nv jv wx => ∃ (t bt : Nat), t + gk2 = M ∧ nv = .pointer (some ⟨bt, 0, none⟩) ∧ jv = .int .i64 t ∧ Hid (bt = nd r xs (t + 1)) ∧ wx = wr)
      case atStart => exact ⟨0, b1, by omega, rfl, rfl, HB1.out, rfl⟩
      case round =>
        obtain ⟨t, bt, htg, rfl, rfl, HBT, rfl⟩ := hrel
        by_cases hlt2 : t < M
        · obtain ⟨bu, ebu⟩ : ∃ bu, bu = nd r xs (t + 1 + 1) := ⟨_, rfl⟩
          have C2 : Hid (Calls Trym.prog 12 #[.pointer (some ⟨bt, 0, none⟩)] wr fun e w' => e = .returned (.pointer (some ⟨bu, 0, none⟩)) ∧ w' = wr) := ring_next HK.out.2.ring (by have := HK.out.1; omega) HBT.out ebu
          have HBU : Hid (bu = nd r xs (t + 1 + 1)) := ebu
          clear ebu
          go_wp2_with fail
          refine (Hid.out C2).mono ?_
          rintro e w' ⟨rfl, hw⟩
          subst w'
          go_wp2_with fail
          go_roundg (gk - 1)
          case measure => omega
          case rel => exact ⟨t + 1, bu, by omega, rfl, by go_num, HBU.out, rfl⟩
        · obtain rfl : t = M := by omega
          obtain ⟨B, eB⟩ : ∃ B, B = nd r xs t := ⟨_, rfl⟩
          have C3 : Hid (Calls Trym.prog 14 #[.pointer (some ⟨bt, 0, none⟩)] wr fun e w' => e = .returned (.pointer (some ⟨B, 0, none⟩)) ∧ w' = wr) := ring_prev HK.out.2.ring (by have := HK.out.1; omega) HBT.out eB
          have HBB : Hid (B = nd r xs t) := eB
          clear eB
          go_wp2_with fail
          refine (Hid.out C3).mono ?_
          rintro e w' ⟨rfl, hw⟩
          subst w'
          go_wp2_with fail
          refine (newPlace_any wr).mono ?_
          rintro e w' ⟨rfl, hw⟩
          subst w'
          unfold ptr
          have C4 := zzlink_any r xs lab t wr.heap.size bt _ (HK.out.2.ring.alloc (.cells #[.int .u64 0, .pointer none, .pointer none, .string ByteArray.empty, .bool false] 40)) (HK.out.2.rise) (by have := HK.out.1; omega) (by have := HK.out.1; omega) (script_fresh HK.out.2) HBT.out (heap_alloc_new wr _)
          have HC4 : Hid (Calls Trym.prog 10 #[.pointer (some ⟨r, 0, none⟩), .pointer (some ⟨wr.heap.size, 0, none⟩), .pointer (some ⟨bt, 0, none⟩)] (wr.alloc (.cells #[.int .u64 0, .pointer none, .pointer none, .string ByteArray.empty, .bool false] 40)) fun e w' => e = .returned (.tuple #[]) ∧ Hid (∃ lab', PRing w' r (ins xs t wr.heap.size) lab' ∧ Rising lab' (xs.length + 1) ∧ Only (r :: ins xs t wr.heap.size) (wr.alloc (.cells #[.int .u64 0, .pointer none, .pointer none, .string ByteArray.empty, .bool false] 40)) w')) := C4
          clear C4
          go_wp2_with fail
          refine (Hid.out HC4).mono ?_
          rintro e w3 ⟨rfl, hF⟩
          obtain ⟨lab', hP', hR', hO'⟩ := hF.out
          have hts : t ≤ xs.length := by have := HK.out.1; omega
          have hsc := script_step HK.out.2 hts hP' hR' hO'
          obtain ⟨ys, eys⟩ : ∃ ys, ys = ins xs t wr.heap.size := ⟨_, rfl⟩
          have hyl : ys.length = k + 1 := by rw [eys, ins_length xs t _ hts, HK.out.1]
          have y0 : B = nd r ys t := by rw [eys, nd_ins r xs t _ _ hts, if_pos (Nat.le_refl _)]; exact HBB.out
          have y1 : wr.heap.size = nd r ys (t + 1) := by rw [eys, nd_ins r xs t _ _ hts, if_neg (by omega), if_pos rfl]
          have y2 : bt = nd r ys (t + 1 + 1) := by rw [eys, nd_ins r xs t _ _ hts, if_neg (by omega), if_neg (by omega)]; exact HBT.out
          rw [← eys] at hP' hsc
          have D1 : Hid (Calls Trym.prog 12 #[.pointer (some ⟨wr.heap.size, 0, none⟩)] w3 fun e w' => e = .returned (.pointer (some ⟨bt, 0, none⟩)) ∧ w' = w3) := ring_next hP' (by omega) y1 y2
          have D2 : Hid (Calls Trym.prog 14 #[.pointer (some ⟨wr.heap.size, 0, none⟩)] w3 fun e w' => e = .returned (.pointer (some ⟨B, 0, none⟩)) ∧ w' = w3) := ring_prev hP' (by omega) y1 y0
          have D3 : Hid (Calls Trym.prog 12 #[.pointer (some ⟨B, 0, none⟩)] w3 fun e w' => e = .returned (.pointer (some ⟨wr.heap.size, 0, none⟩)) ∧ w' = w3) := ring_next hP' (by omega) y0 y1
          have D4 : Hid (Calls Trym.prog 14 #[.pointer (some ⟨bt, 0, none⟩)] w3 fun e w' => e = .returned (.pointer (some ⟨wr.heap.size, 0, none⟩)) ∧ w' = w3) := ring_prev hP' (by omega) y2 y1
          have D5 : Hid (Calls Trym.prog 11 #[.pointer (some ⟨r, 0, none⟩), .int .i64 ((k : Int) + 1)] w3 fun e w' => e = .returned (.bool true) ∧ w' = w3) := by
            have h5 := rise_any r ys lab' w3 hP' hsc.rise (by omega)
            rw [hyl] at h5
            exact h5
          have q := fun x => neq_same x w3
          have HEND : Hid (ys.length = k + 1 ∧ Script w w.heap.size c1 r ys lab' w3) := ⟨hyl, hsc⟩
          clear hF hP' hR' hO' hsc eys hyl y0 y1 y2 HC4 C1 C3
          go_wp2_with fail
          refine (Hid.out D1).mono ?_
          rintro e w' ⟨rfl, hw⟩
          subst w'
          go_wp2_with fail
          refine (Hid.out D2).mono ?_
          rintro e w' ⟨rfl, hw⟩
          subst w'
          go_wp2_with fail
          refine (Hid.out D3).mono ?_
          rintro e w' ⟨rfl, hw⟩
          subst w'
          go_wp2_with fail
          refine (Hid.out D4).mono ?_
          rintro e w' ⟨rfl, hw⟩
          subst w'
          go_wp2_with fail
          refine (Hid.out D5).mono ?_
          rintro e w' ⟨rfl, hw⟩
          subst w'
          go_wp2_with fail
          go_roundg (len - (k + 1))
          case measure => omega
          case rel => exact ⟨k + 1, ys, lab', by omega, by go_num, HEND.out⟩
    · go_wp2
      go_ret
      exact ⟨rfl, HK.out.2.bel⟩

/-- No position at all. -/
theorem puts_none (a : Option Addr) (cap : Nat) (w : World) :
    Calls Trym.prog 4 #[.slice a 0 cap] w fun e w' => e = .returned (.bool true) ∧ Below w.heap.size w w' := by
  go_enter Trym.func4, Trym.ntmps4
  go_wp2_with fail
  refine (bytes13_any _ 0 cap w (by omega)).mono ?_
  rintro e w' ⟨rfl, hw⟩
  subst w'
  go_wp2_with fail
  refine (clone_none a cap w).mono ?_
  rintro e w1 ⟨a1, cap1, rfl, hb1⟩
  go_wp2_with fail
  refine (newRanking_any _).mono ?_
  rintro e w2 ⟨rfl, rfl⟩
  have HB : Hid (Below w.heap.size w (w1.alloc (.cells (headCells 0 w1.heap.size w1.heap.size) 43))) := hb1.alloc hb1.size _
  obtain ⟨w3, e3⟩ : ∃ w3, w3 = w1.alloc (.cells (headCells 0 w1.heap.size w1.heap.size) 43) := ⟨_, rfl⟩
  rw [← e3] at HB ⊢
  clear hb1 e3
  unfold ptr
  go_wp2_with fail
  refine (head_any w1.heap.size w3).mono ?_
  rintro e w' ⟨rfl, hw⟩
  subst w'
  unfold ptr
  go_wp2_with fail
  refine wp_loop_rounds 1 ?_
  rw [rounds_succ]
  go_wp2
  go_ret
  exact ⟨rfl, HB.out⟩
end Go.Proofs.Qxb6600178aMods
