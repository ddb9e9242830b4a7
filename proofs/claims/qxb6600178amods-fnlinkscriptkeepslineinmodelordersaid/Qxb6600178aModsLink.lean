import Derived.Test.Qxb6600178aModsIns
namespace Go.Proofs.Qxb6600178aMods
open Go.RowKit

theorem Rising.lt {lab : Nat → Int} {n : Nat} (h : Rising lab n) {a b : Nat} (hab : a < b) (hb : b ≤ n + 1) : lab a < lab b := by
  obtain ⟨d, rfl⟩ : ∃ d, b = a + 1 + d := ⟨b - a - 1, by omega⟩
  clear hab
  induction d with
  | zero => exact h.rise a (by omega)
  | succ d ih =>
    have h1 := ih (by omega)
    have h2 := h.rise (a + 1 + d) (by omega)
    exact Int.lt_trans h1 h2

theorem insLab_lt {lab : Nat → Int} {n m : Nat} (h : Rising lab n) (hm : m ≤ n) {a b : Nat} (hab : a < b) (hb : b ≤ n + 2) (ha1 : a ≠ m + 1) (hb1 : b ≠ m + 1) : insLab lab m a < insLab lab m b := by
  unfold insLab
  by_cases h1 : a ≤ m
  · rw [if_pos h1]
    by_cases h2 : b ≤ m
    · rw [if_pos h2]; exact h.lt hab (by omega)
    · rw [if_neg h2, if_neg hb1]; exact h.lt (by omega) (by omega)
  · rw [if_neg h1, if_neg ha1, if_neg (by omega), if_neg hb1]
    exact h.lt (by omega) (by omega)

theorem insLab_zero {lab : Nat → Int} {n : Nat} (h : Rising lab n) (m : Nat) : insLab lab m 0 = 0 := by
  rw [insLab, if_pos (Nat.zero_le _)]; exact h.zero
theorem insLab_top {lab : Nat → Int} {n m : Nat} (h : Rising lab n) (hm : m ≤ n) : insLab lab m (n + 2) = 9223372036854775808 := by
  rw [insLab, if_neg (by omega), if_neg (by omega)]; exact h.top
theorem insLab_bd {lab : Nat → Int} {n m : Nat} (h : Rising lab n) (hm : m ≤ n) {i : Nat} (hi : i ≤ n + 2) (h1 : i ≠ m + 1) : 0 ≤ insLab lab m i ∧ insLab lab m i ≤ 9223372036854775808 := by
  refine ⟨?_, ?_⟩
  · by_cases e : i = 0
    · rw [e, insLab_zero h]; exact Int.le_refl _
    · have := insLab_lt (m := m) h hm (show 0 < i by omega) hi (by omega) h1
      rw [insLab_zero h] at this
      omega
  · by_cases e : i = n + 2
    · rw [e, insLab_top h hm]; exact Int.le_refl _
    · have := insLab_lt (m := m) h hm (show i < n + 2 by omega) (Nat.le_refl _) h1 (by omega)
      rw [insLab_top h hm] at this
      omega

theorem rise_spread {lab : Nat → Int} {n m i j : Nat} (h : Rising lab n) (hm : m ≤ n) (hi : i ≤ m) (hj : m + 2 ≤ j) (hjn : j ≤ n + 2)
    (hgap : ¬ insLab lab m j - insLab lab m i ≤ ((j : Int) - i - 1) * ((j : Int) - i - 1)) :
    Rising (spr (insLab lab m) i ((insLab lab m j - insLab lab m i) / ((j - i : Nat) : Int)) (j - i - 1)) (n + 1) := by
  obtain ⟨k, hk⟩ : ∃ k : Nat, k = j - i := ⟨_, rfl⟩
  obtain ⟨gap, eg⟩ : ∃ gap, gap = insLab lab m j - insLab lab m i := ⟨_, rfl⟩
  obtain ⟨st, es⟩ : ∃ st, st = gap / (k : Int) := ⟨_, rfl⟩
  rw [← eg, ← hk, ← es]
  rw [← eg] at hgap
  have hkk : (j : Int) - i - 1 = (k : Int) - 1 := by omega
  rw [hkk] at hgap
  have hk2 : 2 ≤ k := by omega
  -- the step is at least 1
  have hsq : (k : Int) - 1 ≤ ((k : Int) - 1) * ((k : Int) - 1) := by
    have h1 : ((k : Int) - 1) * 1 ≤ ((k : Int) - 1) * ((k : Int) - 1) := Int.mul_le_mul_of_nonneg_left (by omega) (by omega)
    omega
  have hgk : (k : Int) ≤ gap := by omega
  have hst : 1 ≤ st := by
    rw [es]
    exact (Int.le_ediv_iff_mul_le (by omega)).2 (by omega)
  have hmul : (k : Int) * st ≤ gap := by rw [es]; exact Int.mul_ediv_self_le (by omega)
  have inside : ∀ a, i < a → a ≤ i + (k - 1) → spr (insLab lab m) i st (k - 1) a = insLab lab m i + ((a - i : Nat) : Int) * st := fun a h1 h2 => by rw [spr, if_pos ⟨h1, h2⟩]
  have outside : ∀ a, ¬ (i < a ∧ a ≤ i + (k - 1)) → spr (insLab lab m) i st (k - 1) a = insLab lab m a := fun a h1 => by rw [spr, if_neg h1]
  refine ⟨?_, ?_, fun a ha => ?_⟩
  · rw [outside 0 (by omega)]; exact insLab_zero h m
  · rw [outside (n + 1 + 1) (by omega)]; exact insLab_top h hm
  · by_cases c1 : a < i
    · rw [outside a (by omega), outside (a + 1) (by omega)]
      exact insLab_lt h hm (by omega) (by omega) (by omega) (by omega)
    · by_cases c2 : a = i
      · subst c2
        rw [outside a (by omega), inside (a + 1) (by omega) (by omega)]
        have e : a + 1 - a = 1 := by omega
        rw [e]
        omega
      · by_cases c3 : a + 1 < j
        · rw [inside a (by omega) (by omega), inside (a + 1) (by omega) (by omega)]
          have e : ((a + 1 - i : Nat) : Int) = ((a - i : Nat) : Int) + 1 := by omega
          rw [e, Int.add_mul]
          omega
        · by_cases c4 : a + 1 = j
          · rw [inside a (by omega) (by omega), outside (a + 1) (by omega), c4]
            have e : ((a - i : Nat) : Int) = (k : Int) - 1 := by omega
            rw [e, Int.sub_mul]
            omega
          · rw [outside a (by omega), outside (a + 1) (by omega)]
            exact insLab_lt h hm (by omega) (by omega) (by omega) (by omega)

set_option maxHeartbeats 800000 in
theorem link_any (r : Nat) (xs : List Nat) (lab : Nat → Int) (m pb : Nat) (w : World) (h : PRing w r xs lab) (hR : Rising lab xs.length) (hm : m ≤ xs.length) (hx : xs.length < 4096) (hp : pb ∉ r :: xs)
    (hn : w.heap[pb]? = some (.cells #[.int .u64 0, .pointer none, .pointer none, .string ByteArray.empty, .bool false] 40 (0, 0))) :
    Calls Trym.prog 15 #[ptr r, ptr pb, ptr (nd r xs (m + 1))] w fun e w' => e = .returned (.tuple #[]) ∧ ∃ lab', PRing w' r (ins xs m pb) lab' ∧ Rising lab' (xs.length + 1) ∧ Only (r :: ins xs m pb) w w' := by
  obtain ⟨h2, hO⟩ := linked_ring h hm hp hn
  obtain ⟨A, eA⟩ : ∃ A, A = nd r xs (m + 1) := ⟨_, rfl⟩
  obtain ⟨B, eB⟩ : ∃ B, B = nd r xs m := ⟨_, rfl⟩
  have hpA : pb ≠ A := fun e => hp (by rw [e, eA]; exact nd_mem r xs _)
  have hpB : pb ≠ B := fun e => hp (by rw [e, eB]; exact nd_mem r xs _)
  have nB := node_cells (h.node m hm)
  have nA : w.cell? ⟨A, 1, none⟩ = some (ptr B) ∧ w.frozen? ⟨A, 1, none⟩ = false := by
    rw [eA, eB]
    by_cases e : m = xs.length
    · subst e
      have := node_cells (h.node 0 (Nat.zero_le _))
      rw [nd_top]
      refine ⟨?_, this.2.2.2.2 1⟩
      have h3 := this.2.2.1
      rw [prv, if_pos rfl] at h3
      exact h3
    · have := node_cells (h.node (m + 1) (by omega))
      refine ⟨?_, this.2.2.2.2 1⟩
      have h3 := this.2.2.1
      rw [prv, if_neg (by omega)] at h3
      exact h3
  obtain ⟨a1, fa1⟩ := nA
  have b2 := nB.2.2.2.1
  have fb2 := nB.2.2.2.2 2
  rw [← eB, ← eA] at b2
  rw [← eB] at fb2
  have p1 : w.cell? ⟨pb, 1, none⟩ = some (.pointer none) := cell_of_row w pb 1 _ 40 (0, 0) hn
  have p2 : w.cell? ⟨pb, 2, none⟩ = some (.pointer none) := cell_of_row w pb 2 _ 40 (0, 0) hn
  have fp1 := frozen_of_row w pb 1 _ 40 hn
  have fp2 := frozen_of_row w pb 2 _ 40 hn
  rw [← eA, ← eB] at h2 hO
  rw [← eA]
  have HR : Hid (PRing (linked w pb A B) r (ins xs m pb) (insLab lab m)) := h2
  have HO : Hid (Only (r :: ins xs m pb) w (linked w pb A B)) := hO
  have HRi : Hid (Rising lab xs.length) := hR
  have HE : Hid (A = nd r xs (m + 1) ∧ B = nd r xs m) := ⟨eA, eB⟩
  clear h h2 hO hR eA eB nB hp hn
  unfold ptr at *
  go_enter Trym.func15, Trym.ntmps15
  go_wp2_with fail
  change Code.wp _ _ _ _ (linked w pb A B)
  generalize linked w pb A B = W at HR HO ⊢
  obtain ⟨ys, eys⟩ : ∃ ys, ys = ins xs m pb := ⟨_, rfl⟩
  have hyl : ys.length = xs.length + 1 := by rw [eys]; exact ins_length xs m pb hm
  have hym : nd r ys m = B := by rw [eys, nd_ins r xs m pb _ hm, if_pos (Nat.le_refl _)]; exact HE.out.2.symm
  have hym1 : nd r ys (m + 1) = pb := by rw [eys, nd_ins r xs m pb _ hm, if_neg (by omega), if_pos rfl]
  have hym2 : nd r ys (m + 2) = A := by rw [eys, nd_ins r xs m pb _ hm, if_neg (by omega), if_neg (by omega)]; exact HE.out.1.symm
  rw [← eys] at HR HO
  obtain ⟨lab2, el2⟩ : ∃ lab2, lab2 = insLab lab m := ⟨_, rfl⟩
  have hpn := node_cells (HR.out.node (m + 1) (by omega))
  rw [hym1] at hpn
  have p1 : W.cell? ⟨pb, 1, none⟩ = some (.pointer (some ⟨B, 0, none⟩)) := by
    have h3 := hpn.2.2.1
    rw [prv, if_neg (by omega), show m + 1 - 1 = m by omega, hym] at h3
    exact h3
  have p2 : W.cell? ⟨pb, 2, none⟩ = some (.pointer (some ⟨A, 0, none⟩)) := by
    have h3 := hpn.2.2.2.1
    rw [hym2] at h3
    exact h3
  have HT : Hid (lab2 (ys.length + 1) = 9223372036854775808) := by show _ = _; rw [el2, hyl]; exact insLab_top HRi.out hm
  have HR2 : Hid (PRing W r ys lab2) := by rw [el2]; exact HR.out
  have HY : Hid (ys = ins xs m pb ∧ ys.length = xs.length + 1 ∧ nd r ys m = B ∧ nd r ys (m + 2) = A ∧ lab2 = insLab lab m) := ⟨eys, hyl, hym, hym2, el2⟩
  clear HR hpn eys hyl hym hym1 hym2 el2 a1 fa1 b2 fb2 fp1 fp2 hpA hpB
  go_quiet (fail)
  go_wp2_with fail
  clear p1 p2
  go_loopg [6, 7, 8] xs.length (fun gk lo hi inn wr => ∃ (i j k bi bj : Nat) (iv : Int), gk = xs.length + 2 - j + i ∧ i ≤ m ∧ m + 2 ≤ j ∧ j ≤ xs.length + 2 ∧ lo = .pointer (some ⟨bi, 0, none⟩) ∧ hi = .pointer (some ⟨bj, 0, none⟩) ∧ inn = .int .u64 iv ∧ Hid (bi = nd r ys i ∧ bj = nd r ys j ∧ iv = (j : Int) - i - 1) ∧ wr = W.drewN k)
  case atStart => exact ⟨m, m + 2, _, B, A, 1, by omega, Nat.le_refl _, Nat.le_refl _, by omega, rfl, rfl, rfl, ⟨HY.out.2.2.1.symm, HY.out.2.2.2.1.symm, by omega⟩, rfl⟩
  case round =>
    obtain ⟨i, j, k, bi, bj, iv, hgk, hi, hj, hjn, rfl, rfl, rfl, HB, rfl⟩ := hrel
    have hyl := HY.out.2.1
    have hni := node_cells (HR2.out.node i (by omega))
    rw [← HB.out.1] at hni
    have hbi : 0 ≤ lab2 i ∧ lab2 i ≤ 9223372036854775808 := by rw [HY.out.2.2.2.2]; exact insLab_bd HRi.out hm (by omega) (by omega)
    have hbj : 0 ≤ lab2 j ∧ lab2 j ≤ 9223372036854775808 := by rw [HY.out.2.2.2.2]; exact insLab_bd HRi.out hm (by omega) (by omega)
    have hij : lab2 i < lab2 j := by rw [HY.out.2.2.2.2]; exact insLab_lt HRi.out hm (by omega) (by omega) (by omega) (by omega)
    have hab := fun n => above_idx (HR2.out.drewN (k + n)) HT.out (show 0 < j by omega) (show j ≤ ys.length + 1 by omega)
    rw [← HB.out.2.1] at hab
    obtain ⟨li, eli⟩ : ∃ li, li = lab2 i := ⟨_, rfl⟩
    obtain ⟨lj, elj⟩ : ∃ lj, lj = lab2 j := ⟨_, rfl⟩
    rw [← eli] at hbi hij hni
    rw [← elj] at hbj hij hab
    have k0 := hni.2.1
    have k1 := hni.2.2.1
    have hiv : 1 ≤ iv ∧ iv ≤ 4097 := by have := HB.out.2.2; omega
    have hsq : 0 ≤ iv * iv ∧ iv * iv ≤ 16785409 := by
      have h1 : iv * iv ≤ 4097 * 4097 := Int.mul_le_mul hiv.2 hiv.2 (by omega) (by omega)
      exact ⟨Int.mul_nonneg (by omega) (by omega), by omega⟩
    have w1 : IntKind.u64.wrap (lj - li) = lj - li := by rw [IntKind.wrap_u64]; omega
    have w2 : IntKind.u64.wrap (iv * iv) = iv * iv := by rw [IntKind.wrap_u64]; omega
    have HAB : Hid (∀ n, Calls Trym.prog 17 #[.pointer (some ⟨r, 0, none⟩), .pointer (some ⟨bj, 0, none⟩)] (W.drewN (k + n)) fun e w' => e = .returned (.int .u64 lj) ∧ ∃ q, w' = W.drewN (k + q)) := fun n => (hab n).mono fun _ _ ⟨h1, h2⟩ => ⟨h1, n, h2⟩
    have HL : Hid (li = lab2 i ∧ lj = lab2 j) := ⟨eli, elj⟩
    clear hab hni eli elj hyl
    unfold ptr at k1
    by_cases hcond : lj - li ≤ iv * iv
    · by_cases hjt : j = xs.length + 2
      · have hbr : bj = r := by rw [HB.out.2.1, hjt, show xs.length + 2 = ys.length + 1 by have := HY.out.2.1; omega, nd_top]
        subst hbr
        have q := fun w => neq_same bj w
        have hi0 : 0 < i := by
          rcases Nat.eq_zero_or_pos i with e | e
          · exfalso
            have e1 : lj = 9223372036854775808 := by rw [HL.out.2, hjt, show xs.length + 2 = ys.length + 1 by have := HY.out.2.1; omega]; exact HT.out
            have e2 : li = 0 := by rw [HL.out.1, e, HY.out.2.2.2.2]; exact insLab_zero HRi.out m
            omega
          · exact e
        obtain ⟨bc, ebc⟩ : ∃ bc, bc = nd bj ys (i - 1) := ⟨_, rfl⟩
        rw [prv, if_neg (show ¬ i = 0 by omega), ← ebc] at k1
        have HN : Hid (bc = nd bj ys (i - 1) ∧ bj = nd bj ys j ∧ iv + 1 = (j : Int) - ((i - 1 : Nat) : Int) - 1) := ⟨ebc, HB.out.2.1, by have := HB.out.2.2; omega⟩
        clear ebc
        go_wp2_with fail
        go_quiet ((go_at_call 17; exact Hid.out HAB _))
        go_wp2
        go_roundg (gk - 1)
        case measure => omega
        case rel => exact ⟨i - 1, j, _, bc, bj, iv + 1, by omega, by omega, hj, hjn, rfl, rfl, by go_num, HN.out, rfl⟩
      · have hnj := node_cells (HR2.out.node j (by have := HY.out.2.1; omega))
        rw [← HB.out.2.1] at hnj
        have hr0 := (node_cells (HR2.out.node 0 (Nat.zero_le _))).1
        rw [nd_zero] at hr0
        have hne : bj ≠ r := by rw [HB.out.2.1]; exact nd_head HR2.out.nodup (by omega) (by have := HY.out.2.1; omega)
        have q : ∀ n, (binOp .neq 27 (.pointer (some ⟨bj, 0, none⟩)) (.pointer (some ⟨r, 0, none⟩))).run Trym.prog (W.drewN n) = .ok (.bool true) (W.drewN n) := fun n => neq_other hne hnj.1 hr0
        have k2 := hnj.2.2.2.1
        obtain ⟨bc, ebc⟩ : ∃ bc, bc = nd r ys (j + 1) := ⟨_, rfl⟩
        rw [← ebc] at k2
        have HN : Hid (bi = nd r ys i ∧ bc = nd r ys (j + 1) ∧ iv + 1 = ((j + 1 : Nat) : Int) - (i : Int) - 1) := ⟨HB.out.1, ebc, by have := HB.out.2.2; omega⟩
        clear ebc hnj hr0 hne
        unfold ptr at k2
        go_wp2_with fail
        go_quiet ((go_at_call 17; exact Hid.out HAB _))
        go_wp2
        go_roundg (gk - 1)
        case measure => omega
        case rel => exact ⟨i, j + 1, _, bi, bc, iv + 1, by omega, hi, by omega, by omega, rfl, rfl, by go_num, HN.out, rfl⟩
    · have hsp := fun n => spread_any r ys lab2 i j (W.drewN n) (HR2.out.drewN n) HT.out (by omega) (by have := HY.out.2.1; omega) (by have := HY.out.2.1; omega) (by rw [← HL.out.1]; exact hbi.1) (by rw [← HL.out.1, ← HL.out.2]; exact hij) (by rw [← HL.out.2]; exact hbj.2)
      rw [← HB.out.1, ← HB.out.2.1, ← HB.out.2.2] at hsp
      have HSP : Hid (∀ n, Calls Trym.prog 18 #[.pointer (some ⟨r, 0, none⟩), .pointer (some ⟨bi, 0, none⟩), .pointer (some ⟨bj, 0, none⟩), .int .u64 iv] (W.drewN n) fun e w' => e = .returned (.tuple #[]) ∧ PRing w' r ys (spr lab2 i ((lab2 j - lab2 i) / ((j - i : Nat) : Int)) (j - i - 1)) ∧ Only (r :: ys) (W.drewN n) w') := hsp
      have HF : Hid (Rising (spr lab2 i ((lab2 j - lab2 i) / ((j - i : Nat) : Int)) (j - i - 1)) (xs.length + 1)) := by
        show Rising _ _
        have hc2 : ¬ insLab lab m j - insLab lab m i ≤ ((j : Int) - i - 1) * ((j : Int) - i - 1) := by
          rw [← HB.out.2.2, ← HY.out.2.2.2.2, ← HL.out.1, ← HL.out.2]
          exact hcond
        rw [HY.out.2.2.2.2]
        exact rise_spread HRi.out hm hi hj hjn hc2
      clear hsp
      go_wp2_with fail
      go_quiet ((go_at_call 17; exact Hid.out HAB _))
      go_wp2_with fail
      refine (Hid.out HSP _).mono ?_
      rintro e w' ⟨rfl, hP, hO2⟩
      have HFIN : Hid (PRing w' r (ins xs m pb) (spr lab2 i ((lab2 j - lab2 i) / ((j - i : Nat) : Int)) (j - i - 1)) ∧ Only (r :: ins xs m pb) w w') := by
        rw [← HY.out.1]
        exact ⟨hP, (HO.out.drewN _).trans hO2⟩
      clear hP hO2
      go_wp2
      go_end0
      exact ⟨rfl, _, HFIN.out.1, HF.out, HFIN.out.2⟩
end Go.Proofs.Qxb6600178aMods
