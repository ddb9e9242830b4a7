import Derived.Test.Qxb6600178aModsRing
import Derived.Deep.QuietTactic
import Derived.BigQuiet
import Derived.WalkSmall
namespace Go.Proofs.Qxb6600178aMods
open Go.RowKit

theorem above_idx {w : World} {r : Nat} {xs : List Nat} {lab : Nat → Int} (h : PRing w r xs lab) (ht : lab (xs.length + 1) = 9223372036854775808) {i : Nat} (h0 : 0 < i) (hi : i ≤ xs.length + 1) :
    Calls Trym.prog 17 #[ptr r, ptr (nd r xs i)] w fun e w' => e = .returned (.int .u64 (lab i)) ∧ w' = w := by
  by_cases e : i = xs.length + 1
  · subst e
    rw [nd_top, ht]
    exact above_head r w
  · have hi' : i ≤ xs.length := by omega
    obtain ⟨hc, h1, _⟩ := node_cells (h.node i hi')
    obtain ⟨hr, _⟩ := node_cells (h.node 0 (Nat.zero_le _))
    exact above_place r (nd r xs i) (lab i) w (nd_head h.nodup h0 hi') hc hr h1

/-- The labels behind t rounds of spread. -/
def spr (lab : Nat → Int) (lo : Nat) (step : Int) (t : Nat) (i : Nat) : Int := if lo < i ∧ i ≤ lo + t then lab lo + ((i - lo : Nat) : Int) * step else lab i

theorem spr_zero (lab : Nat → Int) (lo : Nat) (step : Int) (i : Nat) : spr lab lo step 0 i = lab i := by
  unfold spr
  rw [if_neg (by omega)]

theorem spr_next (lab : Nat → Int) (lo : Nat) (step : Int) (t i : Nat) : spr lab lo step (t + 1) i = if i = lo + 1 + t then lab lo + (t : Int) * step + step else spr lab lo step t i := by
  unfold spr
  by_cases e : i = lo + 1 + t
  · rw [if_pos (by omega), if_pos e]
    have e2 : i - lo = t + 1 := by omega
    rw [e2]
    push_cast
    rw [Int.add_mul]
    omega
  · rw [if_neg e]
    by_cases h : lo < i ∧ i ≤ lo + t
    · rw [if_pos h, if_pos (by omega)]
    · rw [if_neg h, if_neg (by omega)]

/-- The sums do not pass the upper label. -/
theorem spr_bound {gap step : Int} {k t : Nat} (hk : 0 < k) (hs : step = gap / (k : Int)) (hg : 0 ≤ gap) (ht : t ≤ k) : 0 ≤ step ∧ 0 ≤ (t : Int) * step ∧ (t : Int) * step ≤ gap := by
  have h0 : 0 ≤ step := by rw [hs]; exact Int.ediv_nonneg hg (by omega)
  have h1 : (k : Int) * step ≤ gap := by rw [hs]; exact Int.mul_ediv_self_le (by omega)
  have h2 : (t : Int) * step ≤ (k : Int) * step := Int.mul_le_mul_of_nonneg_right (by omega) h0
  exact ⟨h0, Int.mul_nonneg (by omega) h0, Int.le_trans h2 h1⟩

theorem spread_any (r : Nat) (xs : List Nat) (lab : Nat → Int) (lo hi : Nat) (w : World) (h : PRing w r xs lab) (ht : lab (xs.length + 1) = 9223372036854775808) (hl : lo + 1 < hi) (hh : hi ≤ xs.length + 1) (hx : xs.length ≤ 4096)
    (g0 : 0 ≤ lab lo) (g1 : lab lo < lab hi) (g2 : lab hi ≤ 9223372036854775808) :
    Calls Trym.prog 18 #[ptr r, ptr (nd r xs lo), ptr (nd r xs hi), .int .u64 ((hi : Int) - lo - 1)] w fun e w' => e = .returned (.tuple #[]) ∧ PRing w' r xs (spr lab lo ((lab hi - lab lo) / ((hi - lo : Nat) : Int)) (hi - lo - 1)) ∧ Only (r :: xs) w w' := by
  have HR : Hid (PRing w r xs lab) := h
  have HT : Hid (lab (xs.length + 1) = 9223372036854775808) := ht
  have hnc := node_cells (h.node lo (by omega))
  have c0 := hnc.2.1
  have c2 := hnc.2.2.2.1
  clear hnc
  obtain ⟨A, eA⟩ : ∃ A, A = nd r xs lo := ⟨_, rfl⟩
  obtain ⟨B, eB⟩ : ∃ B, B = nd r xs hi := ⟨_, rfl⟩
  obtain ⟨la, ela⟩ : ∃ la, la = lab lo := ⟨_, rfl⟩
  obtain ⟨lb, elb⟩ : ∃ lb, lb = lab hi := ⟨_, rfl⟩
  obtain ⟨N, eN⟩ : ∃ N, N = nd r xs (lo + 1) := ⟨_, rfl⟩
  obtain ⟨ins, ei⟩ : ∃ ins : Int, ins = (hi : Int) - lo - 1 := ⟨_, rfl⟩
  rw [← eA, ← eB, ← ei]
  rw [← eA, ← ela] at c0
  rw [← eA, ← eN] at c2
  rw [← ela] at g0
  rw [← ela, ← elb] at g1
  rw [← elb] at g2
  have hins : 1 ≤ ins ∧ ins ≤ 4097 := by omega
  obtain ⟨i1, i2⟩ := hins
  have hab : Calls Trym.prog 17 #[ptr r, ptr B] w fun e w' => e = .returned (.int .u64 lb) ∧ w' = w := by rw [eB, elb]; exact above_idx h ht (by omega) hh
  have HAB : Hid (∀ n, Calls Trym.prog 17 #[.pointer (some ⟨r, 0, none⟩), .pointer (some ⟨B, 0, none⟩)] (w.drewN n) fun e w' => e = .returned (.int .u64 lb) ∧ w' = w.drewN n) := by
    intro n
    have := above_idx (h.drewN n) ht (show 0 < hi by omega) hh
    rw [← eB, ← elb] at this
    exact this
  have w1 : IntKind.u64.wrap (lb - la) = lb - la := by rw [IntKind.wrap_u64]; omega
  have w2 : IntKind.u64.wrap (ins + 1) = ins + 1 := by rw [IntKind.wrap_u64]; omega
  have HE : Hid (A = nd r xs lo ∧ B = nd r xs hi ∧ la = lab lo ∧ lb = lab hi ∧ N = nd r xs (lo + 1) ∧ ins = (hi : Int) - lo - 1) := ⟨eA, eB, ela, elb, eN, ei⟩
  clear h ht hab eA eB ela elb eN ei
  unfold ptr at *
  go_enter Trym.func18, Trym.ntmps18
  go_wp2_with fail
  go_quiet ((go_at_call 17; exact Calls.quiet_of_same (Hid.out HAB _)))
  go_wp2_with fail
  obtain ⟨st, est⟩ : ∃ st, st = (lb - la) / (ins + 1) := ⟨_, rfl⟩
  rw [← est]
  have HS : Hid (st = (lb - la) / (((hi - lo : Nat) : Nat) : Int)) := by
    have e : (((hi - lo : Nat) : Nat) : Int) = ins + 1 := by have := HE.out.2.2.2.2.2; omega
    show _ = _
    rw [e]
    exact est
  clear est w1 w2 HAB
  go_loopg [9, 10] (hi - lo - 1) (fun gk lv pv wr => ∃ (t : Nat) (s : Int) (pb : Nat), t + gk = hi - lo - 1 ∧ lv = .int .u64 s ∧ pv = .pointer (some ⟨pb, 0, none⟩) ∧ Hid (s = la + (t : Int) * st ∧ pb = nd r xs (lo + 1 + t)) ∧ Hid (PRing wr r xs (spr lab lo st t) ∧ Only (r :: xs) w wr))
  case atStart => exact ⟨0, la, N, by omega, rfl, rfl, ⟨by simp, HE.out.2.2.2.2.1⟩, (HR.out.drewN nq).congr (fun i _ => spr_zero lab lo st i), (Only.refl _ _).drewN nq⟩
  case round =>
    obtain ⟨t, s, pb, htg, rfl, rfl, HP, HW⟩ := hrel
    by_cases hend : gk = 0
    · have hpb : pb = B := by
        rw [HP.out.2, HE.out.2.1]
        congr 1
        omega
      subst hpb
      have q := neq_same pb wr
      have HF : Hid (PRing wr r xs (spr lab lo ((lab hi - lab lo) / ((hi - lo : Nat) : Int)) (hi - lo - 1)) ∧ Only (r :: xs) w wr) := by
        obtain ⟨_, _, e3, e4, _⟩ := HE.out
        have e5 : t = hi - lo - 1 := by omega
        rw [← e3, ← e4, ← HS.out, ← e5]
        exact HW.out
      go_wp2
      go_end0
      exact ⟨rfl, HF.out⟩
    · have hnode := node_cells (HW.out.1.node (lo + 1 + t) (by omega))
      have hne : pb ≠ B := by
        rw [HP.out.2, HE.out.2.1]
        intro e
        by_cases e2 : hi = xs.length + 1
        · rw [e2, nd_top] at e
          exact nd_head HR.out.nodup (by omega) (by omega) e
        · have := nd_inj HR.out.nodup (by omega) (by omega) e
          omega
      have hcB : Cells wr B := by
        rw [HE.out.2.1]
        by_cases e2 : hi = xs.length + 1
        · rw [e2, nd_top, ← nd_zero r xs]
          exact (node_cells (HW.out.1.node 0 (Nat.zero_le _))).1
        · exact (node_cells (HW.out.1.node hi (by omega))).1
      obtain ⟨hc, k0, _, k2, kf⟩ := hnode
      rw [← HP.out.2] at hc k0 k2 kf
      have q := neq_other hne hc hcB
      have kf0 := kf 0
      obtain ⟨pc, epc⟩ : ∃ pc, pc = nd r xs (lo + 1 + t + 1) := ⟨_, rfl⟩
      rw [← epc] at k2
      obtain ⟨lv, elv⟩ : ∃ lv, lv = spr lab lo st t (lo + 1 + t) := ⟨_, rfl⟩
      rw [← elv] at k0
      obtain ⟨b1, b2, b3⟩ := spr_bound (k := hi - lo) (t := t) (by omega) HS.out (by omega) (by omega)
      obtain ⟨_, _, b4⟩ := spr_bound (k := hi - lo) (t := t + 1) (by omega) HS.out (by omega) (by omega)
      have b5 : ((t + 1 : Nat) : Int) * st = (t : Int) * st + st := by push_cast; rw [Int.add_mul]; omega
      have hs1 : 0 ≤ s ∧ s + st ≤ lb ∧ 0 ≤ st := by have := HP.out.1; omega
      obtain ⟨hs1, hs2, hs3⟩ := hs1
      have HN : Hid (s + st = la + ((t + 1 : Nat) : Int) * st ∧ pc = nd r xs (lo + 1 + (t + 1))) := ⟨by have := HP.out.1; omega, epc⟩
      have HM : Hid (PRing (wr.setCell ⟨pb, 0, none⟩ (.int .u64 (s + st))) r xs (spr lab lo st (t + 1)) ∧ Only (r :: xs) w (wr.setCell ⟨pb, 0, none⟩ (.int .u64 (s + st)))) := by
        refine ⟨?_, HW.out.2.setCell (by rw [HP.out.2]; exact nd_mem r xs _) _⟩
        have h1 := HW.out.1.setLabel (show lo + 1 + t ≤ xs.length by omega) (s + st)
        rw [← HP.out.2] at h1
        refine h1.congr (fun i _ => ?_)
        rw [spr_next]
        have e1 := HP.out.1
        have e2 := HE.out.2.2.1
        by_cases e : i = lo + 1 + t
        · rw [if_pos e, if_pos e]; omega
        · rw [if_neg e, if_neg e]
      clear hne hc hcB kf b1 b2 b3 b4 b5 elv epc
      unfold ptr at k2
      go_wp2
      go_roundg (gk - 1)
      case measure => omega
      case rel => exact ⟨t + 1, _, pc, by omega, rfl, rfl, HN.out, HM.out⟩
end Go.Proofs.Qxb6600178aMods
