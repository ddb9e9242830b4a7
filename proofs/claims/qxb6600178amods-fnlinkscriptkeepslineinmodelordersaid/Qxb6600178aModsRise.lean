import Derived.Test.Qxb6600178aModsLink
namespace Go.Proofs.Qxb6600178aMods
open Go.RowKit

/-- ZZLink hands on to link. -/
theorem zzlink_any (r : Nat) (xs : List Nat) (lab : Nat → Int) (m pb A : Nat) (w : World) (h : PRing w r xs lab) (hR : Rising lab xs.length) (hm : m ≤ xs.length) (hx : xs.length < 4096) (hp : pb ∉ r :: xs) (hA : A = nd r xs (m + 1))
    (hn : w.heap[pb]? = some (.cells #[.int .u64 0, .pointer none, .pointer none, .string ByteArray.empty, .bool false] 40 (0, 0))) :
    Calls Trym.prog 10 #[.pointer (some ⟨r, 0, none⟩), .pointer (some ⟨pb, 0, none⟩), .pointer (some ⟨A, 0, none⟩)] w fun e w' => e = .returned (.tuple #[]) ∧ Hid (∃ lab', PRing w' r (ins xs m pb) lab' ∧ Rising lab' (xs.length + 1) ∧ Only (r :: ins xs m pb) w w') := by
  have hl := link_any r xs lab m pb w h hR hm hx hp hn
  rw [← hA] at hl
  have HL : Hid (Calls Trym.prog 15 #[.pointer (some ⟨r, 0, none⟩), .pointer (some ⟨pb, 0, none⟩), .pointer (some ⟨A, 0, none⟩)] w fun e w' => e = .returned (.tuple #[]) ∧ ∃ lab', PRing w' r (ins xs m pb) lab' ∧ Rising lab' (xs.length + 1) ∧ Only (r :: ins xs m pb) w w') := hl
  clear hl h hR hp hn hA
  go_enter Trym.func10, Trym.ntmps10
  go_wp2_with fail
  refine (Hid.out HL).mono ?_
  rintro e w' ⟨rfl, hF⟩
  have HF : Hid _ := hF
  clear hF
  go_wp2
  go_end0
  exact ⟨rfl, HF⟩

theorem rise_any (r : Nat) (xs : List Nat) (lab : Nat → Int) (w : World) (h : PRing w r xs lab) (hR : Rising lab xs.length) (hx : xs.length ≤ 4096) :
    Calls Trym.prog 11 #[.pointer (some ⟨r, 0, none⟩), .int .i64 (xs.length : Int)] w fun e w' => e = .returned (.bool true) ∧ w' = w := by
  have HR : Hid (PRing w r xs lab) := h
  have HI : Hid (Rising lab xs.length) := hR
  have hr := node_cells (h.node 0 (Nat.zero_le _))
  rw [nd_zero] at hr
  have hlab0 := label_any r (lab 0) w hr.2.1
  rw [hR.zero] at hlab0
  have HL0 : Hid (Calls Trym.prog 16 #[.pointer (some ⟨r, 0, none⟩)] w fun e w' => e = .returned (.int .u64 0) ∧ w' = w) := hlab0
  have hprev0 := prev_any r (nd r xs xs.length) w (by have h3 := hr.2.2.1; rw [prv, if_pos rfl] at h3; exact h3)
  have HP0 : Hid (Calls Trym.prog 14 #[.pointer (some ⟨r, 0, none⟩)] w fun e w' => e = .returned (.pointer (some ⟨nd r xs xs.length, 0, none⟩)) ∧ w' = w) := hprev0
  have HCR : Hid (Cells w r) := hr.1
  obtain ⟨n, en⟩ : ∃ n, n = xs.length := ⟨_, rfl⟩
  have HN : Hid (n = xs.length) := en
  rw [← en] at hx ⊢
  clear h hR hr hlab0 hprev0 en
  go_enter Trym.func11, Trym.ntmps11
  go_wp2_with fail
  refine (Hid.out HL0).mono ?_
  rintro e w' ⟨rfl, hw⟩
  subst w'
  go_wp2_with fail
  go_loopg [5, 6, 7, 8, 9] n (fun gk q last i _ _ wr => ∃ (t b : Nat) (l : Int), t + gk = n ∧ q = .pointer (some ⟨b, 0, none⟩) ∧ last = .int .u64 l ∧ i = .int .i64 t ∧ Hid (b = nd r xs t ∧ l = lab t) ∧ wr = w)
  case atStart => exact ⟨0, r, 0, by omega, rfl, rfl, rfl, ⟨rfl, HI.out.zero.symm⟩, rfl⟩
  case round =>
    obtain ⟨t, b, l, htg, rfl, rfl, rfl, HB, rfl⟩ := hrel
    have hnt := node_cells (HR.out.node t (by have := HN.out; omega))
    rw [← HB.out.1] at hnt
    by_cases hlt : t < n
    · have hnn := node_cells (HR.out.node (t + 1) (by have := HN.out; omega))
      obtain ⟨c, ec⟩ : ∃ c, c = nd r xs (t + 1) := ⟨_, rfl⟩
      obtain ⟨lc, elc⟩ : ∃ lc, lc = lab (t + 1) := ⟨_, rfl⟩
      have hpv : prv xs.length (t + 1) = t := by rw [prv, if_neg (by omega)]; omega
      rw [← ec, ← elc, hpv, ← HB.out.1] at hnn
      have hne : c ≠ r := by rw [ec]; exact nd_head HR.out.nodup (by omega) (by have := HN.out; omega)
      have q1 := eql_other hne hnn.1 HCR.out
      have q2 := neq_same b wr
      have c1 := next_any b c wr (by rw [ec]; exact hnt.2.2.2.1)
      have c2 := prev_any c b wr hnn.2.2.1
      have c3 := label_any c lc wr hnn.2.1
      have C1 : Hid (Calls Trym.prog 12 #[.pointer (some ⟨b, 0, none⟩)] wr fun e w' => e = .returned (.pointer (some ⟨c, 0, none⟩)) ∧ w' = wr) := c1
      have C2 : Hid (Calls Trym.prog 14 #[.pointer (some ⟨c, 0, none⟩)] wr fun e w' => e = .returned (.pointer (some ⟨b, 0, none⟩)) ∧ w' = wr) := c2
      have C3 : Hid (Calls Trym.prog 16 #[.pointer (some ⟨c, 0, none⟩)] wr fun e w' => e = .returned (.int .u64 lc) ∧ w' = wr) := c3
      have l1 : l < lc := by rw [HB.out.2, elc]; exact HI.out.rise t (by have := HN.out; omega)
      have l2 : lc < 9223372036854775808 := by
        rw [elc, ← HI.out.top]
        exact HI.out.lt (by have := HN.out; omega) (Nat.le_refl _)
      have HB2 : Hid (c = nd r xs (t + 1) ∧ lc = lab (t + 1)) := ⟨ec, elc⟩
      clear hnt hnn ec elc hpv hne c1 c2 c3
      go_wp2_with fail
      refine (Hid.out C1).mono ?_
      rintro e w' ⟨rfl, hw⟩
      subst w'
      go_wp2_with fail
      refine (Hid.out C2).mono ?_
      rintro e w' ⟨rfl, hw⟩
      subst w'
      go_wp2_with fail
      refine (Hid.out C3).mono ?_
      rintro e w' ⟨rfl, hw⟩
      subst w'
      go_wp2
      go_roundg (gk - 1)
      case measure => omega
      case rel => exact ⟨t + 1, c, lc, by omega, rfl, rfl, by go_num, HB2.out, rfl⟩
    · obtain rfl : t = n := by omega
      have hb : nd r xs xs.length = b := by rw [← HN.out]; exact HB.out.1.symm
      rw [hb] at HP0
      have c1 := next_any b r wr (by have h3 := hnt.2.2.2.1; rw [HN.out, nd_top] at h3; exact h3)
      have C1 : Hid (Calls Trym.prog 12 #[.pointer (some ⟨b, 0, none⟩)] wr fun e w' => e = .returned (.pointer (some ⟨r, 0, none⟩)) ∧ w' = wr) := c1
      have q1 := fun x => eql_same x wr
      clear hnt hb c1
      go_wp2_with fail
      refine (Hid.out C1).mono ?_
      rintro e w' ⟨rfl, hw⟩
      subst w'
      go_wp2_with fail
      refine (Hid.out HP0).mono ?_
      rintro e w' ⟨rfl, hw⟩
      subst w'
      go_wp2
      go_ret
      exact ⟨rfl, rfl⟩
end Go.Proofs.Qxb6600178aMods
