import Derived.Test.Qxb6001620aModsFirst
namespace Go.Proofs.Qxb6001620aMods
open Go.RowKit Go.Maps

theorem insert_out (a a' : Option Addr) (len cap len' cap' : Nat) (off pos : Int) (w : World) (h : 65536 < len ∨ 65536 < len') :
    Calls Trym.prog 6 #[.slice a len cap, .slice a' len' cap', .int .i64 off, .int .i64 pos] w fun e w' => e = .returned (.bool true) ∧ Below w.heap.size w w' := by
  by_cases h1 : 1048576 < len
  · clear h
    go_enter Trym.func6, Trym.ntmps6
    go_wp2
    go_ret
    exact ⟨rfl, Below.refl _ _⟩
  by_cases h2 : 1048576 < len'
  · clear h
    go_enter Trym.func6, Trym.ntmps6
    go_wp2
    go_ret
    exact ⟨rfl, Below.refl _ _⟩
  by_cases h3 : 1048576 < len + len'
  · clear h
    go_enter Trym.func6, Trym.ntmps6
    go_wp2
    go_ret
    exact ⟨rfl, Below.refl _ _⟩
  by_cases h4 : 65536 < len
  · clear h
    go_enter Trym.func6, Trym.ntmps6
    go_wp2
    go_ret
    exact ⟨rfl, Below.refl _ _⟩
  · have h5 : 65536 < len' := by omega
    clear h
    go_enter Trym.func6, Trym.ntmps6
    go_wp2
    go_ret
    exact ⟨rfl, Below.refl _ _⟩

/-- The plain law: with one entry more the lowest position is the lesser of the two. -/
theorem first_insert {S : List (Int × Int)} {x0 y0 x1 y1 off pos : Int} {fd0 fd1 : Bool} (h0 : FirstIs S x0 y0 fd0) (h1 : FirstIs ((off, pos) :: S) x1 y1 fd1) : fd1 = true ∧ (fd0 = false → y1 = pos) ∧ (fd0 = true → y0 < pos → y1 = y0) ∧ (fd0 = true → ¬ y0 < pos → y1 = pos) := by
  rcases h1 with ⟨_, e⟩ | ⟨e1, hm, hle⟩
  · cases e
  refine ⟨e1, fun e0 => ?_, fun e0 hlt => ?_, fun e0 hlt => ?_⟩
  · rcases h0 with ⟨_, rfl⟩ | ⟨e, _⟩
    · simp at hm
      exact hm.2
    · rw [e0] at e; cases e
  · rcases h0 with ⟨e, _⟩ | ⟨_, hm0, hle0⟩
    · rw [e0] at e; cases e
    · have a1 := hle (x0, y0) (List.mem_cons_of_mem _ hm0)
      rcases List.mem_cons.1 hm with h | h
      · simp at h; simp only at a1; omega
      · have a2 := hle0 _ h
        simp only at a1 a2
        omega
  · rcases h0 with ⟨e, _⟩ | ⟨_, hm0, hle0⟩
    · rw [e0] at e; cases e
    · have a1 := hle (off, pos) (by simp)
      rcases List.mem_cons.1 hm with h | h
      · simp at h; exact h.2
      · have a2 := hle0 _ h
        simp only at a1 a2
        omega

/-- Behind buildEntries: the rest of the law. 'build': what buildEntries gives. -/
theorem insert_in (a a' : Option Addr) (len cap len' cap' : Nat) (off pos : Int) (w : World) (h1 : len ≤ 65536) (h2 : len' ≤ 65536) (wo : (Lit.int .i64 off).wf = true) (wp : (Lit.int .i64 pos).wf = true)
    (hbuild : Calls Trym.prog 13 #[.slice a len cap, .slice a' len' cap', .bool false] w fun e w' =>
      e = .returned (.map (some w.heap.size)) ∧ ∃ (n : Nat) (D : DataW Unit) (S : List (Int × Int)), n ≤ 65536 ∧ MapAt w' w.heap.size n D ∧ KeysAre D S ∧ Below w.heap.size w w') :
    Calls Trym.prog 6 #[.slice a len cap, .slice a' len' cap', .int .i64 off, .int .i64 pos] w fun e w' => e = .returned (.bool true) ∧ Below w.heap.size w w' := by
  obtain ⟨kl, hkey⟩ := key_mk off pos wo wp
  have HK : Hid (keyOf Trym.prog 33 (entry off pos) = some kl) := hkey
  have HB : Hid (Calls Trym.prog 13 #[.slice a len cap, .slice a' len' cap', .bool false] w fun e w' =>
      e = .returned (.map (some w.heap.size)) ∧ ∃ (n : Nat) (D : DataW Unit) (S : List (Int × Int)), n ≤ 65536 ∧ MapAt w' w.heap.size n D ∧ KeysAre D S ∧ Below w.heap.size w w') := hbuild
  clear hkey hbuild wo wp
  go_enter Trym.func6, Trym.ntmps6
  go_wp2_with fail
  refine (bytes12_any _ _ len cap len' cap' off pos w h1 h2).mono ?_
  rintro e w' ⟨rfl, hw⟩
  subst w'
  go_wp2_with fail
  refine (Hid.out HB).mono ?_
  rintro e w1 ⟨rfl, n, D, S, hn, hM, hS, hb1⟩
  have HM : Hid (MapAt w1 w.heap.size n D) := hM
  have HS : Hid (KeysAre D S) := hS
  have HB1 : Hid (Below w.heap.size w w1) := hb1
  have hs1 : w.heap.size < w1.heap.size := World.ownsMap.lt hM
  clear HB hM hS hb1
  go_wp2_with fail
  refine (zzfirst_any w.heap.size n D S _ HM.out HS.out).mono ?_
  rintro e w2 ⟨x0, y0, fd0, rfl, hf0, hb2⟩
  have hM2 : MapAt w2 w.heap.size n D := World.ownsMap.kept HM.out ⟨hb2.os, hb2.tape, hb2.output, hb2.size, fun k hk _ => hb2.block k hk⟩ (row := none) (by simp)
  have HF0 : Hid (FirstIs S x0 y0 fd0) := hf0
  have HB2 : Hid (Below w.heap.size w w2) := (Hid.out HB1).trans (hb2.mono (by omega))
  have hs2 : w1.heap.size ≤ w2.heap.size := hb2.size
  clear hf0 hb2
  obtain ⟨f, hf⟩ := update_any (w := w2.alloc (.cells #[.int .i64 x0, .int .i64 y0] 33)) (World.ownsMap.alloc hM2 _) (by unfold maxLen; omega) HK.out
  have hrun := (hf true).1
  obtain ⟨hM3, hg3⟩ := (hf true).2
  obtain ⟨w3, e3⟩ : ∃ w3, w3 = f true := ⟨_, rfl⟩
  rw [← e3] at hrun hM3 hg3
  clear hf hM2 e3
  have HM3 : Hid (MapAt w3 w.heap.size (n + 1) (D.put kl (.lit (.bool true)))) := hM3
  have HS3 : Hid (KeysAre (D.put kl (.lit (.bool true))) ((off, pos) :: S)) := keys_put (owns_isMap (Hid.out HM)) HS.out HK.out _
  have hs3 : w2.heap.size + 1 ≤ w3.heap.size := by have := hg3.size; simpa using this
  have hr3 : w3.heap[w2.heap.size]? = some (.cells #[.int .i64 x0, .int .i64 y0] 33 (0, 0)) := by
    rw [hg3.block _ (by simp) (by simp; omega)]
    exact heap_alloc_new w2 _
  have HR3 : Hid (w3.heap[w2.heap.size]? = some (.cells #[.int .i64 x0, .int .i64 y0] 33 (0, 0))) := hr3
  have HB3 : Hid (Below w.heap.size w w3) := ((Hid.out HB2).alloc (by omega) _).grown hg3 (by simp; omega) (fun k hk => by cases hk; exact Nat.le_refl _)
  clear hM3 hg3 hr3
  go_wp2_with fail
  refine (zzfirst_any w.heap.size (n + 1) _ ((off, pos) :: S) _ HM3.out HS3.out).mono ?_
  rintro e w4 ⟨x1, y1, fd1, rfl, hf1, hb4⟩
  obtain ⟨rfl, t1, t2, t3⟩ := first_insert HF0.out hf1
  have hc4 : w4.heap[w2.heap.size]? = some (.cells #[.int .i64 x0, .int .i64 y0] 33 (0, 0)) := (hb4.block _ (by omega)).trans HR3.out
  have hs4 : w2.heap.size < w4.heap.size := by have := hb4.size; omega
  have c4 : ∀ o, (w4.alloc o).cell? ⟨w2.heap.size, 1, none⟩ = some (.int .i64 y0) := fun o => cell_of_row _ _ 1 _ 33 (0, 0) ((Below.heap_alloc _ _ _ hs4).trans hc4)
  have HB4 : Hid (Below w.heap.size w w4) := (Hid.out HB3).trans (hb4.mono (by omega))
  have HT : Hid (w.heap.size ≤ w4.heap.size) := by have := hb4.size; show w.heap.size ≤ w4.heap.size; omega
  clear hf1 hb4 hc4 hrun
  cases fd0 with
  | false =>
    obtain rfl := t1 rfl
    clear t1 t2 t3
    go_wp2
    go_ret
    exact ⟨rfl, (Hid.out HB4).alloc HT.out _⟩
  | true =>
    by_cases hy : y0 < pos
    · obtain rfl := t2 rfl hy
      clear t1 t2 t3
      go_wp2
      go_ret
      exact ⟨rfl, (Hid.out HB4).alloc HT.out _⟩
    · obtain rfl := t3 rfl hy
      clear t1 t2 t3
      go_wp2
      go_ret
      exact ⟨rfl, (Hid.out HB4).alloc HT.out _⟩
end Go.Proofs.Qxb6001620aMods
