import Derived.Test.Qxb6001620aModsFresh
import Derived.Deep.RegionLaw
namespace Go.Proofs.Qxb6001620aMods
open Go.RowKit

theorem Trym.info22 : (Trym.prog.info? 22).map (fun i => (i.zero, i.size, i.bytes)) = some (some (.slice none 0 0), 1, 24) := by kernel_rfl

/-- append within the capacity, as one step of a region that draws. -/
theorem step_append_fits {P : Program} {ops : Array Oper} {o : Oper} {a : Act} {w : World} {K : Act → World → Prop} {Q : Exit → Act → World → Prop} {E : Prop}
    (hg : o.guard = none) (s x : Operand) (t : TypeId) (hop : o.op = Op.call { callee := Callee.builtin Builtin.append, args := #[s, x], argTypes := #[t, t] })
    (base : Nat) (e : TypeId) (i : TypeInfo) (size : Nat) (h1 : P.underlying t = some (.slice e)) (h2 : P.info? e = some i) (h4 : i.size = size)
    (g k cap : Nat) (xs : List Value) (hs : a.eval s = .slice (some ⟨g, 0, none⟩) k cap) (hown : w.ownsRow base e size (.slice (some ⟨g, 0, none⟩) k cap) k xs) (ad : Addr) (m c : Nat) (news : List Value) (hx : a.eval x = .slice (some ad) m c) (hn : news.length = m * size)
    (hc : ∀ j u, news[j]? = some u → w.cell? (ad.add j) = some u) (h1c : ∀ u ∈ news, u.oneCell' = true) (b1 : k + m ≤ cap)
    (hK : ∀ w', w'.ownsRow base e size (.slice (some ⟨g, 0, none⟩) (k + m) cap) (k + m) (xs ++ news) → w.grownBy w' (some g) → K (a.put o.dst (.slice (some ⟨g, 0, none⟩) (k + m) cap)) w') :
    if Region.wanted o (yielded ops a.tmps) = true then Oper.wp P o a w K Q else E := by
  have hw : Region.wanted o (yielded ops a.tmps) = true := by simp [Region.wanted, hg]
  rw [if_pos hw]
  obtain ⟨w', hrun, r1, r2⟩ := run_append_fits (P := P) w base t o.type e i size h1 h2 h4 g k cap xs hown ad m c news hn hc h1c b1
  unfold Oper.wp
  simp [execOp, hop, resolve, invoke, builtin, hs, hx, hrun, Result.andThen]
  exact hK w' r1 r2

/-- append to a row of the call's own, as one step of a region that draws. -/
theorem step_append_own {P : Program} {ops : Array Oper} {o : Oper} {a : Act} {w : World} {K : Act → World → Prop} {Q : Exit → Act → World → Prop} {E : Prop}
    (hg : o.guard = none) (s x : Operand) (t : TypeId) (hop : o.op = Op.call { callee := Callee.builtin Builtin.append, args := #[s, x], argTypes := #[t, t] })
    (base : Nat) (e : TypeId) (i : TypeInfo) (z : Value) (size bytes : Nat) (ht : P.underlying t = some (.slice e)) (hi : P.info? e = some i) (hz : i.zero = some z)
    (hsize : i.size = size) (hby : i.bytes = bytes) (hzs : z.cells.size = size) (hsz : 0 < size)
    (v : Value) (n : Nat) (xs : List Value) (hs : a.eval s = v) (hown : w.ownsRow base e size v n xs)
    (ad : Addr) (m c : Nat) (news : List Value) (hx : a.eval x = .slice (some ad) m c) (hl : news.length = m * size) (hnews : ∀ j u, news[j]? = some u → w.cell? (ad.add j) = some u) (h1 : ∀ u ∈ news, u.oneCell' = true)
    (h63 : n + m ≤ maxLen) (hbytes : (n + m) * bytes ≤ 140737488355328) (hbase : base ≤ w.heap.size)
    (hK : ∀ v' w', w'.ownsRow base e size v' (n + m) (xs ++ news) → w.grownBy w' v.ownBlock → K (a.put o.dst v') w') :
    if Region.wanted o (yielded ops a.tmps) = true then Oper.wp P o a w K Q else E := by
  have hw : Region.wanted o (yielded ops a.tmps) = true := by simp [Region.wanted, hg]
  rw [if_pos hw]
  obtain ⟨v', w', hr, h2, h3, _⟩ := run_append_own (P := P) w base t o.type e i z size bytes ht hi hz hsize hby hzs hsz v n xs hown ad m c news hl hnews h1 h63 hbytes hbase
  unfold Oper.wp
  simp [execOp, hop, resolve, invoke, builtin, hs, hx, hr, Result.andThen]
  exact hK v' w' h2 h3

theorem make0 (k : Nat) (h1 : k ≤ 524288) (w : World) :
    (Instr.makeSlice 22 (.int .i64 0) (.int .i64 k)).run Trym.prog w = .ok (.slice (some ⟨w.heap.size, 0, none⟩) 0 k) (w.alloc (.cells (madeCells (Value.int .u8 0).cells k) 5)) := by
  obtain ⟨i0, hi, hz0, hz1, hz2⟩ := info_parts Trym.info5
  have h := run_make (P := Trym.prog) w 22 5 i0 (.int .u8 0) Trym.underlying22 hi hz0 .i64 .i64 0 k (by omega) (by omega) (by rw [hz2]; omega) (by omega)
  rw [h, hz1]
  simp

/-- A chunk: its block, its length, its capacity. -/
def chunkVal (x : Nat × Nat × Nat) : Value := .slice (some ⟨x.1, 0, none⟩) x.2.1 x.2.2

/-- Chunk j of the data zs cut at N: its length, and its bytes in its own block. -/
def ChunkIs (w : World) (B N len : Nat) (zs : List Int) (j : Nat) (x : Nat × Nat × Nat) : Prop :=
  B ≤ x.1 ∧ x.2.1 = min N (len - j * N) ∧ ∃ c : Array Value, w.heap[x.1]? = some (.cells c 5 (0, 0)) ∧ ∀ i, i < x.2.1 → c[i]? = some (.int .u8 (zs.getD (j * N + i) 0))

theorem cut_one (a : Option Addr) (len : Nat) (n : Int) (w : World) (h1 : (len : Int) ≤ n) :
    Calls Trym.prog 15 #[.slice a len len, .int .i64 n] w fun e w' => e = .returned (.slice (some ⟨w.heap.size, 0, none⟩) 1 1) ∧ w' = w.alloc (.cells #[.slice a len len] 22) := by
  go_enter Trym.func15, Trym.ntmps15
  go_wp2
  go_ret
  exact ⟨rfl, rfl⟩

structure CutRel (w : World) (g len cap N : Nat) (zs : List Int) (L : List (Nat × Nat × Nat)) (ad : Option Addr) (m c : Nat) (v : Value) (wr : World) : Prop where
  hm : m + min (L.length * N) len = len
  hc : c + min (L.length * N) len = cap
  had : L.length * N < len → ad = some ⟨g, L.length * N, none⟩
  hown : wr.ownsRow w.heap.size 22 1 v L.length (L.map chunkVal)
  hbel : Below w.heap.size w wr
  hlt : L.length * N < len + N
  hL : ∀ j x, L[j]? = some x → ChunkIs wr w.heap.size N len zs j x

def sliceLen : Value → Nat | .slice _ m _ => m | _ => 0
def newBytes (zs : List Int) (q K : Nat) : List Value := (List.range K).map fun i => .int .u8 (zs.getD (q + i) 0)
def madeObj (K : Nat) : Obj := .cells (madeCells (Value.int .u8 0).cells K) 5

theorem own_made {w wr : World} (hb : Below w.heap.size w wr) (K : Nat) (hK : K ≤ 524288) :
    (wr.alloc (madeObj K)).drew.ownsRow w.heap.size 5 1 (.slice (some ⟨wr.heap.size, 0, none⟩) 0 K) 0 [] :=
  (World.ownsRow_made wr _ K hb.size (by unfold maxLen; omega) (by simp [madeCells])).drew

theorem news_at {w wr : World} {g len q K : Nat} {zs : List Int} (hb : Below w.heap.size w wr) (hg : g < w.heap.size) (hcell : ∀ i, i < len → w.cell? ⟨g, i, none⟩ = some (.int .u8 (zs.getD i 0))) (hK : q + K ≤ len) (o : Obj) :
    ∀ j u, (newBytes zs q K)[j]? = some u → (wr.alloc o).drew.cell? ((⟨g, q, none⟩ : Addr).add j) = some u := by
  intro j u hu
  have hj : j < K := by have := (List.getElem?_eq_some_iff.1 hu).1; simpa [newBytes] using this
  have e : u = .int .u8 (zs.getD (q + j) 0) := by simpa [newBytes, hj] using hu.symm
  have h1 : (wr.alloc o).drew.cell? ((⟨g, q, none⟩ : Addr).add j) = wr.cell? ⟨g, q + j, none⟩ := by
    rw [Addr.add_lit]
    show (wr.alloc o).cell? _ = _
    exact World.cell?_of_block (Below.heap_alloc _ _ _ (Nat.lt_of_lt_of_le hg hb.size))
  rw [h1, hb.cell (p := ⟨g, q + j, none⟩) hg, hcell _ (by omega), e]

theorem new_one (zs : List Int) (q K : Nat) : ∀ u ∈ newBytes zs q K, u.oneCell' = true := by
  intro u hu
  obtain ⟨_, _, rfl⟩ := List.mem_map.1 hu
  rfl

theorem one_slice {a : Option Addr} {n c : Nat} : ∀ u ∈ [Value.slice a n c], u.oneCell' = true := by
  intro u hu
  simp at hu
  subst hu
  rfl

theorem own_kept1 {w wr w1 : World} {v : Value} {n : Nat} {xs : List Value} {o : Obj} (hown : wr.ownsRow w.heap.size 22 1 v n xs) (hgrow : (wr.alloc o).drew.grownBy w1 (some wr.heap.size)) : w1.ownsRow w.heap.size 22 1 v n xs := by
  have h1 : (wr.alloc o).drew.ownsRow w.heap.size 22 1 v n xs := (hown.alloc o).drew
  refine h1.kept hgrow ?_
  right
  intro e
  have := (hown.lt _ e).2
  omega

theorem rel_step {w wr w1 w2 : World} {g len cap N K q m c : Nat} {zs : List Int} {L : List (Nat × Nat × Nat)} {ad : Option Addr} {v v' : Value} {o2 : Obj}
    (R : CutRel w g len cap N zs L (some ⟨g, q, none⟩) m c v wr) (hq : q = L.length * N) (hlt : q < len) (hK : K = min N m)
    (own1 : w1.ownsRow w.heap.size 5 1 (.slice (some ⟨wr.heap.size, 0, none⟩) (0 + K) K) (0 + K) ([] ++ newBytes zs q K)) (grow1 : (wr.alloc (madeObj K)).drew.grownBy w1 (some wr.heap.size))
    (own2 : w2.ownsRow w.heap.size 22 1 v' (L.length + 1) (L.map chunkVal ++ [.slice (some ⟨wr.heap.size, 0, none⟩) K K])) (grow2 : (w1.alloc o2).grownBy w2 v.ownBlock)
    (had : ¬ c = K → ad = some ⟨g, q + K, none⟩) (hlc : len ≤ cap) :
    CutRel w g len cap N zs (L ++ [(wr.heap.size, K, K)]) ad (m - K) (c - K) v' w2 := by
  have hqm : q + m = len := by have := R.hm; omega
  have hqc : q + c = cap := by have := R.hc; omega
  have hs1 : wr.heap.size < w1.heap.size := by have := grow1.size; simp at this; omega
  have hll : (L ++ [(wr.heap.size, K, K)]).length * N = q + N := by simp [Nat.add_mul]; omega
  have hblock : ∀ b, b < wr.heap.size → v.ownBlock ≠ some b → w2.heap[b]? = wr.heap[b]? := by
    intro b hb hv
    rw [grow2.block b (by simp; omega) (fun e => hv e.symm), Below.heap_alloc _ _ _ (by omega), grow1.block b (by simp; omega) (by simp; omega)]
    exact Below.heap_alloc _ _ _ hb
  have hnv : ∀ b c' f, wr.heap[b]? = some (.cells c' 5 f) → v.ownBlock ≠ some b := by
    intro b c' f hb e
    rcases R.hown.2 with ⟨rfl, _⟩ | ⟨g', cap', cur, rfl, _, hgg, _⟩
    · simp [Value.ownBlock] at e
    · simp [Value.ownBlock] at e
      subst e
      rw [hgg] at hb
      simp at hb
  refine ⟨by rw [hll]; omega, by rw [hll]; omega, ?_, by simpa [chunkVal] using own2, ?_, by rw [hll]; omega, ?_⟩
  · intro h
    rw [hll] at h ⊢
    have e : K = N := by omega
    rw [had (by omega), e]
  · refine Below.grown (row := v.ownBlock) ?_ grow2 ?_ (fun k hk => (R.hown.lt k hk).1)
    · refine Below.alloc ?_ (by have := R.hbel.size; omega) _
      refine Below.grown (row := some wr.heap.size) (w := (wr.alloc (madeObj K)).drew) ?_ grow1 (by have := R.hbel.size; simp; omega) (fun k hk => by cases hk; exact R.hbel.size)
      exact (R.hbel.alloc R.hbel.size _).drew
    · have := R.hbel.size; simp; omega
  · intro j x hx
    by_cases hj : j < L.length
    · rw [List.getElem?_append_left hj] at hx
      obtain ⟨hB, hl, c', hh, hcs⟩ := R.hL j x hx
      refine ⟨hB, hl, c', ?_, hcs⟩
      rw [hblock _ (Array.getElem?_eq_some_iff.1 hh).1 (hnv _ _ _ hh)]
      exact hh
    · have hj' : j = L.length := by
        have := (List.getElem?_eq_some_iff.1 hx).1
        simp at this
        omega
      subst hj'
      rw [List.getElem?_append_right (Nat.le_refl _)] at hx
      simp at hx
      subst hx
      rcases own1.2 with ⟨h, _⟩ | ⟨g', cap', cur, h, _, hgg, _, _, _, htake⟩
      · simp at h
      · simp only [Value.slice.injEq, Option.some.injEq, Addr.mk.injEq, and_true] at h
        obtain ⟨rfl, _, rfl⟩ := h
        refine ⟨R.hbel.size, by simp only [← hq]; omega, cur, ?_, ?_⟩
        · rw [grow2.block _ (by simp; omega) (fun e => ?_), Below.heap_alloc _ _ _ hs1]
          · exact hgg
          · have := (R.hown.lt _ e.symm).2
            omega
        · intro i hi
          have h1 : (cur.toList.take ((0 + K) * 1))[i]? = some (.int .u8 (zs.getD (q + i) 0)) := by
            rw [htake]
            simp [newBytes, show i < K from hi]
          rw [List.getElem?_take, if_pos (by simpa using hi)] at h1
          rw [← hq]
          simpa using h1

theorem cut_many (g len cap N : Nat) (zs : List Int) (w : World) (hg : g < w.heap.size) (h0 : 0 < len) (hN : 1 ≤ N) (hNm : N ≤ 9223372036854775807) (hlen : len ≤ 524288) (hcap : len ≤ cap) (hcap2 : cap ≤ 1048576) (hbr : ¬ ((len : Int) ≤ (N : Int) ∧ len = cap))
    (hcell : ∀ i, i < len → w.cell? ⟨g, i, none⟩ = some (.int .u8 (zs.getD i 0))) :
    Calls Trym.prog 15 #[.slice (some ⟨g, 0, none⟩) len cap, .int .i64 N] w fun e w' => ∃ (v : Value) (L : List (Nat × Nat × Nat)), e = .returned v ∧ w'.ownsRow w.heap.size 22 1 v L.length (L.map chunkVal) ∧ Below w.heap.size w w' ∧
      len ≤ L.length * N ∧ L.length * N < len + N ∧ ∀ j x, L[j]? = some x → ChunkIs w' w.heap.size N len zs j x := by
  obtain ⟨i0, hi, hz0, hz1, hz2⟩ := info_parts Trym.info22
  obtain ⟨i1, ki, kz0, kz1, kz2⟩ := info_parts Trym.info5
  by_cases hb1 : (len : Int) ≤ (N : Int)
  · have hb2 : ((len : Int) == (cap : Int)) = false := by
      have e : ¬ len = cap := fun e => hbr ⟨hb1, e⟩
      simpa using (by omega : ¬ (len : Int) = (cap : Int))
    clear hbr
    go_enter Trym.func15, Trym.ntmps15
    go_wp2
    go_loopw [0, 5, 6] (fun d v _ wr => ∃ (L : List (Nat × Nat × Nat)) (ad : Option Addr) (m c : Nat), d = .slice ad m c ∧ CutRel w g len cap N zs L ad m c v wr) (fun d _ _ _ => sliceLen d)
    case atStart => exact ⟨[], _, len, cap, rfl, by simp, by simp, fun _ => by simp, World.ownsRow_nil _ _ _ _, Below.refl _ _, by simp; omega, by simp⟩
    case round =>
      obtain ⟨L, ad, m, c, rfl, R⟩ := hrel
      by_cases hm : m = 0
      · subst hm
        go_wp2
        go_ret
        have := R.hm
        exact ⟨_, L, rfl, R.hown, R.hbel, by omega, R.hlt, R.hL⟩
      · have hq : L.length * N < len := by have := R.hm; omega
        have e1 := R.had hq
        subst e1
        obtain ⟨q, eq⟩ : ∃ q, q = L.length * N := ⟨_, rfl⟩
        rw [← eq] at R ⊢
        have EQ : Hid (q = L.length * N) := eq
        have hqm : q + m = len := by have := R.hm; omega
        have hqc : q + c = cap := by have := R.hc; omega
        clear eq
        have HQ : Hid (q + m = len ∧ q + c = cap) := ⟨hqm, hqc⟩
        have hmc : m ≤ c := by omega
        have hm5 : m ≤ 524288 := by omega
        have hc5 : c ≤ 1048576 := by omega
        have hLl : L.length ≤ 524288 := by have := Nat.le_mul_of_pos_right L.length (show 0 < N by omega); omega
        clear hqm hqc hq
        rcases Nat.lt_or_ge m N with hmN | hmN
        · have hmk := make0 m hm5
          go_wp2
          have H1 : Hid _ := own_made R.hbel m (by omega)
          have H2 : Hid _ := news_at (q := q) (K := m) R.hbel hg hcell (by have := HQ.out; omega) (madeObj m)
          have H3 : Hid _ := R.hown
          have H4 : Hid (w.heap.size ≤ wr.heap.size) := R.hbel.size
          go_region_law (first
            | (refine step_append_fits rfl (.tmp 29) (.tmp 32) 22 rfl w.heap.size 5 i1 1 Trym.underlying22 ki kz1 wr.heap.size 0 m [] (by simp [Act.eval]) H1.out ⟨g, q, none⟩ m c (newBytes zs q m) (by simp [Act.eval]) (by simp [newBytes]) H2.out (new_one _ _ _) (by omega) ?_; intro w1 own1 grow1; have O1 : Hid _ := own1; have G1 : Hid _ := grow1; have O2 : Hid _ := own_kept1 H3.out grow1; have S1 : Hid (w.heap.size ≤ w1.heap.size) := Nat.le_trans H4.out (Nat.le_trans (by simp) grow1.size); clear own1 grow1)
            | (refine step_append_own rfl (.tmp 27) (.tmp 34) 25 rfl w.heap.size 22 i0 (.slice none 0 0) 1 24 Trym.underlying25 hi hz0 hz1 hz2 rfl (by decide) u5 L.length (L.map chunkVal) (by simp [Act.eval]) (World.ownsRow.alloc O2.out _) ⟨w1.heap.size, 0, none⟩ 1 1 [.slice (some ⟨wr.heap.size, 0, none⟩) m m] (by simp [Act.eval]) rfl (cell_one_new _ _ _) one_slice (by unfold maxLen; omega) (by omega) (by have := S1.out; simp; omega) ?_; intro v' w2 own2 grow2; have O3 : Hid _ := own2; have G2 : Hid _ := grow2; clear own2 grow2))
          go_wp2
          go_roundw
          case rel =>
            have RS := rel_step (ad := if c = m then some ⟨g, q, none⟩ else some ⟨g, q + m, none⟩) R EQ.out (by have := HQ.out; omega) (by omega) O1.out G1.out O3.out G2.out (by intro h; rw [if_neg h]) hcap
            rw [Nat.sub_self] at RS
            exact ⟨_, _, _, _, rfl, RS⟩
          case measure => simp only [sliceLen]; omega
        · have hNc : N ≤ c := by omega
          have hmk := make0 N (by omega)
          go_wp2
          have H1 : Hid _ := own_made R.hbel N (by omega)
          have H2 : Hid _ := news_at (q := q) (K := N) R.hbel hg hcell (by have := HQ.out; omega) (madeObj N)
          have H3 : Hid _ := R.hown
          have H4 : Hid (w.heap.size ≤ wr.heap.size) := R.hbel.size
          go_region_law (first
            | (refine step_append_fits rfl (.tmp 29) (.tmp 32) 22 rfl w.heap.size 5 i1 1 Trym.underlying22 ki kz1 wr.heap.size 0 N [] (by simp [Act.eval]) H1.out ⟨g, q, none⟩ N c (newBytes zs q N) (by simp [Act.eval]) (by simp [newBytes]) H2.out (new_one _ _ _) (by omega) ?_; intro w1 own1 grow1; have O1 : Hid _ := own1; have G1 : Hid _ := grow1; have O2 : Hid _ := own_kept1 H3.out grow1; have S1 : Hid (w.heap.size ≤ w1.heap.size) := Nat.le_trans H4.out (Nat.le_trans (by simp) grow1.size); clear own1 grow1)
            | (refine step_append_own rfl (.tmp 27) (.tmp 34) 25 rfl w.heap.size 22 i0 (.slice none 0 0) 1 24 Trym.underlying25 hi hz0 hz1 hz2 rfl (by decide) u5 L.length (L.map chunkVal) (by simp [Act.eval]) (World.ownsRow.alloc O2.out _) ⟨w1.heap.size, 0, none⟩ 1 1 [.slice (some ⟨wr.heap.size, 0, none⟩) N N] (by simp [Act.eval]) rfl (cell_one_new _ _ _) one_slice (by unfold maxLen; omega) (by omega) (by have := S1.out; simp; omega) ?_; intro v' w2 own2 grow2; have O3 : Hid _ := own2; have G2 : Hid _ := grow2; clear own2 grow2))
          go_wp2
          go_roundw
          case rel => exact ⟨_, _, _, _, rfl, rel_step (ad := if c = N then some ⟨g, q, none⟩ else some ⟨g, q + N, none⟩) R EQ.out (by have := HQ.out; omega) (by omega) O1.out G1.out O3.out G2.out (by intro h; rw [if_neg h]) hcap⟩
          case measure => simp only [sliceLen]; omega
  · clear hbr
    go_enter Trym.func15, Trym.ntmps15
    go_wp2
    go_loopw [0, 5, 6] (fun d v _ wr => ∃ (L : List (Nat × Nat × Nat)) (ad : Option Addr) (m c : Nat), d = .slice ad m c ∧ CutRel w g len cap N zs L ad m c v wr) (fun d _ _ _ => sliceLen d)
    case atStart => exact ⟨[], _, len, cap, rfl, by simp, by simp, fun _ => by simp, World.ownsRow_nil _ _ _ _, Below.refl _ _, by simp; omega, by simp⟩
    case round =>
      obtain ⟨L, ad, m, c, rfl, R⟩ := hrel
      by_cases hm : m = 0
      · subst hm
        go_wp2
        go_ret
        have := R.hm
        exact ⟨_, L, rfl, R.hown, R.hbel, by omega, R.hlt, R.hL⟩
      · have hq : L.length * N < len := by have := R.hm; omega
        have e1 := R.had hq
        subst e1
        obtain ⟨q, eq⟩ : ∃ q, q = L.length * N := ⟨_, rfl⟩
        rw [← eq] at R ⊢
        have EQ : Hid (q = L.length * N) := eq
        have hqm : q + m = len := by have := R.hm; omega
        have hqc : q + c = cap := by have := R.hc; omega
        clear eq
        have HQ : Hid (q + m = len ∧ q + c = cap) := ⟨hqm, hqc⟩
        have hmc : m ≤ c := by omega
        have hm5 : m ≤ 524288 := by omega
        have hc5 : c ≤ 1048576 := by omega
        have hLl : L.length ≤ 524288 := by have := Nat.le_mul_of_pos_right L.length (show 0 < N by omega); omega
        clear hqm hqc hq
        rcases Nat.lt_or_ge m N with hmN | hmN
        · have hmk := make0 m hm5
          go_wp2
          have H1 : Hid _ := own_made R.hbel m (by omega)
          have H2 : Hid _ := news_at (q := q) (K := m) R.hbel hg hcell (by have := HQ.out; omega) (madeObj m)
          have H3 : Hid _ := R.hown
          have H4 : Hid (w.heap.size ≤ wr.heap.size) := R.hbel.size
          go_region_law (first
            | (refine step_append_fits rfl (.tmp 29) (.tmp 32) 22 rfl w.heap.size 5 i1 1 Trym.underlying22 ki kz1 wr.heap.size 0 m [] (by simp [Act.eval]) H1.out ⟨g, q, none⟩ m c (newBytes zs q m) (by simp [Act.eval]) (by simp [newBytes]) H2.out (new_one _ _ _) (by omega) ?_; intro w1 own1 grow1; have O1 : Hid _ := own1; have G1 : Hid _ := grow1; have O2 : Hid _ := own_kept1 H3.out grow1; have S1 : Hid (w.heap.size ≤ w1.heap.size) := Nat.le_trans H4.out (Nat.le_trans (by simp) grow1.size); clear own1 grow1)
            | (refine step_append_own rfl (.tmp 27) (.tmp 34) 25 rfl w.heap.size 22 i0 (.slice none 0 0) 1 24 Trym.underlying25 hi hz0 hz1 hz2 rfl (by decide) u5 L.length (L.map chunkVal) (by simp [Act.eval]) (World.ownsRow.alloc O2.out _) ⟨w1.heap.size, 0, none⟩ 1 1 [.slice (some ⟨wr.heap.size, 0, none⟩) m m] (by simp [Act.eval]) rfl (cell_one_new _ _ _) one_slice (by unfold maxLen; omega) (by omega) (by have := S1.out; simp; omega) ?_; intro v' w2 own2 grow2; have O3 : Hid _ := own2; have G2 : Hid _ := grow2; clear own2 grow2))
          go_wp2
          go_roundw
          case rel =>
            have RS := rel_step (ad := if c = m then some ⟨g, q, none⟩ else some ⟨g, q + m, none⟩) R EQ.out (by have := HQ.out; omega) (by omega) O1.out G1.out O3.out G2.out (by intro h; rw [if_neg h]) hcap
            rw [Nat.sub_self] at RS
            exact ⟨_, _, _, _, rfl, RS⟩
          case measure => simp only [sliceLen]; omega
        · have hNc : N ≤ c := by omega
          have hmk := make0 N (by omega)
          go_wp2
          have H1 : Hid _ := own_made R.hbel N (by omega)
          have H2 : Hid _ := news_at (q := q) (K := N) R.hbel hg hcell (by have := HQ.out; omega) (madeObj N)
          have H3 : Hid _ := R.hown
          have H4 : Hid (w.heap.size ≤ wr.heap.size) := R.hbel.size
          go_region_law (first
            | (refine step_append_fits rfl (.tmp 29) (.tmp 32) 22 rfl w.heap.size 5 i1 1 Trym.underlying22 ki kz1 wr.heap.size 0 N [] (by simp [Act.eval]) H1.out ⟨g, q, none⟩ N c (newBytes zs q N) (by simp [Act.eval]) (by simp [newBytes]) H2.out (new_one _ _ _) (by omega) ?_; intro w1 own1 grow1; have O1 : Hid _ := own1; have G1 : Hid _ := grow1; have O2 : Hid _ := own_kept1 H3.out grow1; have S1 : Hid (w.heap.size ≤ w1.heap.size) := Nat.le_trans H4.out (Nat.le_trans (by simp) grow1.size); clear own1 grow1)
            | (refine step_append_own rfl (.tmp 27) (.tmp 34) 25 rfl w.heap.size 22 i0 (.slice none 0 0) 1 24 Trym.underlying25 hi hz0 hz1 hz2 rfl (by decide) u5 L.length (L.map chunkVal) (by simp [Act.eval]) (World.ownsRow.alloc O2.out _) ⟨w1.heap.size, 0, none⟩ 1 1 [.slice (some ⟨wr.heap.size, 0, none⟩) N N] (by simp [Act.eval]) rfl (cell_one_new _ _ _) one_slice (by unfold maxLen; omega) (by omega) (by have := S1.out; simp; omega) ?_; intro v' w2 own2 grow2; have O3 : Hid _ := own2; have G2 : Hid _ := grow2; clear own2 grow2))
          go_wp2
          go_roundw
          case rel => exact ⟨_, _, _, _, rfl, rel_step (ad := if c = N then some ⟨g, q, none⟩ else some ⟨g, q + N, none⟩) R EQ.out (by have := HQ.out; omega) (by omega) O1.out G1.out O3.out G2.out (by intro h; rw [if_neg h]) hcap⟩
          case measure => simp only [sliceLen]; omega
end Go.Proofs.Qxb6001620aMods
