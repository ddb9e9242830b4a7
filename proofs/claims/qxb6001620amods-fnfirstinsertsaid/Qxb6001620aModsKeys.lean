import Derived.Test.Qxb6001620aModsProg
import Derived.WalkKit
import Derived.WalkSpells
import Derived.WalkLawsBesides
import Derived.Maps.RangeWalk
import Derived.Maps.OwnSet
import Derived.DeepKeys4
import Derived.KernelRfl
namespace Go.Proofs.Qxb6001620aMods
open Go.RowKit Go.Maps

theorem Trym.laidOutB : laidOutB Trym.prog = true := by kernel_rfl
theorem Trym.row33 : (33 : TypeId) < Trym.prog.types.size := of_decide_eq_true (by kernel_rfl)
theorem Trym.cells33 : Trym.prog.cellsOf 33 = 2 := by kernel_rfl
theorem Trym.wide33 : (match Trym.prog.underlying 33 with | some (.array _ _) | some (.struct _) => true | _ => false) = true := by kernel_rfl
theorem law33 : Keyed Trym.prog 33 := Keyed.of_law (deep_law_laid Trym.laidOutB (m := 2) (by omega) Trym.row33 (by kernel_rfl) Trym.wide33)

def entry (x y : Int) : Value := .agg #[.int .i64 x, .int .i64 y]

theorem keyType33 : Trym.prog.keyType 33 = true := by kernel_rfl
theorem formed33 (x y : Value) : (Value.agg #[x, y]).formed Trym.prog 33 = true := by
  simp [Value.formed, Trym.underlying33, Trym.cells33]

theorem cells2 : Trym.prog.cellsOf 2 = 1 := by kernel_rfl

theorem lits33 (d : Nat) (c0 c1 : Value) : Trym.prog.keyLits (d + 2) 33 [c0, c1] = (do let a ← Trym.prog.keyLits (d + 1) 2 [c0]; let b ← Trym.prog.keyLits (d + 1) 2 [c1]; some (a ++ b)) := by
  conv => lhs; unfold Program.keyLits
  rw [Trym.underlying33]
  simp [Trym.cells33, cells2]
  cases Trym.prog.keyLits (d + 1) 2 [c0] <;> cases Trym.prog.keyLits (d + 1) 2 [c1] <;> simp

theorem size_two : ∃ d, Trym.prog.types.size + 1 = d + 2 := ⟨Trym.prog.types.size - 1, by have h : (33 : Nat) < Trym.prog.types.size := Trym.row33; omega⟩

theorem key_mk (x y : Int) (hx : (Lit.int .i64 x).wf = true) (hy : (Lit.int .i64 y).wf = true) : ∃ kl, keyOf Trym.prog 33 (entry x y) = some kl := by
  obtain ⟨d, hd⟩ := size_two
  unfold keyOf
  rw [Trym.underlying33]
  simp only [entry, keyType33, formed33, Bool.and_self, if_true, Value.cells, hd, lits33]
  simp [Program.keyLits, Trym.underlying2, hx, hy]

theorem key_inv {key : Value} {kl : Lit} (h : keyOf Trym.prog 33 key = some kl) : ∃ x y, key = entry x y := by
  obtain ⟨d, hd⟩ := size_two
  unfold keyOf at h
  rw [Trym.underlying33] at h
  simp only [keyType33, Bool.true_and] at h
  by_cases hf : key.formed Trym.prog 33 = true
  · rw [if_pos hf] at h
    cases key <;> simp [Value.formed, Trym.underlying33, Trym.cells33] at hf
    rename_i cs
    obtain ⟨l⟩ := cs
    match l, hf with
    | [c0, c1], _ =>
      simp only [Value.cells, hd, lits33] at h
      cases h0 : Trym.prog.keyLits (d + 1) 2 [c0] with
      | none => rw [h0] at h; simp at h
      | some l0 =>
        cases h1 : Trym.prog.keyLits (d + 1) 2 [c1] with
        | none => rw [h0, h1] at h; simp at h
        | some l1 =>
          obtain ⟨x, ex, _⟩ := keyLits_int' Trym.underlying2 h0
          obtain ⟨y, ey, _⟩ := keyLits_int' Trym.underlying2 h1
          simp at ex ey
          subst ex ey
          exact ⟨x, y, rfl⟩
  · rw [if_neg hf] at h
    cases h

/-- The keys of the map D are the entries in S. -/
structure KeysAre (D : DataW Unit) (S : List (Int × Int)) : Prop where
  good : ∀ p ∈ S, ∃ kl, keyOf Trym.prog 33 (entry p.1 p.2) = some kl
  mem : ∀ x y kl, keyOf Trym.prog 33 (entry x y) = some kl → (Maps.has D kl = true ↔ (x, y) ∈ S)

theorem keys_start : KeysAre (.map []) [] := ⟨by simp, by
  intro x y kl _
  simp [Maps.has]⟩

theorem entry_inj {x y x' y' : Int} (h : entry x y = entry x' y') : x = x' ∧ y = y' := by simpa [entry] using h

theorem keys_put {D : DataW Unit} {S : List (Int × Int)} (hD : Maps.IsMap D) (h : KeysAre D S) {x y : Int} {kl : Lit} (hk : keyOf Trym.prog 33 (entry x y) = some kl) (d : DataW Unit) : KeysAre (D.put kl d) ((x, y) :: S) := by
  refine ⟨fun p hp => ?_, ?_⟩
  · rcases List.mem_cons.1 hp with rfl | hp
    · exact ⟨kl, hk⟩
    · exact h.good p hp
  intro x' y' kl' hk'
  by_cases e : kl' = kl
  · subst e
    obtain ⟨rfl, rfl⟩ := entry_inj (law33.inj hk hk')
    rw [Maps.has_put_same hD (law33.key hk)]
    simp
  · rw [Maps.has_put_other e, h.mem x' y' kl' hk']
    have : ¬ (x' = x ∧ y' = y) := by
      rintro ⟨rfl, rfl⟩
      rw [hk] at hk'
      exact e (Option.some.inj hk').symm
    simp [this]

/-- What 'first' hands back for the entries S. -/
def FirstIs (S : List (Int × Int)) (x y : Int) (fd : Bool) : Prop := (fd = false ∧ S = []) ∨ (fd = true ∧ (x, y) ∈ S ∧ ∀ p ∈ S, y ≤ p.2)

/-- What has been seen so far: what is still to come is told by 'left'. -/
structure Seen (D : DataW Unit) (S : List (Int × Int)) (left : Lit → Bool) (fd : Bool) (x y : Int) : Prop where
  no : fd = false → ∀ p ∈ S, ∀ kl, keyOf Trym.prog 33 (entry p.1 p.2) = some kl → left kl = true
  yes : fd = true → (x, y) ∈ S ∧ ∀ p ∈ S, ∀ kl, keyOf Trym.prog 33 (entry p.1 p.2) = some kl → left kl = false → y ≤ p.2

theorem seen_start {D : DataW Unit} {S : List (Int × Int)} (h : KeysAre D S) (x y : Int) : Seen D S (Maps.has D) false x y :=
  ⟨fun _ p hp kl hk => (h.mem _ _ kl hk).2 hp, fun e => by cases e⟩

theorem seen_end {D : DataW Unit} {S : List (Int × Int)} {left : Lit → Bool} {fd : Bool} {x y : Int} (h : KeysAre D S) (hs : Seen D S left fd x y) (hl : ∀ kl, left kl = false) : FirstIs S x y fd := by
  cases fd with
  | false =>
    refine .inl ⟨rfl, ?_⟩
    cases S with
    | nil => rfl
    | cons p r =>
      obtain ⟨kl, hk⟩ := h.good p (by simp)
      have := hs.no rfl p (by simp) kl hk
      rw [hl kl] at this
      cases this
  | true =>
    obtain ⟨h1, h2⟩ := hs.yes rfl
    refine .inr ⟨rfl, h1, fun p hp => ?_⟩
    obtain ⟨kl, hk⟩ := h.good p hp
    exact h2 p hp kl hk (hl kl)

/-- The step: the entry (x', y') has come. -/
theorem seen_step {D : DataW Unit} {S : List (Int × Int)} {left : Lit → Bool} {fd : Bool} {x y x' y' : Int} {kl : Lit} {d : DataW Unit} (h : KeysAre D S) (hs : Seen D S left fd x y) (hk : keyOf Trym.prog 33 (entry x' y') = some kl) (hat : ∀ zd, D.atKey kl zd = d) :
    ((fd = false ∨ y' < y) → Seen D S (fun z => left z && !z.sameKey kl) true x' y') ∧ (fd = true → ¬ y' < y → Seen D S (fun z => left z && !z.sameKey kl) true x y) := by
  have hin : (x', y') ∈ S := (h.mem x' y' kl hk).1 (Maps.has_true_of_atKey hat)
  have hcase : ∀ p ∈ S, ∀ kl', keyOf Trym.prog 33 (entry p.1 p.2) = some kl' → (left kl' && !kl'.sameKey kl) = false → left kl' = false ∨ p = (x', y') := by
    intro p hp kl' hk' hl
    cases hlk : left kl' with
    | false => exact .inl rfl
    | true =>
      right
      rw [hlk] at hl
      have e : kl'.sameKey kl = true := by simpa using hl
      have e2 := WideAt.sameKey_eq e
      subst e2
      obtain ⟨e1, e2⟩ := entry_inj (law33.inj hk' hk)
      exact Prod.ext e1 e2
  refine ⟨fun hc => ⟨fun e => (by cases e), fun _ => ⟨hin, fun p hp kl' hk' hl => ?_⟩⟩, fun hf hn => ⟨fun e => (by cases e), fun _ => ⟨(hs.yes hf).1, fun p hp kl' hk' hl => ?_⟩⟩⟩
  · rcases hcase p hp kl' hk' hl with h1 | rfl
    · cases hfd : fd with
      | false => have := hs.no hfd p hp kl' hk'; rw [h1] at this; cases this
      | true =>
        have h2 := (hs.yes hfd).2 p hp kl' hk' h1
        rcases hc with e | e
        · rw [hfd] at e; cases e
        · omega
    · exact Int.le_refl _
  · rcases hcase p hp kl' hk' hl with h1 | rfl
    · exact (hs.yes hf).2 p hp kl' hk' h1
    · simp only; omega

theorem owns_isMap {w : World} {b n : Nat} {D : DataW Unit} {R : Value → Option (DataW Unit × List MemPlace)} (h : w.ownsMap Trym.prog 33 R b n D) : Maps.IsMap D := by
  obtain ⟨es, clock, _, _, _, rfl⟩ := h
  exact ⟨_, rfl⟩

theorem makeMap30 (n : Int) (w : World) : (Instr.makeMap 30 (some (.int .i64 n))).run Trym.prog w = .ok (.map (some w.heap.size)) (w.alloc (.map #[] 0)) := by
  simp [Instr.makeMap, run_underlying Trym.underlying30, asInt, asIntOf, Result.andThen]

/-- The map of the law: block b, whatever its entries. -/
def MapAt (w : World) (b n : Nat) (D : DataW Unit) : Prop := w.ownsMap Trym.prog 33 (plainElem Trym.prog 4) b n D

/-- A store at an entry, whatever is stored: one world for each Bool. -/
theorem update_any {w : World} {b n : Nat} {D : DataW Unit} (h : MapAt w b n D) (hn : n < maxLen) {x y : Int} {kl : Lit} (hk : keyOf Trym.prog 33 (entry x y) = some kl) :
    ∃ f : Bool → World, ∀ v, (Instr.mapUpdate 30 (.map (some b)) (.agg #[.int .i64 x, .int .i64 y]) (.bool v)).run Trym.prog w = .ok () (f v) ∧ MapAt (f v) b (n + 1) (D.put kl (.lit (.bool v))) ∧ w.grownBy (f v) (some b) := by
  have h1 : ∀ v : Bool, ∃ w', (Instr.mapUpdate 30 (.map (some b)) (.agg #[.int .i64 x, .int .i64 y]) (.bool v)).run Trym.prog w = .ok () w' ∧ MapAt w' b (n + 1) (D.put kl (.lit (.bool v))) ∧ w.grownBy w' (some b) :=
    fun v => World.ownsMap.update h law33 Trym.underlying30 hn hk (plainElem_bool Trym.underlying4 v)
  exact Classical.axiomOfChoice h1
end Go.Proofs.Qxb6001620aMods
