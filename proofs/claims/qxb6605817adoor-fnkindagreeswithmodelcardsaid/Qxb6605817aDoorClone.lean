/-
  THE WALKS of seat b6605817aD: zzCloneRb1.
-/
import Derived.Test.Qxb6605817aDoorSmall
import Derived.Lib.SliceRun
namespace Go.Proofs.Qxb6605817aDoor
open Go.RowKit

theorem info60 : (Tryd.prog.info? 60).map (fun i => (i.zero, i.size, i.bytes)) = some (some (.agg #[.int .i64 0, .string ⟨#[]⟩, .bool false]), 3, 32) := by kernel_rfl

theorem lt_of_heap_cell {W : World} {k i : Nat} {v : Value} (h : W.cell? ⟨k, i, none⟩ = some v) : k < W.heap.size := World.block_lt_of_cell? W ⟨k, i, none⟩ h

/-- The copy so far: its first k entries are laid. -/
structure CloneAt (w wr : World) (es : List Ent) (k : Nat) : Prop where
  cell : ∀ j, j < es.length * 3 → ∃ v, wr.cell? ⟨w.heap.size, j, none⟩ = some v
  fro : ∀ j, wr.frozen? ⟨w.heap.size, j, none⟩ = false
  par : ∀ i (h : i < es.length), i < k → wr.cell? ⟨w.heap.size, i * 3, none⟩ = some (.int .i64 es[i].par)
  name : ∀ i (h : i < es.length), i < k → wr.cell? ⟨w.heap.size, i * 3 + 1, none⟩ = some (.string es[i].name)
  dir : ∀ i (h : i < es.length), i < k → wr.cell? ⟨w.heap.size, i * 3 + 2, none⟩ = some (.bool es[i].dir)
  bel : Below w.heap.size w wr

theorem set_ne {W : World} {B i j : Nat} (v : Value) (h : i ≠ j) : (W.setCell ⟨B, j, none⟩ v).cell? ⟨B, i, none⟩ = W.cell? ⟨B, i, none⟩ :=
  World.cell?_setCell_other _ _ _ _ (fun e => h (by have := congrArg Addr.off e; simpa using this.symm))
theorem set_eq {W : World} {B j : Nat} {u : Value} (v : Value) (h : W.cell? ⟨B, j, none⟩ = some u) : (W.setCell ⟨B, j, none⟩ v).cell? ⟨B, j, none⟩ = some v := World.cell?_setCell_same _ _ _ h
theorem set_some {W : World} {B i j : Nat} {u : Value} (v : Value) (h : W.cell? ⟨B, i, none⟩ = some u) : ∃ u', (W.setCell ⟨B, j, none⟩ v).cell? ⟨B, i, none⟩ = some u' := by
  by_cases e : i = j
  · subst e; exact ⟨v, set_eq v h⟩
  · exact ⟨u, (set_ne v e).trans h⟩

theorem CloneAt.next {w wr : World} {es : List Ent} {k : Nat} (h : CloneAt w wr es k) (hk : k < es.length) :
    CloneAt w (((wr.setCell ⟨w.heap.size, k * 3, none⟩ (.int .i64 es[k].par)).setCell ⟨w.heap.size, k * 3 + 1, none⟩ (.string es[k].name)).setCell ⟨w.heap.size, k * 3 + 2, none⟩ (.bool es[k].dir)) es (k + 1) := by
  obtain ⟨v0, d0⟩ := h.cell (k * 3) (by omega)
  obtain ⟨v1, d1⟩ := h.cell (k * 3 + 1) (by omega)
  obtain ⟨v2, d2⟩ := h.cell (k * 3 + 2) (by omega)
  refine ⟨fun j hj => ?_, fun j => ?_, fun i hi hik => ?_, fun i hi hik => ?_, fun i hi hik => ?_, ?_⟩
  · obtain ⟨u, hu⟩ := h.cell j hj
    obtain ⟨u, hu⟩ := set_some (j := k * 3) (.int .i64 es[k].par) hu
    obtain ⟨u, hu⟩ := set_some (j := k * 3 + 1) (.string es[k].name) hu
    exact set_some _ hu
  · rw [World.frozen?_setCell, World.frozen?_setCell, World.frozen?_setCell]; exact h.fro j
  · by_cases e : i = k
    · subst e
      rw [set_ne _ (by omega), set_ne _ (by omega)]; exact set_eq _ d0
    · rw [set_ne _ (by omega), set_ne _ (by omega), set_ne _ (by omega)]; exact h.par i hi (by omega)
  · by_cases e : i = k
    · subst e
      rw [set_ne _ (by omega)]; exact set_eq _ ((set_ne _ (by omega)).trans d1)
    · rw [set_ne _ (by omega), set_ne _ (by omega), set_ne _ (by omega)]; exact h.name i hi (by omega)
  · by_cases e : i = k
    · subst e
      exact set_eq _ ((set_ne _ (by omega)).trans ((set_ne _ (by omega)).trans d2))
    · rw [set_ne _ (by omega), set_ne _ (by omega), set_ne _ (by omega)]; exact h.dir i hi (by omega)
  · exact ((h.bel.setCell (p := ⟨w.heap.size, k * 3, none⟩) (Nat.le_refl _) _).setCell (p := ⟨w.heap.size, k * 3 + 1, none⟩) (Nat.le_refl _) _).setCell (p := ⟨w.heap.size, k * 3 + 2, none⟩) (Nat.le_refl _) _

set_option maxHeartbeats 1000000 in
theorem clone_some (x : Addr) (len cap : Nat) (es : List Ent) (b off : Nat) (w : World) (hlen : es.length = len) (hmax : len ≤ 4096) (hE : Ents w (some x) es b off) :
    Calls Tryd.prog 15 #[.slice (some x) len cap] w fun e w' => e = .returned (.slice (some ⟨w.heap.size, 0, none⟩) len len) ∧ Ents w' (some ⟨w.heap.size, 0, none⟩) es w.heap.size 0 ∧ Below w.heap.size w w' := by
  obtain ⟨i0, hi, hz0, hz1, hz2⟩ := info_parts info60
  have hmk : ∀ W : World, (Instr.makeSlice 32 (.int .i64 (len : Int)) (.int .i64 (len : Int))).run Tryd.prog W = .ok (.slice (some ⟨W.heap.size, 0, none⟩) len len) (W.alloc (.cells (madeCells #[.int .i64 0, .string ⟨#[]⟩, .bool false] (len * 3)) 60)) := fun W => by
    have := run_make (P := Tryd.prog) W 32 60 i0 _ Tryd.underlying32 hi hz0 .i64 .i64 (len : Int) (len : Int) (by omega) (by omega) (by rw [hz2]; omega) (by omega)
    rw [hz1] at this
    simp only [Int.toNat_natCast] at this
    exact this
  have hnil : ∀ W : World, (binOp .eql 32 (.slice (some x) len cap) (.slice none 0 0)).run Tryd.prog W = .ok (.bool false) W := fun W => Lib.run_eql_slice_nil W 32 60 (some x) len cap 0 0 Tryd.underlying32
  go_enter Tryd.func15, Tryd.ntmps15
  go_wp2
  go_loopw [4] (fun si wr => ∃ k : Nat, k ≤ len ∧ si = .int .i64 k ∧ CloneAt w wr es k) (fun si _ => len - (intOf si).toNat)
  case atStart =>
    refine ⟨0, Nat.zero_le _, rfl, fun j hj => ?_, fun j => World.frozen?_alloc_new _ _ _ _, fun i _ h => by omega, fun i _ h => by omega, fun i _ h => by omega, (Below.refl _ _).alloc (Nat.le_refl _) _⟩
    rw [World.cell?_alloc_new]
    have : j < (madeCells #[Value.int IntKind.i64 0, Value.string { data := #[] }, Value.bool false] (len * 3)).size := by rw [size_madeCells]; omega
    exact ⟨_, Array.getElem?_eq_getElem this⟩
  case round =>
    obtain ⟨k, hk, rfl, hC⟩ := hrel
    by_cases hlt : k < len
    · have hk' : k < es.length := by omega
      obtain rfl := Option.some.inj (hE.base (by omega))
      have c0 := (hC.bel.cell (p := ⟨b, off + k * 3, none⟩) (lt_of_heap_cell (hE.par k hk'))).trans (hE.par k hk')
      have c1 := (hC.bel.cell (p := ⟨b, off + k * 3 + 1, none⟩) (lt_of_heap_cell (hE.par k hk'))).trans (hE.name k hk')
      have c2 := (hC.bel.cell (p := ⟨b, off + k * 3 + 2, none⟩) (lt_of_heap_cell (hE.par k hk'))).trans (hE.dir k hk')
      obtain ⟨v0, d0⟩ := hC.cell (k * 3) (by omega)
      obtain ⟨v1, d1⟩ := hC.cell (k * 3 + 1) (by omega)
      obtain ⟨v2, d2⟩ := hC.cell (k * 3 + 2) (by omega)
      have f0 := hC.fro (k * 3)
      have f1 := hC.fro (k * 3 + 1)
      have f2 := hC.fro (k * 3 + 2)
      have hN := hideIt (hC.next hk')
      go_wp2
      exact ⟨⟨k + 1, by omega, by go_num, hN.out⟩, by simp [intOf]; omega⟩
    · have hke : k = len := by omega
      subst hke
      go_wp2
      go_ret
      refine ⟨rfl, ⟨fun _ => rfl, fun i h => ?_, fun i h => ?_, fun i h => ?_, hE.wfp, hE.wfn⟩, hC.bel⟩
      · rw [Nat.zero_add]; exact hC.par i h (by omega)
      · rw [Nat.zero_add]; exact hC.name i h (by omega)
      · rw [Nat.zero_add]; exact hC.dir i h (by omega)

theorem clone_nil (w : World) : Calls Tryd.prog 15 #[.slice none 0 0] w fun e w' => e = .returned (.slice none 0 0) ∧ w' = w := by
  have hnil : ∀ W : World, (binOp .eql 32 (.slice none 0 0) (.slice none 0 0)).run Tryd.prog W = .ok (.bool true) W := fun W => Lib.run_eql_slice_nil W 32 60 none 0 0 0 0 Tryd.underlying32
  go_enter Tryd.func15, Tryd.ntmps15
  go_wp2
  go_ret
  exact ⟨rfl, rfl⟩

/-- The copy: nil stays nil. -/
theorem clone_any (a : Option Addr) (len cap : Nat) (es : List Ent) (b off : Nat) (w : World) (hlen : es.length = len) (hmax : len ≤ 4096) (hnil : a = none → len = 0 ∧ cap = 0) (hE : Ents w a es b off) :
    Calls Tryd.prog 15 #[.slice a len cap] w fun e w' => ∃ a' c', e = .returned (.slice a' len c') ∧ Ents w' a' es w.heap.size 0 ∧ Below w.heap.size w w' := by
  cases a with
  | none =>
    obtain ⟨rfl, rfl⟩ := hnil rfl
    refine (clone_nil w).mono fun e w' ⟨he, hw⟩ => ?_
    subst hw
    obtain rfl : es = [] := List.length_eq_zero_iff.1 hlen
    exact ⟨none, 0, he, ⟨fun h => by simp at h, fun i h => by simp at h, fun i h => by simp at h, fun i h => by simp at h, fun i h => by simp at h, fun i h => by simp at h⟩, Below.refl _ _⟩
  | some x =>
    exact (clone_some x len cap es b off w hlen hmax hE).mono fun e w' ⟨he, hE', hb⟩ => ⟨_, _, he, hE', hb⟩
end Go.Proofs.Qxb6605817aDoor
