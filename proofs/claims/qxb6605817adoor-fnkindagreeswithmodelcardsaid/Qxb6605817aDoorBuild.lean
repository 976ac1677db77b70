/-
  THE WALKS of seat b6605817aD: zzBuildRb1: the tree in memory.
-/
import Derived.Test.Qxb6605817aDoorMap
import Derived.Test.Qxb6605817aDoorShape
import Derived.Deep.RegionWith
namespace Go.Proofs.Qxb6605817aDoor
open Go.RowKit

/-- How many nodes below k stand. -/
def cnt (I : Nat → Bool) : Nat → Nat
  | 0 => 0
  | k + 1 => cnt I k + if I k then 1 else 0
theorem cnt_mono (I : Nat → Bool) {a b : Nat} (h : a ≤ b) : cnt I a ≤ cnt I b := by
  induction b with
  | zero => obtain rfl : a = 0 := by omega
            exact Nat.le_refl _
  | succ b ih =>
    by_cases e : a = b + 1
    · subst e; exact Nat.le_refl _
    · have := ih (by omega); rw [cnt]; omega
theorem cnt_lt {I : Nat → Bool} {a b : Nat} (h : a < b) (ha : I a = true) : cnt I a < cnt I b := by
  have h1 : cnt I (a + 1) = cnt I a + 1 := by rw [cnt, ha]; rfl
  have := cnt_mono I (show a + 1 ≤ b from h)
  omega
theorem cnt_inj {I : Nat → Bool} {a b : Nat} (ha : I a = true) (hb : I b = true) (h : cnt I a = cnt I b) : a = b := by
  rcases Nat.lt_trichotomy a b with h' | h' | h'
  · have := cnt_lt h' ha; omega
  · exact h'
  · have := cnt_lt h' hb; omega

/-- Where node k's struct lies; where its map lies. N: the block of the row of nodes. -/
def xOf (N : Nat) (I : Nat → Bool) (k : Nat) : Nat := N + 2 + 2 * cnt I k
def mOf (N : Nat) (I : Nat → Bool) (k : Nat) : Nat := N + 1 + 2 * cnt I k
def ndOf (N : Nat) (I : Nat → Bool) (k : Nat) : Option Nat := if I k then some (xOf N I k) else none
/-- The kids of node k among the first i entries. -/
def kidsTo (N : Nat) (es : List Ent) (I : Nat → Bool) (k : Nat) : Nat → List UInt8 → Option Nat
  | 0, _ => none
  | i + 1, s => if I (i + 1) = true ∧ (ent es i).par = (k : Int) ∧ s = (ent es i).name.data.toList then some (xOf N I (i + 1)) else kidsTo N es I k i s

/-- What the makers of the tree may know of the two rows of bools. -/
structure GoodShape (es : List Ent) (I D : Nat → Bool) : Prop where
  root : I 0 = true
  rootD : D 0 = true
  up : ∀ i, i < es.length → I (i + 1) = true → ∃ q : Nat, (ent es i).par = (q : Int) ∧ q ≤ i ∧ I q = true ∧ D q = true

structure BuildAt (w wr : World) (es : List Ent) (I D : Nat → Bool) (i : Nat) : Prop where
  size : wr.heap.size = w.heap.size + 1 + 2 * cnt I (i + 1)
  row : ∀ k, k < es.length + 1 → wr.cell? ⟨w.heap.size, k, none⟩ = some (optPtr (if k ≤ i then ndOf w.heap.size I k else none))
  fro : ∀ k, wr.frozen? ⟨w.heap.size, k, none⟩ = false
  flag : ∀ k, k ≤ i → I k = true → wr.cell? ⟨xOf w.heap.size I k, 1, none⟩ = some (.bool (D k))
  kids : ∀ k, k ≤ i → I k = true → wr.cell? ⟨xOf w.heap.size I k, 2, none⟩ = some (.map (if D k then some (mOf w.heap.size I k) else none))
  maps : ∀ k, k ≤ i → I k = true → D k = true → MapIs wr (mOf w.heap.size I k) i (kidsTo w.heap.size es I k i)
  bel : Below w.heap.size w wr

theorem kidsTo_no {N : Nat} {es : List Ent} {I : Nat → Bool} {k i : Nat} (h : I (i + 1) = false) : kidsTo N es I k (i + 1) = kidsTo N es I k i := by
  funext s
  rw [kidsTo, if_neg (by rw [h]; simp)]
theorem kidsTo_other {N : Nat} {es : List Ent} {I : Nat → Bool} {k i : Nat} (h : (ent es i).par ≠ (k : Int)) : kidsTo N es I k (i + 1) = kidsTo N es I k i := by
  funext s
  rw [kidsTo, if_neg (fun e => h e.2.1)]
theorem kidsTo_here {N : Nat} {es : List Ent} {I : Nat → Bool} {k i : Nat} (h : I (i + 1) = true) (hp : (ent es i).par = (k : Int)) :
    kidsTo N es I k (i + 1) = fun t => if t = (ent es i).name.data.toList then some (xOf N I (i + 1)) else kidsTo N es I k i t := by
  funext s
  rw [kidsTo]
  by_cases e : s = (ent es i).name.data.toList
  · rw [if_pos ⟨h, hp, e⟩, if_pos e]
  · rw [if_neg (fun e' => e e'.2.2), if_neg e]
theorem kidsTo_fresh {N : Nat} {es : List Ent} {I : Nat → Bool} {k : Nat} (hs : ∀ j, j < k → I (j + 1) = true → (ent es j).par ≠ (k : Int)) : kidsTo N es I k k = fun _ => none := by
  have : ∀ i, i ≤ k → kidsTo N es I k i = fun _ => none := by
    intro i hi
    induction i with
    | zero => funext s; rfl
    | succ i ih =>
      funext s
      rw [kidsTo, if_neg (fun e => hs i (by omega) e.1 e.2.1), ih (by omega)]
  exact this k (Nat.le_refl _)

theorem BuildAt.skip {w wr : World} {es : List Ent} {I D : Nat → Bool} {i : Nat} (h : BuildAt w wr es I D i) (hn : I (i + 1) = false) : BuildAt w wr es I D (i + 1) := by
  have hle : ∀ k, k ≤ i + 1 → I k = true → k ≤ i := fun k hk hI => by
    by_cases e : k = i + 1
    · subst e; rw [hn] at hI; cases hI
    · omega
  refine ⟨?_, fun k hk => ?_, h.fro, fun k hk hI => h.flag k (hle k hk hI) hI, fun k hk hI => h.kids k (hle k hk hI) hI, fun k hk hI hD => ?_, h.bel⟩
  · have := h.size
    rw [show cnt I (i + 1 + 1) = cnt I (i + 1) + 0 by rw [cnt, hn]; rfl]
    exact this
  · have := h.row k hk
    rw [this]
    by_cases e : k ≤ i
    · rw [if_pos e, if_pos (by omega)]
    · by_cases e2 : k = i + 1
      · subst e2; rw [if_neg e, if_pos (Nat.le_refl _)]; simp [ndOf, hn]
      · rw [if_neg e, if_neg (by omega)]
  · rw [kidsTo_no hn]
    exact (h.maps k (hle k hk hI) hI hD).mono (Nat.le_succ _)

/-- A struct was laid (its map, if any, right below it), the parent's map was turned, the row was set. -/
theorem BuildAt.next {w wr w2 : World} {es : List Ent} {I D : Nat → Bool} {i q : Nat} (hG : GoodShape es I D) (h : BuildAt w wr es I D i) (hi : i < es.length) (hI : I (i + 1) = true) (hq : (ent es i).par = (q : Int)) (hqi : q ≤ i) (hqI : I q = true) (hqD : D q = true)
    (hsz : w2.heap.size = wr.heap.size + 2)
    (hold : ∀ b, b < wr.heap.size → b ≠ mOf w.heap.size I q → w2.heap[b]? = wr.heap[b]?)
    (hflag : w2.cell? ⟨wr.heap.size + 1, 1, none⟩ = some (.bool (D (i + 1))))
    (hkids : w2.cell? ⟨wr.heap.size + 1, 2, none⟩ = some (.map (if D (i + 1) then some wr.heap.size else none)))
    (hnew : D (i + 1) = true → MapIs w2 wr.heap.size 0 (fun _ => none))
    (hmap : MapIs w2 (mOf w.heap.size I q) (i + 1) (fun t => if t = (ent es i).name.data.toList then some (wr.heap.size + 1) else kidsTo w.heap.size es I q i t))
    (hbel : Below w.heap.size w w2) :
    BuildAt w (w2.setCell ⟨w.heap.size, i + 1, none⟩ (ptr (wr.heap.size + 1))) es I D (i + 1) := by
  have hx : wr.heap.size + 1 = xOf w.heap.size I (i + 1) := by rw [h.size]; unfold xOf; omega
  have hm : wr.heap.size = mOf w.heap.size I (i + 1) := by rw [h.size]; unfold mOf; omega
  have hset : ∀ b, b ≠ w.heap.size → (w2.setCell ⟨w.heap.size, i + 1, none⟩ (ptr (wr.heap.size + 1))).heap[b]? = w2.heap[b]? := fun b hb => Below.heap_setCell _ _ _ _ (by simpa using hb)
  have hNm : ∀ k, mOf w.heap.size I k ≠ w.heap.size := fun k => by unfold mOf; omega
  have hNx : ∀ k, xOf w.heap.size I k ≠ w.heap.size := fun k => by unfold xOf; omega
  have hxm : ∀ j k, xOf w.heap.size I j ≠ mOf w.heap.size I k := fun j k => by unfold xOf mOf; omega
  have hxlt : ∀ k, k ≤ i → I k = true → xOf w.heap.size I k < wr.heap.size := fun k hk hIk => by
    have := cnt_lt (show k < i + 1 by omega) hIk
    rw [h.size]; unfold xOf; omega
  have hmlt : ∀ k, k ≤ i → I k = true → mOf w.heap.size I k < wr.heap.size := fun k hk hIk => by
    have := cnt_lt (show k < i + 1 by omega) hIk
    rw [h.size]; unfold mOf; omega
  have hrowk : w2.heap[w.heap.size]? = wr.heap[w.heap.size]? := hold _ (lt_of_heap_cell (h.row 0 (by omega))) (fun e => hNm q e.symm)
  have hnode : ∀ k, k ≤ i → I k = true → (w2.setCell ⟨w.heap.size, i + 1, none⟩ (ptr (wr.heap.size + 1))).heap[xOf w.heap.size I k]? = wr.heap[xOf w.heap.size I k]? := fun k hk hIk =>
    (hset _ (hNx k)).trans (hold _ (hxlt k hk hIk) (hxm k q))
  have hcr : ∀ k, k < es.length + 1 → w2.cell? ⟨w.heap.size, k, none⟩ = some (optPtr (if k ≤ i then ndOf w.heap.size I k else none)) := fun k hk => (keep_cell hrowk).trans (h.row k hk)
  refine ⟨?_, fun k hk => ?_, fun k => ?_, fun k hk hIk => ?_, fun k hk hIk => ?_, fun k hk hIk hDk => ?_, hbel.setCell (p := ⟨w.heap.size, i + 1, none⟩) (Nat.le_refl _) _⟩
  · rw [World.size_setCell, hsz, h.size, show cnt I (i + 1 + 1) = cnt I (i + 1) + 1 by rw [cnt, hI]; rfl]; omega
  · by_cases e : k = i + 1
    · subst e
      rw [if_pos (Nat.le_refl _), set_eq _ (hcr _ hk)]
      simp [ndOf, hI, optPtr, hx]
    · rw [set_ne _ e, hcr k hk]
      by_cases e2 : k ≤ i
      · rw [if_pos e2, if_pos (by omega)]
      · rw [if_neg e2, if_neg (by omega)]
  · rw [World.frozen?_setCell, keep_frozen hrowk]; exact h.fro k
  · by_cases e : k = i + 1
    · subst e
      rw [← hx]
      exact (keep_cell (hset _ (by rw [hx]; exact hNx _))).trans hflag
    · exact (keep_cell (hnode k (by omega) hIk)).trans (h.flag k (by omega) hIk)
  · by_cases e : k = i + 1
    · subst e
      rw [← hx, ← hm]
      exact (keep_cell (hset _ (by rw [hx]; exact hNx _))).trans hkids
    · exact (keep_cell (hnode k (by omega) hIk)).trans (h.kids k (by omega) hIk)
  · by_cases e : k = i + 1
    · subst e
      rw [kidsTo_fresh (fun j hj hIj hp => by
        obtain ⟨q', hq', hle, _⟩ := hG.up j (by omega) hIj
        rw [hq'] at hp
        have := Int.ofNat.inj hp
        omega), ← hm]
      exact ((hnew hDk).keep (hset _ (by rw [hm]; exact hNm _))).mono (Nat.zero_le _)
    · by_cases e2 : k = q
      · subst e2
        rw [kidsTo_here hI hq, ← hx]
        exact hmap.keep (hset _ (hNm _))
      · rw [kidsTo_other (fun hp => e2 (by rw [hq] at hp; exact (Int.ofNat.inj hp).symm))]
        refine ((h.maps k (by omega) hIk hDk).mono (Nat.le_succ i)).keep ((hset _ (hNm _)).trans (hold _ (hmlt k (by omega) hIk) (fun he => e2 ?_)))
        exact cnt_inj hIk hqI (by unfold mOf at he; omega)

theorem info24' : (Tryd.prog.info? 24).map (fun i => (i.zero, i.size, i.bytes)) = some (some (.pointer none), 1, 8) := by kernel_rfl
theorem made_nil (n k : Nat) (h : k < n) : (madeCells #[Value.pointer none] n)[k]? = some (.pointer none) := by
  rw [Array.getElem?_eq_getElem (by rw [size_madeCells]; exact h)]
  simp [madeCells, Nat.mod_one]

theorem build_start (w w1 : World) (es : List Ent) (I D : Nat → Bool) (rev : Int) (hG : GoodShape es I D)
    (hw1 : w1 = ((w.alloc (.cells (madeCells #[Value.pointer none] (es.length + 1)) 24)).alloc (.map #[] 0)).alloc (.cells (dirCells rev (w.heap.size + 1)) 54)) :
    BuildAt w (w1.setCell ⟨w.heap.size, 0, none⟩ (ptr (w.heap.size + 2))) es I D 0 := by
  have hx : w.heap.size + 2 = xOf w.heap.size I 0 := rfl
  have hm : w.heap.size + 1 = mOf w.heap.size I 0 := rfl
  have hsz : w1.heap.size = w.heap.size + 3 := by rw [hw1]; simp
  have hset : ∀ b, b ≠ w.heap.size → (w1.setCell ⟨w.heap.size, 0, none⟩ (ptr (w.heap.size + 2))).heap[b]? = w1.heap[b]? := fun b hb => Below.heap_setCell _ _ _ _ (by simpa using hb)
  have h0 : w1.heap[w.heap.size]? = some (.cells (madeCells #[Value.pointer none] (es.length + 1)) 24) := by
    rw [hw1, Below.heap_alloc _ _ _ (by simp; omega), Below.heap_alloc _ _ _ (by simp), heap_new]
  have h2 : w1.heap[w.heap.size + 2]? = some (.cells (dirCells rev (w.heap.size + 1)) 54) := by
    rw [hw1]
    have := heap_new ((w.alloc (.cells (madeCells #[Value.pointer none] (es.length + 1)) 24)).alloc (.map #[] 0)) (.cells (dirCells rev (w.heap.size + 1)) 54)
    rwa [World.size_alloc, World.size_alloc] at this
  have hc : ∀ k, k < es.length + 1 → w1.cell? ⟨w.heap.size, k, none⟩ = some (.pointer none) := fun k hk => by
    simp [World.cell?, h0, made_nil _ k hk]
  have hz : ∀ k, k ≤ 0 → k = 0 := fun k hk => by omega
  refine ⟨?_, fun k hk => ?_, fun k => ?_, fun k hk hIk => ?_, fun k hk hIk => ?_, fun k hk hIk hDk => ?_, ?_⟩
  · rw [World.size_setCell, hsz]; simp [cnt, hG.root]
  · by_cases e : k = 0
    · subst e
      rw [if_pos (Nat.le_refl _), set_eq _ (hc 0 hk)]
      simp [ndOf, hG.root, optPtr, hx]
    · rw [set_ne _ e, if_neg (by omega)]; exact hc k hk
  · rw [World.frozen?_setCell]; simp [World.frozen?, h0]
  · obtain rfl := hz k hk
    rw [← hx, keep_cell (hset _ (by omega)), hG.rootD]
    simp [World.cell?, h2, dirCells]
  · obtain rfl := hz k hk
    rw [← hx, ← hm, keep_cell (hset _ (by omega)), hG.rootD]
    simp [World.cell?, h2, dirCells]
  · obtain rfl := hz k hk
    have hmade := MapIs.made (w.alloc (.cells (madeCells #[Value.pointer none] (es.length + 1)) 24))
    rw [World.size_alloc] at hmade
    refine MapIs.keep (w := ((w.alloc (.cells (madeCells #[Value.pointer none] (es.length + 1)) 24)).alloc (.map #[] 0))) hmade ?_
    rw [hset _ (by unfold mOf; omega), hw1, Below.heap_alloc _ _ _ (by rw [← hm]; simp)]
  · refine Below.setCell ?_ (p := ⟨w.heap.size, 0, none⟩) (Nat.le_refl _) _
    rw [hw1]
    exact (((Below.refl _ _).alloc (Nat.le_refl _) _).alloc (by simp) _).alloc (by simp; omega) _

/-- Behind the store into the parent's map. -/
theorem build_after {w wr w2 w3 : World} {es : List Ent} {I D : Nat → Bool} {i q : Nat} (hG : GoodShape es I D) (h : BuildAt w wr es I D i) (hi : i < es.length) (hI : I (i + 1) = true) (hq : (ent es i).par = (q : Int)) (hqi : q ≤ i) (hqI : I q = true) (hqD : D q = true)
    (hs2 : w2.heap.size = wr.heap.size + 2) (hk2 : ∀ b, b < wr.heap.size → w2.heap[b]? = wr.heap[b]?) (hbel2 : Below w.heap.size w w2)
    (hflag : w2.cell? ⟨wr.heap.size + 1, 1, none⟩ = some (.bool (D (i + 1))))
    (hkids : w2.cell? ⟨wr.heap.size + 1, 2, none⟩ = some (.map (if D (i + 1) then some wr.heap.size else none)))
    (hnew : D (i + 1) = true → MapIs w2 wr.heap.size 0 (fun _ => none))
    (hT : TurnedAt w2.drew w3 (mOf w.heap.size I q))
    (hmap : MapIs w3 (mOf w.heap.size I q) (i + 1) (fun t => if t = (ent es i).name.data.toList then some (wr.heap.size + 1) else kidsTo w.heap.size es I q i t)) :
    w3.cell? ⟨w.heap.size, i + 1, none⟩ = some (.pointer none) ∧ w3.frozen? ⟨w.heap.size, i + 1, none⟩ = false ∧ BuildAt w (w3.setCell ⟨w.heap.size, i + 1, none⟩ (.pointer (some ⟨wr.heap.size + 1, 0, none⟩))) es I D (i + 1) := by
  have hmlt : mOf w.heap.size I q < wr.heap.size := (h.maps q hqi hqI hqD).lt
  have hrlt := lt_of_heap_cell (h.row 0 (by omega))
  have hN : w.heap.size ≠ mOf w.heap.size I q := by unfold mOf; omega
  have hrow : w3.heap[w.heap.size]? = wr.heap[w.heap.size]? := (hT.block _ hN).trans (hk2 _ hrlt)
  have hnx : w3.heap[wr.heap.size + 1]? = w2.heap[wr.heap.size + 1]? := hT.block _ (by omega)
  refine ⟨?_, (keep_frozen hrow).trans (h.fro _), ?_⟩
  · rw [keep_cell hrow, h.row (i + 1) (by omega), if_neg (by omega)]; rfl
  · exact BuildAt.next hG h hi hI hq hqi hqI hqD (hT.size.trans hs2) (fun b hb hne => (hT.block b hne).trans (hk2 b hb)) ((keep_cell hnx).trans hflag) ((keep_cell hnx).trans hkids)
      (fun hD => (hnew hD).keep (hT.block _ (by omega))) hmap (hT.below hbel2.drew (by unfold mOf; omega))

set_option maxRecDepth 100000 in
set_option maxHeartbeats 4000000 in
theorem build_any (a : Option Addr) (len cap ib db : Nat) (rev : Int) (es : List Ent) (I D : Nat → Bool) (b off : Nat) (w : World) (hlen : es.length = len) (hmax : len ≤ 4096) (hE : Ents w a es b off)
    (hI : BoolRow w ib (len + 1) I) (hD : BoolRow w db (len + 1) D) (hG : GoodShape es I D) :
    Calls Tryd.prog 17 #[.slice a len cap, .slice (some ⟨ib, 0, none⟩) (len + 1) (len + 1), .slice (some ⟨db, 0, none⟩) (len + 1) (len + 1), .int .i64 rev] w fun e w' =>
      e = .returned (.slice (some ⟨w.heap.size, 0, none⟩) (len + 1) (len + 1)) ∧ BuildAt w w' es I D len := by
  have hmk : ∀ W : World, (Instr.makeSlice 26 (.int .i64 ((len : Int) + 1)) (.int .i64 ((len : Int) + 1))).run Tryd.prog W = .ok (.slice (some ⟨W.heap.size, 0, none⟩) (len + 1) (len + 1)) (W.alloc (.cells (madeCells #[.pointer none] (len + 1)) 24)) := fun W => by
    have := run_make_row' (P := Tryd.prog) 26 24 (.pointer none) 8 Tryd.underlying26 info24' rfl .i64 .i64 (len + 1) (by omega) (by omega) W
    rw [show ((len + 1 : Nat) : Int) = (len : Int) + 1 from by omega] at this
    exact this
  go_enter Tryd.func17, Tryd.ntmps17
  go_wp2_with fail
  refine (newDir_any _ _).mono ?_
  rintro e w1 ⟨rfl, hw1⟩
  have hw1' := hideIt hw1
  have hcell : w1.cell? ⟨w.heap.size, 0, none⟩ = some (.pointer none) := by
    rw [hw1, World.cell?_alloc_past _ _ _ (by simp; omega), World.cell?_alloc_past _ _ _ (by simp), World.cell?_alloc_new]
    exact made_nil _ 0 (by omega)
  have hfro : w1.frozen? ⟨w.heap.size, 0, none⟩ = false := by
    rw [hw1, World.frozen?_alloc_past _ _ _ (by simp; omega), World.frozen?_alloc_past _ _ _ (by simp)]
    exact World.frozen?_alloc_new _ _ _ _
  clear hw1
  go_wp2
  have hB0 : Hid (BuildAt w (w1.setCell ⟨w.heap.size, 0, none⟩ (.pointer (some ⟨w.heap.size + 1 + 1, 0, none⟩))) es I D 0) :=
    build_start w w1 es I D rev hG (by rw [hw1'.out, hlen]; simp)
  clear hcell hfro hw1' hmk
  go_loopw [10] (fun si wr => ∃ i : Nat, i ≤ len ∧ si = .int .i64 i ∧ BuildAt w wr es I D i) (fun si _ => len - (intOf si).toNat)
  case atStart => exact ⟨0, Nat.zero_le _, rfl, hB0.out⟩
  case round =>
    clear hB0
    obtain ⟨i, hi, rfl, hB⟩ := hrel
    by_cases hlt : i < len
    · have hi' : i < es.length := by omega
      have hEr := hE.later hB.bel
      obtain rfl := hE.base (by omega)
      have c0 := hEr.par i hi'
      have c1 := hEr.name i hi'
      rw [← ent_eq es i hi'] at c0 c1
      have hz : (ent es i).name.size ≤ maxLen := by rw [ent_eq es i hi']; exact hE.wfn i hi'
      have r1 := (hI.keep (hB.bel.block ib (lt_of_heap_cell (hI.cell 0 (by omega))))).cell (i + 1) (by omega)
      have r2 := (hD.keep (hB.bel.block db (lt_of_heap_cell (hD.cell 0 (by omega))))).cell (i + 1) (by omega)
      cases hIi : I (i + 1) with
      | false =>
        rw [hIi] at r1
        have hN := hideIt (hB.skip hIi)
        clear hIi
        go_wp2
        go_roundw
        case rel => exact ⟨i + 1, by omega, by go_num, hN.out⟩
        case measure => simp [intOf]; omega
      | true =>
      rw [hIi] at r1
      obtain ⟨q, hq, hqi, hqI, hqD⟩ := hG.up i hi' hIi
      cases hDi : D (i + 1) with
      | true =>
        rw [hDi] at r2
        clear hI hD
        go_wp2_with fail
        refine (newDir_any _ _).mono ?_
        rintro e w2 ⟨rfl, hw2⟩
        have hs2 : Hid (w2.heap.size = wr.heap.size + 2) := by rw [hw2]; simp [Hid]
        have hk2 : Hid (∀ b, b < wr.heap.size → w2.heap[b]? = wr.heap[b]?) := fun b hb => by rw [hw2, Below.heap_alloc _ _ _ (by simp; omega), Below.heap_alloc _ _ _ hb]
        have hbel2 : Hid (Below w.heap.size w w2) := by rw [hw2]; exact (hB.bel.alloc hB.bel.size _).alloc (by have := hB.bel.size; simp; omega) _
        have hfl : Hid (w2.cell? ⟨wr.heap.size + 1, 1, none⟩ = some (.bool (D (i + 1)))) := by rw [hw2, hDi]; exact (World.cell?_alloc_at _ _ _ _ (by simp)).trans rfl
        have hki : Hid (w2.cell? ⟨wr.heap.size + 1, 2, none⟩ = some (.map (if D (i + 1) then some wr.heap.size else none))) := by rw [hw2, hDi]; exact (World.cell?_alloc_at _ _ _ _ (by simp)).trans rfl
        have hnm : Hid (D (i + 1) = true → MapIs w2 wr.heap.size 0 (fun _ => none)) := fun _ => by rw [hw2]; exact (MapIs.made wr).keep (Below.heap_alloc _ _ _ (by simp))
        have e0 : w2.cell? ⟨b, off + i * 3, none⟩ = some (.int .i64 (q : Int)) := by rw [keep_cell (hk2.out b (lt_of_heap_cell c0)), c0, hq]
        have e1 : w2.cell? ⟨b, off + i * 3 + 1, none⟩ = some (.string (ent es i).name) := (keep_cell (hk2.out b (lt_of_heap_cell c0))).trans c1
        have hrow := hk2.out _ (lt_of_heap_cell (hB.row 0 (by omega)))
        have e2 : w2.cell? ⟨w.heap.size, q, none⟩ = some (.pointer (some ⟨xOf w.heap.size I q, 0, none⟩)) := by
          rw [keep_cell hrow, hB.row q (by omega), if_pos hqi]; simp [ndOf, hqI, optPtr, ptr]
        have hkq := hB.kids q hqi hqI
        rw [hqD, if_pos rfl] at hkq
        have e5 : w2.cell? ⟨xOf w.heap.size I q, 2, none⟩ = some (.map (some (mOf w.heap.size I q))) := (keep_cell (hk2.out _ (lt_of_heap_cell hkq))).trans hkq
        have hmq := hB.maps q hqi hqI hqD
        have hM2 := hmq.keep (hk2.out _ hmq.lt)
        have HN := hideIt (fun (w3 : World) hT hmap => build_after (w3 := w3) hG hB hi' hIi hq hqi hqI hqD hs2.out hk2.out hbel2.out hfl.out hki.out hnm.out hT hmap)
        clear hw2 hkq hmq c0 c1 r1 r2 hrow hEr hs2 hk2 hbel2 hfl hki hnm
        have hqlt : (q : Int) < (len : Int) + 1 := by omega
        have HA := hideIt (addKid_any (xOf w.heap.size I q) (mOf w.heap.size I q) i (wr.heap.size + 1) (kidsTo w.heap.size es I q i) (ent es i).name w2.drew e5 (hM2.keep rfl) hz (by unfold maxLen; omega))
        unfold ptr at HA
        go_wp2_with fail
        go_region_with (go_at_call 31; refine HA.out.mono ?_; rintro e w3 ⟨rfl, hM3, hT3⟩)
        all_goals
          obtain ⟨f3, f4, hN⟩ := HN.out w3 hT3 hM3
          have HB := hideIt hN
          clear hN hM3 hT3 HA e0 e1 e2 e5 hM2 HN
          go_wp2
          go_roundw
          case rel => exact ⟨i + 1, by omega, by go_num, HB.out⟩
          case measure => simp [intOf]; omega
      | false =>
        rw [hDi] at r2
        clear hI hD
        go_wp2_with fail
        refine (newFile_any _ _).mono ?_
        rintro e w2 ⟨rfl, o2, hw2⟩
        have hs2 : Hid (w2.heap.size = wr.heap.size + 2) := by rw [hw2]; simp [Hid]
        have hk2 : Hid (∀ b, b < wr.heap.size → w2.heap[b]? = wr.heap[b]?) := fun b hb => by rw [hw2, Below.heap_alloc _ _ _ (by simp; omega), Below.heap_alloc _ _ _ hb]
        have hbel2 : Hid (Below w.heap.size w w2) := by rw [hw2]; exact (hB.bel.alloc hB.bel.size _).alloc (by have := hB.bel.size; simp; omega) _
        have hfl : Hid (w2.cell? ⟨wr.heap.size + 1, 1, none⟩ = some (.bool (D (i + 1)))) := by rw [hw2, hDi]; exact (World.cell?_alloc_at _ _ _ _ (by simp)).trans rfl
        have hki : Hid (w2.cell? ⟨wr.heap.size + 1, 2, none⟩ = some (.map (if D (i + 1) then some wr.heap.size else none))) := by rw [hw2, hDi]; exact (World.cell?_alloc_at _ _ _ _ (by simp)).trans rfl
        have hnm : Hid (D (i + 1) = true → MapIs w2 wr.heap.size 0 (fun _ => none)) := fun h => by rw [hDi] at h; cases h
        have e0 : w2.cell? ⟨b, off + i * 3, none⟩ = some (.int .i64 (q : Int)) := by rw [keep_cell (hk2.out b (lt_of_heap_cell c0)), c0, hq]
        have e1 : w2.cell? ⟨b, off + i * 3 + 1, none⟩ = some (.string (ent es i).name) := (keep_cell (hk2.out b (lt_of_heap_cell c0))).trans c1
        have hrow := hk2.out _ (lt_of_heap_cell (hB.row 0 (by omega)))
        have e2 : w2.cell? ⟨w.heap.size, q, none⟩ = some (.pointer (some ⟨xOf w.heap.size I q, 0, none⟩)) := by
          rw [keep_cell hrow, hB.row q (by omega), if_pos hqi]; simp [ndOf, hqI, optPtr, ptr]
        have hkq := hB.kids q hqi hqI
        rw [hqD, if_pos rfl] at hkq
        have e5 : w2.cell? ⟨xOf w.heap.size I q, 2, none⟩ = some (.map (some (mOf w.heap.size I q))) := (keep_cell (hk2.out _ (lt_of_heap_cell hkq))).trans hkq
        have hmq := hB.maps q hqi hqI hqD
        have hM2 := hmq.keep (hk2.out _ hmq.lt)
        have HN := hideIt (fun (w3 : World) hT hmap => build_after (w3 := w3) hG hB hi' hIi hq hqi hqI hqD hs2.out hk2.out hbel2.out hfl.out hki.out hnm.out hT hmap)
        clear hw2 hkq hmq c0 c1 r1 r2 hrow hEr hs2 hk2 hbel2 hfl hki hnm
        have hqlt : (q : Int) < (len : Int) + 1 := by omega
        have HA := hideIt (addKid_any (xOf w.heap.size I q) (mOf w.heap.size I q) i (wr.heap.size + 1) (kidsTo w.heap.size es I q i) (ent es i).name w2.drew e5 (hM2.keep rfl) hz (by unfold maxLen; omega))
        unfold ptr at HA
        go_wp2_with fail
        go_region_with (go_at_call 31; refine HA.out.mono ?_; rintro e w3 ⟨rfl, hM3, hT3⟩)
        all_goals
          obtain ⟨f3, f4, hN⟩ := HN.out w3 hT3 hM3
          have HB := hideIt hN
          clear hN hM3 hT3 HA e0 e1 e2 e5 hM2 HN
          go_wp2
          go_roundw
          case rel => exact ⟨i + 1, by omega, by go_num, HB.out⟩
          case measure => simp [intOf]; omega
    · have hie : i = len := by omega
      subst hie
      go_wp2
      go_ret
      exact ⟨rfl, hB⟩
end Go.Proofs.Qxb6605817aDoor
