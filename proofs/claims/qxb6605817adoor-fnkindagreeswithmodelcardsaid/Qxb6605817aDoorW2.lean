/-
  THE WALKS of seat b6605817aD, second part: zzRepoRb1.
-/
import Derived.Test.Qxb6605817aDoorW1
namespace Go.Proofs.Qxb6605817aDoor
open Go.RowKit

/-- Block rb holds a repository of n revisions: the last one's root (from two revisions on) is 'root', every other an empty directory. -/
def IsRepo (B : Nat) (w : World) (rb n root : Nat) : Prop :=
  ∃ (g c : Nat) (ps : List Nat), ps.length = n ∧ w.cell? ⟨rb, 0, none⟩ = some (.slice (some ⟨g, 0, none⟩) n c) ∧ (∀ i (h : i < ps.length), w.cell? ⟨g, i, none⟩ = some (ptr ps[i])) ∧
    ∀ i (h : i < ps.length), if i + 1 = n ∧ 2 ≤ n then ps[i] = root else EmptyDir B w ps[i]

theorem info24 : (Tryd.prog.info? 24).map (fun i => (i.zero, i.size, i.bytes)) = some (some (.pointer none), 1, 8) := by kernel_rfl

/-- The roots so far: k of them, their row in block B of room n, each an empty directory. -/
structure RootsAt (w wr : World) (n k : Nat) (ps : List Nat) : Prop where
  len : ps.length = k
  own : wr.ownsRow w.heap.size 24 1 (.slice (some ⟨w.heap.size, 0, none⟩) k n) k (ps.map ptr)
  dirs : ∀ x ∈ ps, EmptyDir w.heap.size wr x
  bel : Below w.heap.size w wr
  lt : w.heap.size < wr.heap.size

theorem RootsAt.next {w wr w1 w2 : World} {n k : Nat} {ps : List Nat} {r : Int} {o : Obj} (h : RootsAt w wr n k ps) (hw1 : w1 = (wr.alloc (.map #[] 0)).alloc (.cells (dirCells r wr.heap.size) 54))
    (hown : w2.ownsRow w.heap.size 24 1 (.slice (some ⟨w.heap.size, 0, none⟩) (k + 1) n) (k + 1) (ps.map ptr ++ [ptr (wr.heap.size + 1)])) (hg : (w1.alloc o).grownBy w2 (some w.heap.size)) : RootsAt w w2 n (k + 1) (ps ++ [wr.heap.size + 1]) := by
  have hs1 : w1.heap.size = wr.heap.size + 2 := by rw [hw1]; simp
  have hk : ∀ b, b < wr.heap.size → b ≠ w.heap.size → w2.heap[b]? = wr.heap[b]? := fun b hb hne => by
    rw [hg.block b (by simp; omega) (fun e => hne (Option.some.inj e)), Below.heap_alloc _ _ _ (by omega), hw1, Below.heap_alloc _ _ _ (by simp; omega), Below.heap_alloc _ _ _ hb]
  have hlt := h.lt
  refine ⟨by simp [h.len], by simpa using hown, fun x hx => ?_, ?_, ?_⟩
  · rcases List.mem_append.1 hx with hx | hx
    · exact (h.dirs x hx).kept hk
    · rw [List.mem_singleton.1 hx]
      refine (EmptyDir.made wr w.heap.size r h.lt).kept (fun b hb hne => ?_)
      rw [← hw1] at hb ⊢
      rw [hg.block b (by simp; omega) (fun e => hne (Option.some.inj e)), Below.heap_alloc _ _ _ hb]
  · have hb1 : Below w.heap.size w w1 := by rw [hw1]; exact (h.bel.alloc h.bel.size _).alloc (by have := h.bel.size; simp; omega) _
    exact (hb1.alloc hb1.size _).grown hg (by have := hb1.size; simp; omega) (fun j hj => by cases hj; exact Nat.le_refl _)
  · have := hg.size
    simp at this; omega

theorem roots_own1 {w wr w1 : World} {n k : Nat} {ps : List Nat} {r : Int} (h : RootsAt w wr n k ps) (hw1 : w1 = (wr.alloc (.map #[] 0)).alloc (.cells (dirCells r wr.heap.size) 54)) :
    w1.ownsRow w.heap.size 24 1 (.slice (some ⟨w.heap.size, 0, none⟩) k n) k (ps.map ptr) := by rw [hw1]; exact (h.own.alloc _).alloc _

theorem repo_fin {w w4 w5 : World} {n c root : Nat} {b : Bool} {qs : List Nat} (hown : w4.ownsRow w.heap.size 24 1 (.slice (some ⟨w.heap.size, 0, none⟩) n c) n (qs.map ptr))
    (hd : ∀ i (h : i < qs.length), if i + 1 = n ∧ 2 ≤ n then qs[i] = root else EmptyDir w.heap.size w4 qs[i]) (hb : Below w.heap.size w w4)
    (hw5 : w5 = (w4.alloc (.map #[] 0)).alloc (.cells #[.slice (some ⟨w.heap.size, 0, none⟩) n c, .bool b, .map (some w4.heap.size)] 57)) :
    IsRepo w.heap.size w5 (w4.heap.size + 1) n root ∧ Below w.heap.size w w5 := by
  have hlt := (hown.lt _ rfl).2
  have hq : qs.length = n := by have := hown.1; simpa using this
  have hk : ∀ b, b < w4.heap.size → w5.heap[b]? = w4.heap[b]? := fun b hb => by
    rw [hw5, Below.heap_alloc _ _ _ (by simp; omega), Below.heap_alloc _ _ _ hb]
  refine ⟨⟨w.heap.size, c, qs, hq, ?_, fun i h => ?_, fun i h => ?_⟩, ?_⟩
  · rw [hw5]
    exact (World.cell?_alloc_at _ _ _ _ (by simp)).trans rfl
  · have h1 := hown.cellAt i (by omega)
    have h2 : w5.cell? ⟨w.heap.size, i, none⟩ = w4.cell? ⟨w.heap.size, i, none⟩ := World.cell?_of_block (hk _ hlt)
    rw [h2, h1, List.getElem?_map, List.getElem?_eq_getElem h]; rfl
  · have := hd i h
    split
    · rename_i hc; rw [if_pos hc] at this; exact this
    · rename_i hc; rw [if_neg hc] at this; exact this.kept (fun b hb _ => hk b hb)
  · rw [hw5]
    exact (hb.alloc hb.size _).alloc (by have := hb.size; simp; omega) _

theorem RootsAt.last {w wr w4 : World} {n k root : Nat} {ps : List Nat} {o : Obj} (h : RootsAt w wr n k ps) (hkn : k + 1 = n) (h2 : 2 ≤ n) (hg : (wr.alloc o).grownBy w4 (some w.heap.size)) :
    (∀ i (hi : i < (ps ++ [root]).length), if i + 1 = n ∧ 2 ≤ n then (ps ++ [root])[i] = root else EmptyDir w.heap.size w4 (ps ++ [root])[i]) ∧ Below w.heap.size w w4 := by
  have hk : ∀ b, b < wr.heap.size → b ≠ w.heap.size → w4.heap[b]? = wr.heap[b]? := fun b hb hne => by
    rw [hg.block b (by simp; omega) (fun e => hne (Option.some.inj e)), Below.heap_alloc _ _ _ (by omega)]
  have hl := h.len
  refine ⟨fun i hi => ?_, (h.bel.alloc h.bel.size _).grown hg (by have := h.bel.size; simp; omega) (fun j hj => by cases hj; exact Nat.le_refl _)⟩
  split
  · rename_i hc
    have : i = ps.length := by omega
    subst this
    simp
  · rename_i hc
    have hi' : i < ps.length := by simp at hi; omega
    rw [List.getElem_append_left hi']
    exact (h.dirs _ (List.getElem_mem hi')).kept hk

theorem RootsAt.alone {w wr : World} {root : Nat} {ps : List Nat} (h : RootsAt w wr 1 1 ps) :
    ∀ i (hi : i < ps.length), if i + 1 = 1 ∧ 2 ≤ 1 then ps[i] = root else EmptyDir w.heap.size wr ps[i] := fun i hi => by
  rw [if_neg (by omega)]
  exact h.dirs _ (List.getElem_mem hi)

set_option maxHeartbeats 1000000 in
theorem repo_any (n nb l c root : Nat) (w : World) (hn1 : 1 ≤ n) (hn2 : n ≤ 65536) (hl : 1 ≤ l) (hnb : nb < w.heap.size) (h0 : w.cell? ⟨nb, 0, none⟩ = some (.pointer (some ⟨root, 0, none⟩))) :
    Calls Tryd.prog 8 #[.int .i64 n, .slice (some ⟨nb, 0, none⟩) l c] w fun e w' => ∃ rb, e = .returned (ptr rb) ∧ IsRepo w.heap.size w' rb n root ∧ Below w.heap.size w w' := by
  obtain ⟨i0, hi, hz0, hz1, hz2⟩ := info_parts info24
  have hll : (0 : Int) < (l : Int) := by omega
  go_enter Tryd.func8, Tryd.ntmps8
  go_wp2_with (at_make; refine wpList_make_own _ rfl _ _ 26 rfl w.heap.size 24 i0 (.pointer none) 1 Tryd.underlying26 hi hz0 hz1 _ _ _ n rfl rfl (by omega) ?b2 ?b3 (Nat.le_refl _) ?_)
  case b2 => rw [hz2]; omega
  case b3 => unfold maxLen; omega
  intro w0 hown0 hgrow0
  have hR0 : RootsAt w w0 n 0 [] := ⟨rfl, hown0, (fun x hx => by cases hx), (Below.refl _ _).grown hgrow0 (Nat.le_refl _) (fun k h => by cases h), (hown0.lt _ rfl).2⟩
  clear hown0 hgrow0
  go_wp2_with fail
  refine (newDir_any _ _).mono ?_
  rintro e w1 ⟨rfl, hw1⟩
  have hown1 := roots_own1 hR0 hw1
  have hw1' := hideIt hw1
  clear hw1
  go_wp2_with (at_builtin; refine wpList_append_fits _ rfl _ _ 26 rfl w.heap.size 24 i0 1 Tryd.underlying26 hi hz1 w.heap.size 0 n _ rfl (hown1.alloc _) ⟨w1.heap.size, 0, none⟩ 1 1 [ptr (w0.heap.size + 1)] rfl rfl (cell_one_new _ _ _) (by intro u hu; simp at hu; subst hu; rfl) (by omega) ?_; intro w2 hown2 hgrow2)
  have hR1 := hR0.next hw1'.out hown2 hgrow2
  clear hown2 hgrow2 hown1 hw1'
  go_loopw [5, 6] (fun out si wr => ∃ (k : Nat) (ps : List Nat), 1 ≤ k ∧ (k = 1 ∨ k + 1 ≤ n) ∧ si = .int .i64 k ∧ out = .slice (some ⟨w.heap.size, 0, none⟩) k n ∧ RootsAt w wr n k ps) (fun _ si _ => n - (intOf si).toNat)
  case atStart => exact ⟨1, _, Nat.le_refl _, .inl rfl, rfl, rfl, hR1⟩
  case round =>
    obtain ⟨k, ps, hk1, hk2, rfl, rfl, hR⟩ := hrel
    clear hR1 hR0
    by_cases hlt : k + 1 < n
    · go_wp2_with fail
      refine (newDir_any _ _).mono ?_
      rintro e w3 ⟨rfl, hw3⟩
      have hown3 := roots_own1 hR hw3
      have hw3' := hideIt hw3
      clear hw3
      go_wp2_with (at_builtin; refine wpList_append_fits _ rfl _ _ 26 rfl w.heap.size 24 i0 1 Tryd.underlying26 hi hz1 w.heap.size k n _ rfl (hown3.alloc _) ⟨w3.heap.size, 0, none⟩ 1 1 [ptr (wr.heap.size + 1)] rfl rfl (cell_one_new _ _ _) (by intro u hu; simp at hu; subst hu; rfl) (by omega) ?_; intro w4 hown4 hgrow4)
      have hR2 := hR.next hw3'.out hown4 hgrow4
      go_roundw
      case rel => exact ⟨k + 1, _, by omega, .inr (by omega), by go_num, rfl, hR2⟩
      case measure => simp [intOf]; omega
    · by_cases h2 : 2 ≤ n
      · have hkn : k + 1 = n := by omega
        have hc := (hR.bel.cell (p := ⟨nb, 0, none⟩) hnb).trans h0
        have hown := hR.own
        go_wp2_with (at_builtin; refine wpList_append_fits _ rfl _ _ 26 rfl w.heap.size 24 i0 1 Tryd.underlying26 hi hz1 w.heap.size k n _ rfl (hown.alloc _) ⟨wr.heap.size, 0, none⟩ 1 1 [ptr root] rfl rfl (cell_one_new _ _ _) (by intro u hu; simp at hu; subst hu; rfl) (by omega) ?_; intro w4 hown4 hgrow4)
        refine (newRepo_any _ _ _ _ _).mono ?_
        rintro e w5 ⟨rfl, hw5⟩
        have hw5' := hideIt hw5
        clear hw5
        go_wp2
        go_ret
        obtain ⟨hd, hb⟩ := hR.last (root := root) hkn h2 hgrow4
        have hown5 : w4.ownsRow w.heap.size 24 1 (.slice (some ⟨w.heap.size, 0, none⟩) n n) n ((ps ++ [root]).map ptr) := by
          rw [List.map_append]; rw [hkn] at hown4; exact hown4
        obtain ⟨h1, h2⟩ := repo_fin hown5 hd hb hw5'.out
        exact ⟨_, rfl, h1, h2⟩
      · have hk : k = 1 := by omega
        have hn : n = 1 := by omega
        subst hk hn
        go_wp2_with fail
        refine (newRepo_any _ _ _ _ _).mono ?_
        rintro e w5 ⟨rfl, hw5⟩
        have hw5' := hideIt hw5
        clear hw5
        go_wp2
        go_ret
        obtain ⟨h1, h2⟩ := repo_fin hR.own (hR.alone (root := root)) hR.bel hw5'.out
        exact ⟨_, rfl, h1, h2⟩
end Go.Proofs.Qxb6605817aDoor
