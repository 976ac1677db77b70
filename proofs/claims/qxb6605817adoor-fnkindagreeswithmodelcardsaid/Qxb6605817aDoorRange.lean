/-
  A RANGE OVER AN ITERATOR THAT KEEPS ITS STATE IN A CELL OF ITS OWN (strings.SplitSeq's captured 's'): the guide's law for a loop over an iterator, turned for one: besides what the guide's law asks, the caller's invariant must abide a store into the iterator's own block.
-/
import Derived.RangeFuncNested
import Derived.RangeFuncBound
import Derived.RangeFuncCalls
import Derived.RangeFuncLeaves
import Derived.Shelf.Abstract
namespace Go.Proofs.Qxb6605817aDoor
open Go.RowKit Go.Shelf

/-- J abides a store into block sb. -/
def AbidesCell {β : Type} (sb : Nat) (J : β → World → Prop) : Prop := ∀ s W v, J s W → J s (W.setCell ⟨sb, 0, none⟩ v)

/-- What the iterator (function g, its captured blocks in lb) does: its own state lies in block sb; a round that goes on keeps what Kp says. -/
def SeqCell {α : Type} (F : Fence) (n : Nat) (P : Program) (g : Nat) (lb : Array Value) (encs : α → Array Value) (sb : Nat) (Kp : World → World → Prop) (Ok : α → Prop) (S Sp : List α → Prop) (Start : World → Prop) : Prop :=
  ∀ (l : Nat) (J Jx : List α → World → Prop) (W : World), Start W → AbidesCell sb J →
    (∀ pre x W1, J pre W1 → Ok x → YieldAt F (n - 1) P l (encs x) W1 fun e W' =>
      (e = .returned (.bool true) ∧ J (pre ++ [x]) W' ∧ Kp W1 W') ∨ (e = .returned (.bool false) ∧ Jx (pre ++ [x]) W')) →
    J [] W →
    CallsIn F n P g (#[.func (.yield l) #[] #[]] ++ lb) W fun e W' => (∃ v, e = .returned v) ∧ ((∃ xs, S xs ∧ J xs W') ∨ (∃ pre, Sp pre ∧ Jx pre W'))

variable {F : Fence} {n : Nat} {P : Program}

theorem setCell_keeps {W : World} {sb : Nat} {v : Value} {k : Nat} {o : Obj} (h : W.heap[k]? = some o) (ho : o.isCells = false) : (W.setCell ⟨sb, 0, none⟩ v).heap[k]? = some o := by
  simp only [World.setCell, Array.getElem?_modify]
  split
  · rename_i e
    rw [h]
    cases o <;> first | rfl | (simp [Obj.isCells] at ho)
  · exact h

theorem wpIn_rangeFunc_cell {α : Type} {g : Operand} {ps : Array Tmp} {assign body : Code} {Q : Exit → Act → World → Prop} {a : Act} {w : World}
    (hro : F.round = none) (h1 : 1 ≤ n) {gf : Nat} {lb : Array Value} (hg : a.eval g = .func (.func gf) #[] lb) (hFg : F.fn gf) (eg : ∀ args w, (callFunc gf args).run P w = .ok (.enter gf args) w)
    {encs : α → Array Value} {sb : Nat} {Kp : World → World → Prop} {Ok : α → Prop} {S Sp : List α → Prop} {Start : World → Prop} (hseq : SeqCell F (n - 1) P gf lb encs sb Kp Ok S Sp Start)
    (hKt : ∀ {A B C : World}, Kp A B → Kp B C → Kp A C) (hKb : ∀ (W : World) (l : Nat) (o' : Obj), w.heap.size ≤ l → Kp W (W.putObj l o')) (hps : ∀ x, (encs x).size = ps.size)
    (hstart : ∀ o : Obj, Start ((w.alloc (.deferred (some []))).alloc o))
    (I : List α → World → Prop) (Ix : List α → World → Prop)
    (hI : OwnFrom w.heap.size I) (hIx : OwnFrom w.heap.size Ix) (hIc : AbidesCell sb I) (h0 : I [] w) (a₁ : α → Act)
    (hassign : ∀ (l : Nat) (x : α) (W : World) (K : Act → World → Prop), K (a₁ x) W →
      assign.wpIn (F.inRound l) (n - 1 - 1) P (Exit.then K (fun _ _ _ => False)) { tmps := (ps.zip (encs x)).foldl (fun t (p, v) => t.setIfInBounds p v) a.tmps, defers := [] } W)
    (hbody : ∀ (l : Nat) (pre : List α) (x : α) (W : World), I pre W → Ok x → body.wpIn (F.inRound l) (n - 1 - 1) P (ownPostG w.heap.size Kp I (fun c xs W => c = .ret ∧ Ix xs W) (pre ++ [x]) W) (a₁ x) W)
    (hdone : ∀ (D : Nat) (xs : List α) (W : World), w.heap.size ≤ D → S xs → I xs W → W.heap[D]? = some (.deferred (some [])) → Q .normal { a with defers := { target := .collected D, args := #[] } :: a.defers } W)
    (hstop : ∀ (D : Nat) (pre : List α) (W : World), w.heap.size ≤ D → Sp pre → Ix pre W → W.heap[D]? = some (.deferred (some [])) → Code.ret.wpIn F n P Q { a with defers := { target := .collected D, args := #[] } :: a.defers } W) :
    (Code.rangeFunc g ps assign body).wpIn F n P Q a w := by
  refine wpIn_rangeFunc ?_
  intro fn hfn
  rw [hro]
  obtain ⟨rec, hrec⟩ : ∃ rec : LoopState → Option Code → Loop, rec = fun st pe => { state := st, pending := pe, fn, tmps := a.tmps, params := ps, assign, body, defers := w.heap.size } := ⟨_, rfl⟩
  obtain ⟨W1, hW1⟩ : ∃ W1, (w.alloc (.deferred (some []))).alloc (.loop (rec .ready none)) = W1 := ⟨_, rfl⟩
  have hL1 : W1.heap[w.heap.size + 1]? = some (.loop (rec .ready none)) := by
    rw [← hW1]; have := World.alloc_heap_new (w.alloc (.deferred (some []))) (.loop (rec .ready none)); rwa [World.size_alloc] at this
  have hK1 : W1.heap[w.heap.size]? = some (.deferred (some [])) := by
    rw [← hW1]; exact (Below.heap_alloc _ _ _ (by simp)).trans (World.alloc_heap_new w _)
  have hI1 : I [] W1 := by rw [← hW1]; exact hI.alloc _ (hI.alloc _ h0)
  have hs1 : Start W1 := by rw [← hW1]; exact hstart _
  refine ⟨w.heap.size + 1, [{ target := .collected w.heap.size, args := #[] }], W1, { target := .fn (.func gf) lb, args := #[.func (.yield (w.heap.size + 1)) #[] #[]] }, W1, gf,
    #[.func (.yield (w.heap.size + 1)) #[] #[]] ++ lb, W1, ?_, ?_, ?_, ?_, fun _ => h1, ?_⟩
  · rw [← hW1, hrec]; exact run_enterLoop_outer _ _ _ _ _
  · simp only [resolve, hg]
    simp [go_sem]
  · intro f' hf'; simp [Target.leads] at hf'; subst hf'; exact hFg
  · simp [invoke, go_sem, eg]
  · refine (hseq (w.heap.size + 1)
      (fun pre W => I pre W ∧ W.heap[w.heap.size + 1]? = some (.loop (rec .ready none)) ∧ W.heap[w.heap.size]? = some (.deferred (some [])))
      (fun pre W => Ix pre W ∧ W.heap[w.heap.size + 1]? = some (.loop (rec .done (some .ret))) ∧ W.heap[w.heap.size]? = some (.deferred (some [])))
      W1 hs1 (fun s W v h => ⟨hIc s W v h.1, setCell_keeps h.2.1 rfl, setCell_keeps h.2.2 rfl⟩) ?_ ⟨hI1, hL1, hK1⟩).mono ?_
    · rintro pre x W ⟨hi, hl, hk⟩ hok
      have hlt : w.heap.size + 1 < W.heap.size := (Array.getElem?_eq_some_iff.1 hl).1
      have hy := run_yield (P := P) (args := encs x) hl (by rw [hrec]; exact hps x)
      rw [hrec] at hy
      refine ⟨fn, _, assign, body, hy, roundIn_of_wpIn hfn (hassign _ x W _ ⟨_, run_beginRound hl (by rw [hrec]), ?_⟩)⟩
      have hl2 : (W.putObj (w.heap.size + 1) (.loop { rec .ready none with state := .busy })).heap[w.heap.size + 1]? = some (.loop { rec .ready none with state := .busy }) := World.putObj_heap_same hlt
      have hk2 : (W.putObj (w.heap.size + 1) (.loop { rec .ready none with state := .busy })).heap[w.heap.size]? = some (.deferred (some [])) := (World.putObj_heap_other (by omega)).trans hk
      have hw2 : Kp W (W.putObj (w.heap.size + 1) (.loop { rec .ready none with state := .busy })) := hKb _ _ _ (by omega)
      refine wpIn_mono (hbody _ pre x _ (hI.putObj _ hi (by omega) hl rfl) hok) ?_
      have fin : ∀ (jump : Option Code) (W3 : World), KeepsFrom w.heap.size (W.putObj (w.heap.size + 1) (.loop { rec .ready none with state := .busy })) W3 →
          (Instr.endRound (w.heap.size + 1) jump).run P W3 = .ok (.bool jump.isNone) (W3.putObj (w.heap.size + 1) (.loop (rec (if jump.isNone then .ready else .done) jump))) ∧
          W3.heap[w.heap.size + 1]? = some (.loop { rec .ready none with state := .busy }) ∧
          (W3.putObj (w.heap.size + 1) (.loop (rec (if jump.isNone then .ready else .done) jump))).heap[w.heap.size + 1]? = some (.loop (rec (if jump.isNone then .ready else .done) jump)) ∧
          (W3.putObj (w.heap.size + 1) (.loop (rec (if jump.isNone then .ready else .done) jump))).heap[w.heap.size]? = some (.deferred (some [])) := fun jump W3 hk3 => by
        have hl3 := hk3.same _ _ (by omega) hl2 rfl
        have := run_endRound (P := P) jump hl3
        rw [hrec] at this ⊢
        exact ⟨this, by rw [hrec] at hl3; exact hl3, World.putObj_heap_same (Array.getElem?_eq_some_iff.1 hl3).1, (World.putObj_heap_other (by omega)).trans (hk3.same _ _ (Nat.le_refl _) hk2 rfl)⟩
      rintro e a3 W3 hp
      cases e with
      | normal =>
        obtain ⟨hk3, hkp3, hi3⟩ := hp
        obtain ⟨hr, hl3, hl4, hk4⟩ := fin none W3 hk3
        exact ⟨_, _, hr, .inl ⟨rfl, ⟨hI.putObj _ hi3 (by omega) hl3 rfl, hl4, hk4⟩, hKt (hKt hw2 hkp3) (hKb _ _ _ (by omega))⟩⟩
      | ret =>
        obtain ⟨hk3, _, hi3⟩ := hp
        obtain ⟨hr, hl3, hl4, hk4⟩ := fin (some .ret) W3 hk3
        exact ⟨_, _, hr, .inr ⟨rfl, hIx.putObj _ hi3 (by omega) hl3 rfl, hl4, hk4⟩⟩
      | exit id => exact Code.noConfusion hp.2.1
      | goto t => exact Code.noConfusion hp.2.1
      | panic ch => exact hp.elim
      | outgrown => exact hp.elim
    · rintro e W2 ⟨⟨v, rfl⟩, (⟨xs, hS, hi, hl, hk⟩ | ⟨pre, hSp, hi, hl, hk⟩)⟩
      · exact ⟨none, _, by have := run_endLoop (P := P) hl (by rw [hrec]; simp); rw [hrec] at this; exact this, hdone _ xs _ (Nat.le_refl _) hS (hI.putObj _ hi (by omega) hl rfl) ((World.putObj_heap_other (by omega)).trans hk)⟩
      · exact ⟨some .ret, _, by have := run_endLoop (P := P) hl (by rw [hrec]; simp); rw [hrec] at this; exact this, hstop _ pre _ (Nat.le_refl _) hSp (hIx.putObj _ hi (by omega) hl rfl) ((World.putObj_heap_other (by omega)).trans hk)⟩

end Go.Proofs.Qxb6605817aDoor
