/-
  repo.find over whatever tree of directories lies in memory: it walks the parts of the path from the root.
-/
import Derived.Test.Qxb6605817aDoorSplit
namespace Go.Proofs.Qxb6605817aDoor
open Go.RowKit Go.Shelf Go.Lib
attribute [local go_sem] Oper.semAt_some

def optPtr : Option Nat → Value
  | none => .pointer none
  | some c => ptr c

/-- From x, name by name. -/
def walkL (look : Nat → List UInt8 → Option Nat) : Nat → List (List UInt8) → Option Nat
  | x, [] => some x
  | x, s :: r => match look x s with
    | none => none
    | some c => walkL look c r

theorem walkL_append (look : Nat → List UInt8 → Option Nat) : ∀ (a b : List (List UInt8)) (x : Nat), walkL look x (a ++ b) = (walkL look x a).bind fun y => walkL look y b
  | [], b, x => rfl
  | s :: a, b, x => by
    rw [List.cons_append, walkL, walkL]
    cases look x s with
    | none => rfl
    | some c => exact walkL_append look a b c
theorem walkL_snoc {look : Nat → List UInt8 → Option Nat} {x y : Nat} {a : List (List UInt8)} (h : walkL look x a = some y) (s : List UInt8) : walkL look x (a ++ [s]) = look y s := by
  rw [walkL_append, h]
  show walkL look y [s] = look y s
  rw [walkL]
  cases look y s <;> rfl
theorem walkL_prefix_none {look : Nat → List UInt8 → Option Nat} {x : Nat} {a b : List (List UInt8)} (h : a <+: b) (hn : walkL look x a = none) : walkL look x b = none := by
  obtain ⟨c, rfl⟩ := h
  rw [walkL_append, hn]; rfl

/-- A tree of directories in memory: the nodes 'dom', node x's struct in block X x, their kids by name. Look-ups answer so in every later world. -/
structure TreeAt (w : World) (X : Nat → Nat) (dom : Nat → Prop) (look : Nat → List UInt8 → Option Nat) : Prop where
  kids : ∀ x, dom x → ∃ mv : Option Nat, w.cell? ⟨X x, 2, none⟩ = some (.map mv) ∧ ∀ s : ByteArray, s.size ≤ maxLen → ∀ W, Below w.heap.size w W → (Instr.lookup 50 (.map mv) (.string s) false).run Tryd.prog W = .ok (optPtr ((look x s.data.toList).map X)) W
  closed : ∀ x s c, dom x → look x s = some c → dom c

def namesOf (l : List ByteArray) : List (List UInt8) := l.map (·.data.toList)

/-- Between two rounds: every name so far was found; x's box holds the node. -/
structure FindI (w : World) (X : Nat → Nat) (dom : Nat → Prop) (look : Nat → List UInt8 → Option Nat) (root : Nat) (pre : List ByteArray) (W : World) : Prop where
  at_ : ∃ x, walkL look root (namesOf pre) = some x ∧ dom x ∧ W.cell? ⟨w.heap.size + 1, 0, none⟩ = some (ptr (X x))
  xF : W.frozen? ⟨w.heap.size + 1, 0, none⟩ = false
  res : W.cell? ⟨w.heap.size, 0, none⟩ = some (.pointer none)
  resF : W.frozen? ⟨w.heap.size, 0, none⟩ = false
  bel : Below w.heap.size w W
structure FindX (w : World) (look : Nat → List UInt8 → Option Nat) (root : Nat) (pre : List ByteArray) (W : World) : Prop where
  at_ : walkL look root (namesOf pre) = none
  res : W.cell? ⟨w.heap.size, 0, none⟩ = some (.pointer none)
  bel : Below w.heap.size w W


theorem keep_cell {W W' : World} {k i : Nat} (h : W'.heap[k]? = W.heap[k]?) : W'.cell? ⟨k, i, none⟩ = W.cell? ⟨k, i, none⟩ := World.cell?_of_block (a := ⟨k, i, none⟩) h
theorem keep_frozen {W W' : World} {k i : Nat} (h : W'.heap[k]? = W.heap[k]?) : W'.frozen? ⟨k, i, none⟩ = W.frozen? ⟨k, i, none⟩ := World.frozen?_of_block (a := ⟨k, i, none⟩) h

theorem FindI.keep {w : World} {X : Nat → Nat} {dom : Nat → Prop} {look : Nat → List UInt8 → Option Nat} {root : Nat} {pre : List ByteArray} {W W' : World} (h : FindI w X dom look root pre W) (h1 : W'.heap[w.heap.size]? = W.heap[w.heap.size]?) (h2 : W'.heap[w.heap.size + 1]? = W.heap[w.heap.size + 1]?) (hb : Below w.heap.size w W') : FindI w X dom look root pre W' := by
  obtain ⟨⟨x, ha, hx, hc⟩, b, c, d, _⟩ := h
  exact ⟨⟨x, ha, hx, (keep_cell h2).trans hc⟩, (keep_frozen h2).trans b, (keep_cell h1).trans c, (keep_frozen h1).trans d, hb⟩
theorem FindX.keep {w : World} {look : Nat → List UInt8 → Option Nat} {root : Nat} {pre : List ByteArray} {W W' : World} (h : FindX w look root pre W) (h1 : W'.heap[w.heap.size]? = W.heap[w.heap.size]?) (hb : Below w.heap.size w W') : FindX w look root pre W' :=
  ⟨h.at_, (keep_cell h1).trans h.res, hb⟩

theorem lt_of_cell {W : World} {k i : Nat} {v : Value} (h : W.cell? ⟨k, i, none⟩ = some v) : k < W.heap.size := World.block_lt_of_cell? W ⟨k, i, none⟩ h

theorem findI_own {w : World} {X : Nat → Nat} {dom : Nat → Prop} {look : Nat → List UInt8 → Option Nat} {root : Nat} {B : Nat} (hB : w.heap.size + 1 < B) : OwnFrom B (FindI w X dom look root) := by
  intro s W W' row h hg hr
  have l2 : w.heap.size + 1 < W.heap.size := by obtain ⟨x, _, _, hc⟩ := h.at_; exact lt_of_cell hc
  refine h.keep (hg.block _ (by omega) (fun e => ?_)) (hg.block _ l2 (fun e => ?_)) (h.bel.grown hg h.bel.size (fun k e => ?_))
  · have := (hr _ e.symm).1; omega
  · have := (hr _ e.symm).1; omega
  · have := (hr _ e).1; omega
theorem findX_own {w : World} {look : Nat → List UInt8 → Option Nat} {root : Nat} {B : Nat} (hB : w.heap.size < B) : OwnFrom B (FindX w look root) := by
  intro s W W' row h hg hr
  have l2 : w.heap.size < W.heap.size := lt_of_cell h.res
  refine h.keep (hg.block _ l2 (fun e => ?_)) (h.bel.grown hg h.bel.size (fun k e => ?_))
  · have := (hr _ e.symm).1; omega
  · have := (hr _ e).1; omega
theorem findI_cell {w : World} {X : Nat → Nat} {dom : Nat → Prop} {look : Nat → List UInt8 → Option Nat} {root sb : Nat} (hs : w.heap.size + 1 < sb) : AbidesCell sb (FindI w X dom look root) := by
  intro s W v h
  exact h.keep (Below.heap_setCell _ _ _ _ (by simp; omega)) (Below.heap_setCell _ _ _ _ (by simp; omega)) (h.bel.setCell (by simp; omega) _)

theorem seqStart_new (p : ByteArray) (W o1 : World) (hW : o1 = ((W.alloc (.cells #[.string p] 9)).alloc (.cells #[.string ⟨#[47]⟩] 9)).alloc (.cells #[.int .i64 0] 3)) (a b : Obj) :
    SeqStart (W.heap.size + 1) W.heap.size (W.heap.size + 2) p ((o1.alloc a).alloc b) := by
  have hsz : o1.heap.size = W.heap.size + 3 := by rw [hW]; simp
  have hk : ∀ k, k < o1.heap.size → ((o1.alloc a).alloc b).heap[k]? = o1.heap[k]? := fun k hk => by
    rw [Below.heap_alloc _ _ _ (by simp; omega), Below.heap_alloc _ _ _ hk]
  have h0 : o1.heap[W.heap.size]? = some (.cells #[.string p] 9) := by
    rw [hW, Below.heap_alloc _ _ _ (by simp; omega), Below.heap_alloc _ _ _ (by simp), heap_new]
  have h1 : o1.heap[W.heap.size + 1]? = some (.cells #[.string ⟨#[47]⟩] 9) := by
    rw [hW, Below.heap_alloc _ _ _ (by simp)]
    have := heap_new (W.alloc (.cells #[.string p] 9)) (.cells #[.string ⟨#[47]⟩] 9)
    rwa [World.size_alloc] at this
  have h2 : o1.heap[W.heap.size + 2]? = some (.cells #[.int .i64 0] 3) := by
    rw [hW]
    have := heap_new ((W.alloc (.cells #[.string p] 9)).alloc (.cells #[.string ⟨#[47]⟩] 9)) (.cells #[.int .i64 0] 3)
    rwa [World.size_alloc, World.size_alloc] at this
  exact ⟨by simp [World.cell?, hk _ (by omega : W.heap.size + 1 < o1.heap.size), h1], by simp [World.cell?, hk _ (by omega : W.heap.size < o1.heap.size), h0], by simp [World.frozen?, hk _ (by omega : W.heap.size < o1.heap.size), h0], by simp [World.cell?, hk _ (by omega : W.heap.size + 2 < o1.heap.size), h2]⟩

theorem namesOf_snoc (pre : List ByteArray) (x : ByteArray) : namesOf (pre ++ [x]) = namesOf pre ++ [x.data.toList] := by simp [namesOf]
theorem namesOf_prefix {a b : List ByteArray} (h : a <+: b) : namesOf a <+: namesOf b := by
  obtain ⟨c, rfl⟩ := h
  exact ⟨namesOf c, by simp [namesOf]⟩

set_option maxHeartbeats 1000000 in
theorem find_any (root : Nat) (p : ByteArray) (w : World) (X : Nat → Nat) (dom : Nat → Prop) (look : Nat → List UInt8 → Option Nat) (hT : TreeAt w X dom look) (hr : dom root) (hp : p.size ≤ maxLen) (hne : p.toList.isEmpty = false) :
    Calls Tryd.prog 27 #[ptr (X root), .string p] w fun e w' => e = .returned (optPtr ((walkL look root (namesOf (partsOf p))).map X)) ∧ Below w.heap.size w w' := by
  refine (callsIn_wide (n := 4)).1 ?_
  have hf33 : Fence.wide.fn 33 := trivial
  have hS := fun w => callsIn_wide (n := 3).2 (splitSeq_any p w)
  refine callsIn_of_wp_marks Tryd.func27 rfl trivial ?_ rfl
  unfold ptr
  simp only [Tryd.ntmps27, List.size_toArray, List.length_cons, List.length_nil, Nat.reduceAdd, Nat.reduceSub, Array.replicate_succ, Array.replicate_zero, List.push_toArray, List.append_toArray, List.nil_append, List.cons_append]
  gi_wp2_with (gi_at_call 33; refine (hS _).mono ?_; rintro e w' ⟨rfl, hw⟩; subst hw)
  have h0 : FindI w X dom look root [] (((((w.alloc (Obj.cells #[Value.pointer none] 24)).alloc (Obj.cells #[Value.pointer (some { block := X root, off := 0 })] 24)).alloc (Obj.cells #[Value.string p] 9)).alloc (Obj.cells #[Value.string { data := #[47] }] 9)).alloc (Obj.cells #[Value.int IntKind.i64 0] 3)) := by
    refine ⟨⟨root, rfl, hr, ?_⟩, ?_, ?_, ?_, ?_⟩
    · simp [go_sem, ptr]
    · simp [go_sem]
    · simp [go_sem]
    · simp [go_sem]
    · exact (((((Below.refl _ _).alloc (Nat.le_refl _) _).alloc (by simp) _).alloc (by simp; omega) _).alloc (by simp; omega) _).alloc (by simp; omega) _
  have hss := fun a b => seqStart_new p ((w.alloc (Obj.cells #[Value.pointer none] 24)).alloc (Obj.cells #[Value.pointer (some { block := X root, off := 0 })] 24)) _ rfl a b
  simp only [World.size_alloc] at hss
  have hsz : (((((w.alloc (Obj.cells #[Value.pointer none] 24)).alloc (Obj.cells #[Value.pointer (some { block := X root, off := 0 })] 24)).alloc (Obj.cells #[Value.string p] 9)).alloc (Obj.cells #[Value.string { data := #[47] }] 9)).alloc (Obj.cells #[Value.int IntKind.i64 0] 3)).heap.size = w.heap.size + 5 := by simp
  generalize (((((w.alloc (Obj.cells #[Value.pointer none] 24)).alloc (Obj.cells #[Value.pointer (some { block := X root, off := 0 })] 24)).alloc (Obj.cells #[Value.string p] 9)).alloc (Obj.cells #[Value.string { data := #[47] }] 9)).alloc (Obj.cells #[Value.int IntKind.i64 0] 3)) = W0 at *
  refine wpIn_rangeFunc_cell rfl (by omega) (gf := 35) (lb := #[Value.pointer (some { block := w.heap.size + 1 + 1 + 1, off := 0 }), Value.pointer (some { block := w.heap.size + 1 + 1, off := 0 }), Value.pointer (some { block := w.heap.size + 1 + 1 + 2, off := 0 })]) rfl trivial (enters_of Tryd.func35 (by kernel_rfl) rfl)
    (split_seq 3 (w.heap.size + 1 + 1 + 1) (w.heap.size + 1 + 1) (w.heap.size + 1 + 1 + 2) (by omega) (by omega) (by omega) p hp)
    (fun h k => ⟨k.1.trans h.1, k.2.1.trans h.2.1, k.2.2.trans h.2.2⟩)
    (fun W l o' hl => ⟨World.putObj_heap_other (by omega), World.putObj_heap_other (by omega), World.putObj_heap_other (by omega)⟩) (fun _ => rfl)
    (fun o => hss _ o) (FindI w X dom look root) (FindX w look root) (findI_own (by omega)) (findX_own (by omega)) (findI_cell (by omega)) h0
    (fun x => { tmps := #[Value.pointer (some { block := X root, off := 0 }), Value.string p, undef, undef,
          Value.pointer (some { block := w.heap.size, off := 0 }),
          Value.pointer (some { block := w.heap.size + 1, off := 0 }), .string x,
          Value.pointer (some { block := X root, off := 0 }), Value.string p, Value.bool false, undef, Value.string p,
          Value.func (Fn.func 35) #[]
            #[Value.pointer (some { block := w.heap.size + 1 + 1 + 1, off := 0 }),
              Value.pointer (some { block := w.heap.size + 1 + 1, off := 0 }),
              Value.pointer (some { block := w.heap.size + 1 + 1 + 2, off := 0 })],
          .string x, undef, undef, undef, undef, undef, undef, undef, undef, undef], defers := [] }) ?assign ?body ?done ?stop
  case assign =>
    intro l x W K hK
    gi_wp2
    exact hK
  case body =>
    rintro l pre x W hI hok
    obtain ⟨⟨y, hy1, hy2, hy3⟩, hxF, hres, hresF, hbel⟩ := hI
    obtain ⟨mv, hmv, hlook⟩ := hT.kids y hy2
    have hylt := lt_of_cell hmv
    have hcW := (hbel.cell (p := ⟨X y, 2, none⟩) hylt).trans hmv
    have hrun := hlook x (Nat.le_trans hok hp) W hbel
    have hsn := hideIt (walkL_snoc hy1 x.data.toList)
    have hn1 := hideIt (namesOf_snoc pre x)
    have hcl := hideIt (hT.closed y x.data.toList)
    have hwlt : w.heap.size + 1 < W.heap.size := lt_of_cell hy3
    have hxc : W.cell? ⟨w.heap.size + 1, 0, none⟩ = some (.pointer (some ⟨X y, 0, none⟩)) := hy3
    clear hlook hy3 hmv hss h0 hS
    cases hk : look y x.data.toList with
    | none =>
      rw [hk] at hrun
      have hrun' : (Instr.lookup 50 (.map mv) (.string x) false).run Tryd.prog W = .ok (.pointer none) W := hrun
      have hk' := hideIt hk
      clear hrun hk
      gi_wp2
      have hres1 : (W.setCell ⟨w.heap.size + 1, 0, none⟩ (Value.pointer none)).cell? ⟨w.heap.size, 0, none⟩ = some (.pointer none) :=
        (World.cell?_setCell_other _ _ _ _ (fun e => by have := congrArg Addr.block e; simp at this)).trans hres
      exact ⟨((KeepsOthers.setCell _ _ _).trans (KeepsOthers.setCell _ _ _)).from _, rfl, by rw [hn1.out, hsn.out]; exact hk'.out, World.cell?_setCell_same _ _ _ hres1, (hbel.setCell (p := ⟨w.heap.size + 1, 0, none⟩) (Nat.le_succ _) _).setCell (p := ⟨w.heap.size, 0, none⟩) (Nat.le_refl _) _⟩
    | some c =>
      rw [hk] at hrun
      have hrun' : (Instr.lookup 50 (.map mv) (.string x) false).run Tryd.prog W = .ok (.pointer (some ⟨X c, 0, none⟩)) W := hrun
      have hk' := hideIt hk
      clear hrun hk
      gi_wp2
      have hres1 : (W.setCell ⟨w.heap.size + 1, 0, none⟩ (Value.pointer (some ⟨X c, 0, none⟩))).cell? ⟨w.heap.size, 0, none⟩ = some (.pointer none) :=
        (World.cell?_setCell_other _ _ _ _ (fun e => by have := congrArg Addr.block e; simp at this)).trans hres
      exact ⟨(KeepsOthers.setCell _ _ _).from _, ⟨Below.heap_setCell _ _ _ _ (by simp; omega), Below.heap_setCell _ _ _ _ (by simp), Below.heap_setCell _ _ _ _ (by simp)⟩,
        ⟨⟨c, by rw [hn1.out, hsn.out]; exact hk'.out, hcl.out c hy2 hk'.out, World.cell?_setCell_same _ _ _ hxc⟩, (World.frozen?_setCell _ _ _ _).trans hxF, hres1, (World.frozen?_setCell _ _ _ _).trans hresF, hbel.setCell (p := ⟨w.heap.size + 1, 0, none⟩) (Nat.le_succ _) _⟩⟩
  case done =>
    rintro D ys W hD rfl hI hK
    obtain ⟨⟨y, hy1, hy2, hy3⟩, hxF, hres, hresF, hbel⟩ := hI
    have hxc : W.cell? ⟨w.heap.size + 1, 0, none⟩ = some (.pointer (some ⟨X y, 0, none⟩)) := hy3
    have hy := hideIt hy1
    clear hy3 hy1 hss h0 hS
    gi_wp2
    have hK2 := (KeepsOthers.setCell W ⟨w.heap.size, 0, none⟩ (.pointer (some ⟨X y, 0, none⟩))).same D _ hK rfl
    refine ⟨by simp, .inl ⟨_, _, rfl, run_takeDeferred hK2, ?_⟩⟩
    have hc5 : ((W.setCell ⟨w.heap.size, 0, none⟩ (.pointer (some ⟨X y, 0, none⟩))).putObj D (.deferred none)).cell? ⟨w.heap.size, 0, none⟩ = some (.pointer (some ⟨X y, 0, none⟩)) :=
      (keep_cell (World.putObj_heap_other (by omega))).trans (World.cell?_setCell_same _ _ _ hres)
    refine ⟨.pointer (some ⟨X y, 0, none⟩), ?_, by rw [hy.out]; rfl, ?_⟩
    · simp [results, Tryd.f27, go_sem, hc5]
    · exact (hbel.setCell (p := ⟨w.heap.size, 0, none⟩) (Nat.le_refl _) _).trans (belowK_b (w := w) (Nat.le_refl _) _ D _ _ (by omega) hK2 rfl rfl)
  case stop =>
    rintro D pre W hD hpre hI hK
    obtain ⟨hx1, hx2, hx3⟩ := hI
    gi_wp2
    refine ⟨by simp, .inl ⟨_, _, rfl, run_takeDeferred hK, ?_⟩⟩
    have hc5 : (W.putObj D (.deferred none)).cell? ⟨w.heap.size, 0, none⟩ = some (.pointer none) := (keep_cell (World.putObj_heap_other (by omega))).trans hx2
    refine ⟨.pointer none, ?_, by rw [walkL_prefix_none (namesOf_prefix hpre) hx1]; rfl, ?_⟩
    · simp [results, Tryd.f27, go_sem, hc5]
    · exact hx3.trans (belowK_b (w := w) (Nat.le_refl _) _ D _ _ (by omega) hK rfl rfl)
end Go.Proofs.Qxb6605817aDoor
