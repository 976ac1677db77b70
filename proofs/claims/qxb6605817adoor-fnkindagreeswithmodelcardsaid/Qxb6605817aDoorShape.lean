/-
  THE WALKS of seat b6605817aD: zzShapeRb1: which nodes stand, which are directories.
-/
import Derived.Test.Qxb6605817aDoorClone
import Derived.Deep.OwnRows
import Derived.Deep.QuietTactic
import Derived.BigQuiet
import Derived.Lib.SplitLaws
namespace Go.Proofs.Qxb6605817aDoor
open Go.RowKit

def ent (es : List Ent) (i : Nat) : Ent := es[i]?.getD ⟨0, ⟨#[]⟩, false⟩
theorem ent_eq (es : List Ent) (i : Nat) (h : i < es.length) : ent es i = es[i] := by simp [ent, h]

/-- Does one of the first j entries stand under the same parent and name? -/
def dupTo (es : List Ent) (I : Nat → Bool) (par : Int) (name : List UInt8) : Nat → Bool
  | 0 => false
  | j + 1 => dupTo es I par name j || (I (j + 1) && ((ent es j).par == par && (ent es j).name.data.toList == name))
/-- Is entry i taken? -/
def okAt (es : List Ent) (I D : Nat → Bool) (i : Nat) : Bool :=
  decide (0 ≤ (ent es i).par) && (decide ((ent es i).par ≤ (i : Int)) && (I (ent es i).par.toNat && (D (ent es i).par.toNat && (validName (ent es i).name.data.toList && !dupTo es I (ent es i).par (ent es i).name.data.toList i))))
def upd (f : Nat → Bool) (k : Nat) (v : Bool) : Nat → Bool := fun j => if j = k then v else f j
/-- Which nodes stand, and which are directories, when i entries have been looked at. -/
def shapeTo (es : List Ent) : Nat → (Nat → Bool) × (Nat → Bool)
  | 0 => (fun k => k == 0, fun k => k == 0)
  | i + 1 => if okAt es (shapeTo es i).1 (shapeTo es i).2 i then (upd (shapeTo es i).1 (i + 1) true, upd (shapeTo es i).2 (i + 1) (ent es i).dir) else shapeTo es i

/-- A row of bools in block b. -/
structure BoolRow (w : World) (b n : Nat) (f : Nat → Bool) : Prop where
  cell : ∀ k, k < n → w.cell? ⟨b, k, none⟩ = some (.bool (f k))
  fro : ∀ k, w.frozen? ⟨b, k, none⟩ = false

theorem BoolRow.keep {w w' : World} {b n : Nat} {f : Nat → Bool} (h : BoolRow w b n f) (hk : w'.heap[b]? = w.heap[b]?) : BoolRow w' b n f :=
  ⟨fun k hn => (World.cell?_of_block (a := ⟨b, k, none⟩) hk).trans (h.cell k hn), fun k => (World.frozen?_of_block (a := ⟨b, k, none⟩) hk).trans (h.fro k)⟩
theorem BoolRow.set {w : World} {b n : Nat} {f : Nat → Bool} (h : BoolRow w b n f) (k : Nat) (hk : k < n) (v : Bool) : BoolRow (w.setCell ⟨b, k, none⟩ (.bool v)) b n (upd f k v) := by
  refine ⟨fun j hj => ?_, fun j => by rw [World.frozen?_setCell]; exact h.fro j⟩
  unfold upd
  split
  · rename_i e; subst e; exact set_eq _ (h.cell _ hj)
  · rename_i e; rw [set_ne _ e]; exact h.cell j hj
theorem Ents.keep {w w' : World} {a : Option Addr} {es : List Ent} {b off : Nat} (h : Ents w a es b off) (hk : es ≠ [] → w'.heap[b]? = w.heap[b]?) : Ents w' a es b off := by
  have hk' : ∀ i, i < es.length → w'.heap[b]? = w.heap[b]? := fun i hi => hk (fun e => by simp [e] at hi)
  exact ⟨h.base, fun i hi => (World.cell?_of_block (a := ⟨b, _, none⟩) (hk' i hi)).trans (h.par i hi), fun i hi => (World.cell?_of_block (a := ⟨b, _, none⟩) (hk' i hi)).trans (h.name i hi), fun i hi => (World.cell?_of_block (a := ⟨b, _, none⟩) (hk' i hi)).trans (h.dir i hi), h.wfp, h.wfn⟩
theorem Ents.lt {w : World} {a : Option Addr} {es : List Ent} {b off : Nat} (h : Ents w a es b off) (hne : es ≠ []) : b < w.heap.size :=
  lt_of_heap_cell (h.par 0 (List.length_pos_iff.2 hne))
theorem Ents.later {w w' : World} {a : Option Addr} {es : List Ent} {b off : Nat} (h : Ents w a es b off) (hb : Below w.heap.size w w') : Ents w' a es b off :=
  h.keep (fun hne => hb.block b (h.lt hne))

theorem info4 : (Tryd.prog.info? 4).map (fun i => (i.zero, i.size, i.bytes)) = some (some (.bool false), 1, 1) := by kernel_rfl

theorem made_zero (n : Nat) (h : 0 < n) : (madeCells #[Value.bool false] n)[0]? = some (.bool false) := by
  rw [Array.getElem?_eq_getElem (by rw [size_madeCells]; exact h)]
  simp [madeCells]

structure ShapeAt (w wr : World) (es : List Ent) (i : Nat) : Prop where
  ins : BoolRow wr w.heap.size (es.length + 1) (shapeTo es i).1
  dirs : BoolRow wr (w.heap.size + 1) (es.length + 1) (shapeTo es i).2
  bel : Below w.heap.size w wr

theorem dupTo_mono {es : List Ent} {I : Nat → Bool} {par : Int} {name : List UInt8} {a b : Nat} (hab : a ≤ b) (h : dupTo es I par name a = true) : dupTo es I par name b = true := by
  induction b with
  | zero => obtain rfl : a = 0 := by omega
            exact h
  | succ b ih =>
    by_cases e : a = b + 1
    · subst e; exact h
    · rw [dupTo, ih (by omega)]; rfl
theorem shapeTo_no {es : List Ent} {i : Nat} (h : okAt es (shapeTo es i).1 (shapeTo es i).2 i = false) : shapeTo es (i + 1) = shapeTo es i := by
  rw [shapeTo, h]; rfl
theorem shapeTo_yes {es : List Ent} {i : Nat} (h : okAt es (shapeTo es i).1 (shapeTo es i).2 i = true) : shapeTo es (i + 1) = (upd (shapeTo es i).1 (i + 1) true, upd (shapeTo es i).2 (i + 1) (ent es i).dir) := by
  rw [shapeTo, h]; rfl
theorem ShapeAt.no {w wr : World} {es : List Ent} {i : Nat} (h : ShapeAt w wr es i) (hn : okAt es (shapeTo es i).1 (shapeTo es i).2 i = false) : ShapeAt w wr es (i + 1) := by
  obtain ⟨h1, h2, h3⟩ := h
  exact ⟨by rw [shapeTo_no hn]; exact h1, by rw [shapeTo_no hn]; exact h2, h3⟩
theorem ShapeAt.yes {w wr : World} {es : List Ent} {i : Nat} (h : ShapeAt w wr es i) (hi : i < es.length) (hn : okAt es (shapeTo es i).1 (shapeTo es i).2 i = true) :
    ShapeAt w ((wr.setCell ⟨w.heap.size, i + 1, none⟩ (.bool true)).setCell ⟨w.heap.size + 1, i + 1, none⟩ (.bool (ent es i).dir)) es (i + 1) := by
  obtain ⟨h1, h2, h3⟩ := h
  refine ⟨?_, ?_, ?_⟩
  · rw [shapeTo_yes hn]
    exact (h1.set (i + 1) (by omega) true).keep (Below.heap_setCell _ _ _ _ (by simp))
  · rw [shapeTo_yes hn]
    exact (h2.keep (Below.heap_setCell _ _ _ _ (by simp))).set (i + 1) (by omega) _
  · exact (h3.setCell (p := ⟨w.heap.size, i + 1, none⟩) (Nat.le_refl _) _).setCell (p := ⟨w.heap.size + 1, i + 1, none⟩) (by simp) _
theorem ShapeAt.drewN {w wr : World} {es : List Ent} {i : Nat} (h : ShapeAt w wr es i) (q : Nat) : ShapeAt w (wr.drewN q) es i :=
  ⟨h.ins.keep rfl, h.dirs.keep rfl, below_drewN h.bel q⟩
theorem shapeAt_start (w : World) (es : List Ent) :
    ShapeAt w ((w.alloc (Obj.cells ((madeCells #[Value.bool false] (es.length + 1)).setIfInBounds 0 (Value.bool true)) 4)).alloc (Obj.cells ((madeCells #[Value.bool false] (es.length + 1)).setIfInBounds 0 (Value.bool true)) 4)) es 0 := by
  have key : ∀ k, k < es.length + 1 → ((madeCells #[Value.bool false] (es.length + 1)).setIfInBounds 0 (Value.bool true))[k]? = some (.bool (k == 0)) := fun k hk => by
    rw [Array.getElem?_setIfInBounds]
    split
    · rename_i e; subst e; rw [if_pos (by rw [size_madeCells]; omega)]; rfl
    · rename_i e
      have : (k == 0) = false := by simp; omega
      rw [Array.getElem?_eq_getElem (by rw [size_madeCells]; exact hk), this]
      simp [madeCells, Nat.mod_one]
  refine ⟨⟨fun k hk => ?_, fun k => ?_⟩, ⟨fun k hk => ?_, fun k => ?_⟩, ?_⟩
  · rw [World.cell?_alloc_past _ _ _ (by simp), World.cell?_alloc_new]; exact key k hk
  · rw [World.frozen?_alloc_past _ _ _ (by simp)]; exact World.frozen?_alloc_new _ _ _ _
  · rw [World.cell?_alloc_at _ _ _ _ (by simp)]; exact key k hk
  · rw [World.frozen?_alloc_at _ _ _ _ (by simp)]
  · exact ((Below.refl _ _).alloc (Nat.le_refl _) _).alloc (by simp) _

set_option maxRecDepth 100000 in
set_option maxHeartbeats 4000000 in
theorem shape_any (a : Option Addr) (len cap : Nat) (es : List Ent) (b off : Nat) (w : World) (hlen : es.length = len) (hmax : len ≤ 4096) (hE : Ents w a es b off) :
    Calls Tryd.prog 16 #[.slice a len cap] w fun e w' => e = .returned (.tuple #[.slice (some ⟨w.heap.size, 0, none⟩) (len + 1) (len + 1), .slice (some ⟨w.heap.size + 1, 0, none⟩) (len + 1) (len + 1)]) ∧
      BoolRow w' w.heap.size (len + 1) (shapeTo es len).1 ∧ BoolRow w' (w.heap.size + 1) (len + 1) (shapeTo es len).2 ∧ Below w.heap.size w w' := by
  have hmk : ∀ W : World, (Instr.makeSlice 35 (.int .i64 ((len : Int) + 1)) (.int .i64 ((len : Int) + 1))).run Tryd.prog W = .ok (.slice (some ⟨W.heap.size, 0, none⟩) (len + 1) (len + 1)) (W.alloc (.cells (madeCells #[.bool false] (len + 1)) 4)) := fun W => by
    have := run_make_row' (P := Tryd.prog) 35 4 (.bool false) 1 Tryd.underlying35 info4 rfl .i64 .i64 (len + 1) (by omega) (by omega) W
    rw [show ((len + 1 : Nat) : Int) = (len : Int) + 1 from by omega] at this
    exact this
  have hm0 := made_zero (len + 1) (by omega)
  go_enter Tryd.func16, Tryd.ntmps16
  go_wp2
  have hS0 := hideIt (shapeAt_start w es)
  rw [hlen] at hS0
  go_loopw [7] (fun si wr => ∃ i : Nat, i ≤ len ∧ si = .int .i64 i ∧ ShapeAt w wr es i) (fun si _ => len - (intOf si).toNat)
  case atStart => exact ⟨0, Nat.zero_le _, rfl, hS0.out⟩
  case round =>
    clear hmk hm0 hS0
    obtain ⟨i, hi, rfl, hS⟩ := hrel
    by_cases hlt : i < len
    · have hi' : i < es.length := by omega
      have hEr := hE.later hS.bel
      obtain rfl := hE.base (by omega)
      have c0 := hEr.par i hi'
      have c1 := hEr.name i hi'
      have c2 := hEr.dir i hi'
      have hp := hE.wfp i hi'
      have hz := hE.wfn i hi'
      have hen := hideIt (ent_eq es i hi')
      generalize es[i] = ee at *
      obtain ⟨par, nm, dr⟩ := ee
      dsimp only at c0 c1 c2 hp hz hen
      have hok : Hid (okAt es (shapeTo es i).1 (shapeTo es i).2 i = (decide (0 ≤ par) && (decide (par ≤ (i : Int)) && ((shapeTo es i).1 par.toNat && ((shapeTo es i).2 par.toNat && (validName nm.data.toList && !dupTo es (shapeTo es i).1 par nm.data.toList i)))))) := by
        unfold okAt; rw [hen.out]; rfl
      by_cases hp0 : par < 0
      · have hno := hideIt (hS.no (by rw [hok.out, decide_eq_false (by omega)]; rfl))
        go_wp2
        go_roundw
        case rel => exact ⟨i + 1, by omega, by go_num, hno.out⟩
        case measure => simp [intOf]; omega
      by_cases hp1 : (i : Int) < par
      · have hno := hideIt (hS.no (by rw [hok.out, decide_eq_false (by omega : ¬ par ≤ (i : Int))]; simp))
        go_wp2
        go_roundw
        case rel => exact ⟨i + 1, by omega, by go_num, hno.out⟩
        case measure => simp [intOf]; omega
      obtain ⟨q, rfl⟩ := Int.eq_ofNat_of_zero_le (by omega : 0 ≤ par)
      have hq : q ≤ i := by omega
      rw [decide_eq_true (by omega : 0 ≤ (q : Int)), decide_eq_true (by omega : (q : Int) ≤ (i : Int)), Bool.true_and, Bool.true_and, Int.toNat_natCast] at hok
      clear hp hp0 hp1
      have r1 := hS.ins.cell q (by omega)
      have r2 := hS.dirs.cell q (by omega)
      cases hI : (shapeTo es i).1 q with
      | false =>
        rw [hI] at hok r1
        have hno := hideIt (hS.no (by rw [hok.out]; rfl))
        clear hI hok
        go_wp2
        go_roundw
        case rel => exact ⟨i + 1, by omega, by go_num, hno.out⟩
        case measure => simp [intOf]; omega
      | true =>
      rw [hI, Bool.true_and] at hok
      rw [hI] at r1
      clear hI
      cases hD : (shapeTo es i).2 q with
      | false =>
        rw [hD] at hok r2
        have hno := hideIt (hS.no (by rw [hok.out]; rfl))
        clear hD hok
        go_wp2
        go_roundw
        case rel => exact ⟨i + 1, by omega, by go_num, hno.out⟩
        case measure => simp [intOf]; omega
      | true =>
      rw [hD, Bool.true_and] at hok
      rw [hD] at r2
      clear hD
      have hV := hideIt (fun w => validName_any nm w hz)
      unfold maxLen at hz
      cases hv : validName nm.data.toList with
      | false =>
        rw [hv] at hok hV
        have hno := hideIt (hS.no (by rw [hok.out]; rfl))
        clear hv hok
        go_wp2_with (go_at_call 29; refine (hV.out _).mono ?_; rintro e w' ⟨rfl, hw⟩; subst hw)
        go_roundw
        case rel => exact ⟨i + 1, by omega, by go_num, hno.out⟩
        case measure => simp [intOf]; omega
      | true =>
      rw [hv] at hok hV
      rw [Bool.true_and] at hok
      clear hv
      go_wp2_with (go_at_call 29; refine (hV.out _).mono ?_; rintro e w' ⟨rfl, hw⟩; subst hw)
      clear hV r1 r2
      go_loopw [9, 10] (fun dp sj wx => dp = .bool false ∧ ∃ j : Nat, j ≤ i ∧ sj = .int .i64 j ∧ Hid (dupTo es (shapeTo es i).1 (q : Int) nm.data.toList j = false) ∧ ShapeAt w wx es i) (fun _ sj _ => i - (intOf sj).toNat)
      case atStart => exact ⟨rfl, 0, Nat.zero_le _, rfl, rfl, hS⟩
      case round =>
        clear hS c0 c1 c2 hEr
        obtain ⟨rfl, j, hj, rfl, hdup, hS⟩ := hrel
        have hEr := hE.later hS.bel
        by_cases hji : j < i
        · have hj' : j < es.length := by omega
          have d0 := hEr.par j hj'
          have d1 := hEr.name j hj'
          have c1 : wr.cell? ⟨b, off + i * 3 + 1, none⟩ = some (.string nm) := by
            have := hEr.name i hi'
            rw [(ent_eq es i hi').symm.trans hen.out] at this; exact this
          have r1 := hS.ins.cell (j + 1) (by omega)
          have hst : Hid (dupTo es (shapeTo es i).1 (q : Int) nm.data.toList (j + 1) = ((shapeTo es i).1 (j + 1) && (es[j].par == (q : Int) && es[j].name.data.toList == nm.data.toList))) := by
            show _ = _
            rw [dupTo, hdup.out, Bool.false_or, ent_eq es j hj']
          generalize es[j] = ej at *
          obtain ⟨pj, nj, dj⟩ := ej
          dsimp only at d0 d1 hst
          clear hdup
          cases hI : (shapeTo es i).1 (j + 1) with
          | false =>
            rw [hI, Bool.false_and] at hst
            rw [hI] at r1
            clear hI
            go_wp2
            go_quiet (fail)
            go_wp2
            go_roundw
            case rel => exact ⟨rfl, j + 1, by omega, by go_num, hst, hS.drewN nq⟩
            case measure => simp [intOf]; omega
          | true =>
          rw [hI, Bool.true_and] at hst
          rw [hI] at r1
          clear hI
          cases hP : (pj == (q : Int)) with
          | false =>
            rw [hP, Bool.false_and] at hst
            go_wp2
            go_quiet (fail)
            go_wp2
            go_roundw
            case rel => exact ⟨rfl, j + 1, by omega, by go_num, hst, hS.drewN nq⟩
            case measure => simp [intOf]; omega
          | true =>
          rw [hP, Bool.true_and] at hst
          have hT : (nj.toList == nm.toList) = (nj.data.toList == nm.data.toList) := by rw [Lib.toList_data, Lib.toList_data]
          cases hN : (nj.data.toList == nm.data.toList) with
          | false =>
            rw [hN] at hst hT
            clear hN
            go_wp2
            go_quiet (fail)
            go_wp2
            go_roundw
            case rel => exact ⟨rfl, j + 1, by omega, by go_num, hst, hS.drewN nq⟩
            case measure => simp [intOf]; omega
          | true =>
            rw [hN] at hst hT
            clear hN
            have hdp : Hid (dupTo es (shapeTo es i).1 (q : Int) nm.data.toList i = true) := dupTo_mono (by omega) hst.out
            have hno := hideIt (fun nq => (hS.drewN nq).no (by rw [hok.out, hdp.out]; rfl))
            clear hst hdp hok
            go_wp2
            go_quiet (fail)
            go_wp2
            go_roundw
            case rel => exact ⟨i + 1, by omega, by go_num, hno.out nq⟩
            case measure => simp [intOf]; omega
        · have hje : j = i := by omega
          subst hje
          have hb : b < w.heap.size := hE.lt (fun e => by simp [e] at hi')
          have c2 : wr.cell? ⟨b, off + j * 3 + 2, none⟩ = some (.bool dr) := by
            have := hEr.dir j hi'
            rw [(ent_eq es j hi').symm.trans hen.out] at this; exact this
          have s1 := hS.ins.cell (j + 1) (by omega)
          have s2 := hS.dirs.cell (j + 1) (by omega)
          have g1 := hS.ins.fro (j + 1)
          have g2 := hS.dirs.fro (j + 1)
          have hyes := hideIt (hS.yes hi' (by rw [hok.out, hdup.out]; rfl))
          rw [hen.out] at hyes
          generalize (shapeTo es j).1 (j + 1) = o1 at s1
          generalize (shapeTo es j).2 (j + 1) = o2 at s2
          clear hok hdup hEr
          go_wp2
          go_roundw
          case rel => exact ⟨j + 1, by omega, by go_num, hyes.out⟩
          case measure => simp [intOf]; omega
    · have hie : i = len := by omega
      subst hie
      go_wp2
      go_ret2
      obtain ⟨h1, h2, h3⟩ := hS
      rw [hlen] at h1 h2
      exact ⟨rfl, h1, h2, h3⟩
end Go.Proofs.Qxb6605817aDoor
