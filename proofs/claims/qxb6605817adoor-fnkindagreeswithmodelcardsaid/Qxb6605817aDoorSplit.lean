/-
  strings.SplitSeq's iterator (strings.splitSeq$1) at sep "/": ITS CONTRACT: it hands yield the parts of s between slashes, in their order.
-/
import Derived.Test.Qxb6605817aDoorRange
import Derived.Test.Qxb6605817aDoorShelf
import Derived.Test.Qxb6605817aDoorW1
import Derived.Lib.SplitLaws
import Derived.Shelf.RegionOpen
import Derived.WalkKit
import Derived.OwnWalkIn
import Derived.TacticsInMore
import Derived.LoopNIn
import Derived.LoopIn
namespace Go.Proofs.Qxb6605817aDoor
open Go.RowKit Go.Shelf Go.Lib
attribute [local go_sem] Oper.semAt_some

/-- The parts of s between slashes. -/
def partsOf (s : ByteArray) : List ByteArray := splitB ⟨#[47]⟩ 0 (countB s ⟨#[47]⟩) s

theorem index_one (s : List UInt8) (c : UInt8) : index s [c] = indexByte s c := by
  induction s with
  | nil => rfl
  | cons b l ih =>
    rw [index, indexByte, ih]
    by_cases h : b = c
    · subst h; simp [List.isPrefixOf]
    · have h1 : ([c] : List UInt8).isPrefixOf (b :: l) = false := by simp [List.isPrefixOf, Ne.symm h]
      have h2 : (b == c) = false := by simp [h]
      simp only [h1, h2, Bool.false_eq_true, if_false]

theorem partsOf_miss (s : ByteArray) (h : indexByte s.data.toList 47 < 0) : partsOf s = [s] := by
  have hge := indexByte_ge s.data.toList 47
  have hi : indexB s ⟨#[47]⟩ = -1 := by
    show index s.data.toList [47] = -1
    rw [index_one]; omega
  unfold partsOf
  rw [countB_miss s _ hi]; rfl
theorem partsOf_hit (s : ByteArray) (i : Nat) (h : indexByte s.data.toList 47 = i) : partsOf s = s.extract 0 i :: partsOf (s.extract (i + 1) s.size) ∧ i + 1 ≤ s.size := by
  have hi : indexB s ⟨#[47]⟩ = i := by
    show index s.data.toList [47] = i
    rw [index_one]; exact h
  have hs : (⟨#[47]⟩ : ByteArray).size = 1 := rfl
  have hc := countB_hit s ⟨#[47]⟩ i (by decide) hi
  constructor
  · unfold partsOf
    rw [hc, Nat.add_comm, splitB_hit _ _ _ _ _ hi, hs]
    rfl
  · rcases indexB_cases s ⟨#[47]⟩ with h' | ⟨j, h', hr⟩
    · omega
    · rw [hs] at hr; omega

/-- What the iterator is handed: its three boxes. -/
structure SeqStart (cb sb vb : Nat) (s : ByteArray) (W : World) : Prop where
  sep : W.cell? ⟨cb, 0, none⟩ = some (.string ⟨#[47]⟩)
  str : W.cell? ⟨sb, 0, none⟩ = some (.string s)
  strF : W.frozen? ⟨sb, 0, none⟩ = false
  save : W.cell? ⟨vb, 0, none⟩ = some (.int .i64 0)

/-- What a round that goes on keeps: the three boxes. -/
def KeepBoxes (cb sb vb : Nat) (A B : World) : Prop := B.heap[cb]? = A.heap[cb]? ∧ B.heap[sb]? = A.heap[sb]? ∧ B.heap[vb]? = A.heap[vb]?

theorem SeqStart.keep {cb sb vb : Nat} {s : ByteArray} {A B : World} (h : SeqStart cb sb vb s A) (k : KeepBoxes cb sb vb A B) : SeqStart cb sb vb s B :=
  ⟨(World.cell?_of_block (a := ⟨cb, 0, none⟩) k.1).trans h.sep, (World.cell?_of_block (a := ⟨sb, 0, none⟩) k.2.1).trans h.str, (World.frozen?_of_block (a := ⟨sb, 0, none⟩) k.2.1).trans h.strF, (World.cell?_of_block (a := ⟨vb, 0, none⟩) k.2.2).trans h.save⟩

theorem SeqStart.stored {cb sb vb : Nat} {s s' : ByteArray} {A : World} (h : SeqStart cb sb vb s A) (h1 : cb ≠ sb) (h2 : vb ≠ sb) : SeqStart cb sb vb s' (A.setCell ⟨sb, 0, none⟩ (.string s')) :=
  ⟨(World.cell?_setCell_other _ _ _ _ (fun e => h1 (by cases e; rfl))).trans h.sep, World.cell?_setCell_same _ _ _ h.str, (World.frozen?_setCell _ _ _ _).trans h.strF, (World.cell?_setCell_other _ _ _ _ (fun e => h2 (by cases e; rfl))).trans h.save⟩

def restSize (sb : Nat) (W : World) : Nat := match W.cell? ⟨sb, 0, none⟩ with | some (.string s) => s.size | _ => 0
theorem restSize_eq {cb sb vb : Nat} {s : ByteArray} {W : World} (h : SeqStart cb sb vb s W) : restSize sb W = s.size := by unfold restSize; rw [h.str]

set_option maxHeartbeats 1000000 in
theorem split1_in (F : Fence) (n : Nat) (h35 : F.fn 35) (h37 : F.fn 37) (hro : F.round = none) (hn : 1 ≤ n) (l cb sb vb : Nat) (hne1 : cb ≠ sb) (hne2 : vb ≠ sb) (s0 : ByteArray) (hs0 : s0.size ≤ maxLen) (J Jx : List ByteArray → World → Prop)
    (hIdx : ∀ (s : ByteArray) (w : World), CallsIn F (n - 1) Tryd.prog 37 #[.string s, .string ⟨#[47]⟩] w fun e w' => e = .returned (.int .i64 (Lib.indexByte s.data.toList 47)) ∧ w' = w)
    (hJ : AbidesCell sb J)
    (hY : ∀ pre x W, J pre W → x.size ≤ s0.size → YieldAt F (n - 1) Tryd.prog l #[.string x] W fun e W' =>
      (e = .returned (.bool true) ∧ J (pre ++ [x]) W' ∧ KeepBoxes cb sb vb W W') ∨ (e = .returned (.bool false) ∧ Jx (pre ++ [x]) W'))
    (W : World) (hW : SeqStart cb sb vb s0 W) (h0 : J [] W) :
    CallsIn F n Tryd.prog 35 #[.func (.yield l) #[] #[], .pointer (some ⟨cb, 0, none⟩), .pointer (some ⟨sb, 0, none⟩), .pointer (some ⟨vb, 0, none⟩)] W fun e W' => (∃ v, e = .returned v) ∧
      ((∃ ys, ys = partsOf s0 ∧ J ys W') ∨ (∃ pre, pre <+: partsOf s0 ∧ Jx pre W')) := by
  unfold maxLen at hs0
  have hsep := hW.sep
  refine callsIn_of_wp Tryd.func35 rfl h35 ?_ hro
  simp only [Tryd.ntmps35, List.size_toArray, List.length_cons, List.length_nil, Nat.reduceAdd, Nat.reduceSub, Array.replicate_succ, Array.replicate_zero, List.push_toArray, List.append_toArray, List.nil_append, List.cons_append]
  gi_wp2
  gi_loopw [7] (fun _ wr => ∃ (pre : List ByteArray) (s : ByteArray), SeqStart cb sb vb s wr ∧ s.size ≤ s0.size ∧ Hid (pre ++ partsOf s = partsOf s0) ∧ J pre wr) (fun _ wr => restSize sb wr)
  case atStart => exact ⟨[], s0, hW, Nat.le_refl _, rfl, h0⟩
  case round =>
    obtain ⟨pre, s, hst, hsz, hx, hJs⟩ := hrel
    have c1 := hst.sep
    have c2 := hst.str
    have c3 := hst.save
    have f2 := hst.strF
    have HI := hideIt (hIdx s wr)
    have hge := indexByte_ge s.data.toList 47
    by_cases hlt : indexByte s.data.toList 47 < 0
    · have hp := hideIt (partsOf_miss s hlt)
      generalize indexByte s.data.toList 47 = ix at *
      obtain ⟨fn, tmps, assign, body, hy, hR⟩ := hY pre s wr hJs hsz
      have HR := hideIt hR
      clear hR
      gi_wp2_with (gi_at_call 37; refine HI.out.mono ?_; rintro e w' ⟨rfl, hw⟩; subst hw)
      refine HR.out.mono ?_
      have hfin : Hid (pre ++ [s] = partsOf s0) := by rw [← hx.out, hp.out]; rfl
      rintro e W3 (⟨rfl, hJ3, _⟩ | ⟨rfl, hJ3⟩)
      · gi_wp2
        go_end0
        exact ⟨⟨_, rfl⟩, .inl ⟨_, hfin.out, hJ3⟩⟩
      · gi_wp2
        go_end0
        exact ⟨⟨_, rfl⟩, .inr ⟨_, hfin.out ▸ List.prefix_refl _, hJ3⟩⟩
    · obtain ⟨i, hi⟩ := Int.eq_ofNat_of_zero_le (by omega : 0 ≤ indexByte s.data.toList 47)
      obtain ⟨hp, hle⟩ := partsOf_hit s i hi
      have HP := hideIt hp
      rw [hi] at HI
      clear hi hlt hge hp
      obtain ⟨fn, tmps, assign, body, hy, hR⟩ := hY pre (s.extract 0 i) wr hJs (by rw [ByteArray.size_extract]; omega)
      have HR := hideIt hR
      clear hR
      gi_wp2_with (gi_at_call 37; refine HI.out.mono ?_; rintro e w' ⟨rfl, hw⟩; subst hw)
      refine HR.out.mono ?_
      rintro e W3 (⟨rfl, hJ3, hk3⟩ | ⟨rfl, hJ3⟩)
      · have hst3 := hst.keep hk3
        have d1 := hst3.sep
        have d2 := hst3.str
        have e2 := hst3.strF
        have hst4 := hst3.stored (s' := s.extract (i + 1) s.size) hne1 hne2
        have hJ4 := hJ _ _ (.string (s.extract (i + 1) s.size)) hJ3
        have hx4 : Hid ((pre ++ [s.extract 0 i]) ++ partsOf (s.extract (i + 1) s.size) = partsOf s0) := by
          have := hx.out
          rw [HP.out] at this
          exact hideIt (by simpa using this)
        gi_wp2
        go_roundw
        case rel => exact ⟨_, _, hst4, by rw [ByteArray.size_extract]; omega, hx4, hJ4⟩
        case measure =>
          rw [restSize_eq hst4, restSize_eq hst, ByteArray.size_extract]
          omega
      · have hpre : Hid (pre ++ [s.extract 0 i] <+: partsOf s0) := by
          rw [← hx.out, HP.out]
          exact ⟨partsOf (s.extract (i + 1) s.size), by simp⟩
        gi_wp2
        refine bodyPost_ret (results_none rfl _ _ _) rfl ?_
        exact ⟨⟨_, rfl⟩, .inr ⟨_, hpre.out, hJ3⟩⟩

/-- THE ITERATOR's CONTRACT in the law's words, at the widest fence. -/
theorem split_seq (n cb sb vb : Nat) (hn : 1 ≤ n) (hne1 : cb ≠ sb) (hne2 : vb ≠ sb) (s0 : ByteArray) (hs0 : s0.size ≤ maxLen) :
    SeqCell Fence.wide n Tryd.prog 35 #[.pointer (some ⟨cb, 0, none⟩), .pointer (some ⟨sb, 0, none⟩), .pointer (some ⟨vb, 0, none⟩)] (fun x : ByteArray => #[.string x]) sb (KeepBoxes cb sb vb) (fun x => x.size ≤ s0.size) (fun ys => ys = partsOf s0) (fun pre => pre <+: partsOf s0) (SeqStart cb sb vb s0) :=
  fun l J Jx W hW hJ hY h0 => split1_in Fence.wide n trivial trivial rfl hn l cb sb vb hne1 hne2 s0 hs0 J Jx (fun s w => callsIn_wide.2 (Tryd.strings_Index_one s 47 w)) hJ hY W hW h0

set_option maxHeartbeats 400000 in
theorem splitSeq_any (s : ByteArray) (w : World) :
    Calls Tryd.prog 33 #[.string s, .string ⟨#[47]⟩] w fun e w' => e = .returned (.func (.func 35) #[] #[.pointer (some ⟨w.heap.size + 1, 0, none⟩), .pointer (some ⟨w.heap.size, 0, none⟩), .pointer (some ⟨w.heap.size + 2, 0, none⟩)]) ∧
      w' = ((w.alloc (.cells #[.string s] 9)).alloc (.cells #[.string ⟨#[47]⟩] 9)).alloc (.cells #[.int .i64 0] 3) := by
  go_enter Tryd.func33, Tryd.ntmps33
  go_wp2
  go_ret
  exact ⟨rfl, rfl⟩
end Go.Proofs.Qxb6605817aDoor
