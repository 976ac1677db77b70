/-
  find over the tree that zzBuildRb1 has made: it finds the node whose chain of names the path spells.
-/
import Derived.Test.Qxb6605817aDoorBuild
import Derived.Test.Qxb6605817aDoorPlain
import Derived.Test.Qxb6605817aDoorW3
namespace Go.Proofs.Qxb6605817aDoor
open Go.RowKit Go.Lib Go.Maps Go.MapKept

theorem Good.shape {es : List Ent} {I D : Nat → Bool} (G : Good es I D) : GoodShape es I D := ⟨G.root, G.rootD, G.up⟩

theorem kids_idx (N : Nat) (es : List Ent) (I : Nat → Bool) (k : Nat) : ∀ i s, kidsTo N es I k i s = (kidIdx es I k i s).map (xOf N I)
  | 0, _ => rfl
  | i + 1, s => by
    rw [kidsTo, kidIdx]
    split
    · rfl
    · exact kids_idx N es I k i s

theorem look_nilMap (s : ByteArray) (hs : s.size ≤ maxLen) (W : World) : (Instr.lookup 50 (.map none) (.string s) false).run Tryd.prog W = .ok (.pointer none) W :=
  look_nil false keys9 Tryd.underlying50 (Tryd.zeroValue24 W) (WideMaps.keyOf_string_mk Tryd.underlying9 hs)

/-- A built tree: what later worlds keep of 'BuildAt'. -/
structure TreeIn (N : Nat) (w : World) (es : List Ent) (I D : Nat → Bool) : Prop where
  row : ∀ k, k < es.length + 1 → w.cell? ⟨N, k, none⟩ = some (optPtr (ndOf N I k))
  flag : ∀ k, k ≤ es.length → I k = true → w.cell? ⟨xOf N I k, 1, none⟩ = some (.bool (D k))
  kids : ∀ k, k ≤ es.length → I k = true → w.cell? ⟨xOf N I k, 2, none⟩ = some (.map (if D k then some (mOf N I k) else none))
  maps : ∀ k, k ≤ es.length → I k = true → D k = true → MapIs w (mOf N I k) es.length (kidsTo N es I k es.length)

theorem BuildAt.tree {w wr : World} {es : List Ent} {I D : Nat → Bool} (h : BuildAt w wr es I D es.length) : TreeIn w.heap.size wr es I D :=
  ⟨fun k hk => by rw [h.row k hk, if_pos (by omega)], h.flag, h.kids, h.maps⟩

theorem TreeIn.later {N : Nat} {w w' : World} {es : List Ent} {I D : Nat → Bool} (h : TreeIn N w es I D) (hb : Below w.heap.size w w') : TreeIn N w' es I D := by
  refine ⟨fun k hk => ?_, fun k hk hI => ?_, fun k hk hI => ?_, fun k hk hI hD => ?_⟩
  · exact (hb.cell (p := ⟨N, k, none⟩) (lt_of_heap_cell (h.row k hk))).trans (h.row k hk)
  · exact (hb.cell (p := ⟨xOf N I k, 1, none⟩) (lt_of_heap_cell (h.flag k hk hI))).trans (h.flag k hk hI)
  · exact (hb.cell (p := ⟨xOf N I k, 2, none⟩) (lt_of_heap_cell (h.kids k hk hI))).trans (h.kids k hk hI)
  · exact (h.maps k hk hI hD).keep (hb.block _ (h.maps k hk hI hD).lt)

theorem kidIdx_le {es : List Ent} {I : Nat → Bool} {k i j : Nat} {s : List UInt8} (h : kidIdx es I k i s = some j) : j ≤ i ∧ I j = true := by
  obtain ⟨i', h1, rfl, h2, _⟩ := kidIdx_some h
  exact ⟨h1, h2⟩

theorem TreeIn.treeAt {N : Nat} {w : World} {es : List Ent} {I D : Nat → Bool} (h : TreeIn N w es I D) : TreeAt w (xOf N I) (fun k => k ≤ es.length ∧ I k = true) (stepIdx es I D) := by
  refine ⟨fun k ⟨hk, hI⟩ => ⟨_, h.kids k hk hI, fun s hs W hW => ?_⟩, fun k s c ⟨hk, hI⟩ hs => ?_⟩
  · unfold stepIdx
    cases hD : D k with
    | true =>
      rw [if_pos rfl, if_pos rfl]
      have := ((h.maps k hk hI hD).keep (hW.block _ (h.maps k hk hI hD).lt)).look s hs
      rw [kids_idx] at this
      exact this
    | false =>
      rw [if_neg (by simp), if_neg (by simp)]
      exact look_nilMap s hs W
  · unfold stepIdx at hs
    split at hs
    · exact kidIdx_le hs
    · cases hs

theorem names_sp (p : ByteArray) : namesOf (partsOf p) = sp p.data.toList := splitB_data ⟨#[47]⟩ 0 _ p

/-- find on a built tree. -/
theorem find_tree (N : Nat) (p : ByteArray) (w : World) (es : List Ent) (I D : Nat → Bool) (hT : TreeIn N w es I D) (G : Good es I D) (hp : p.size ≤ maxLen) :
    Calls Tryd.prog 27 #[ptr (xOf N I 0), .string p] w fun e w' => e = .returned (optPtr ((findP es I D p.data.toList).map (xOf N I))) ∧ Below w.heap.size w w' := by
  by_cases h0 : p.data.toList = []
  · have hp0 : p = ⟨#[]⟩ := by
      obtain ⟨⟨l⟩⟩ := p
      simp at h0
      rw [h0]
    subst hp0
    exact (find_root (xOf N I 0) w).mono fun e w' ⟨he, hb⟩ => ⟨he, hb⟩
  · refine (find_any 0 p w (xOf N I) _ (stepIdx es I D) hT.treeAt ⟨Nat.zero_le _, G.root⟩ hp ?_).mono fun e w' ⟨he, hb⟩ => ⟨?_, hb⟩
    · rw [Lib.toList_data]; exact List.isEmpty_eq_false_iff.2 h0
    · rw [he, names_sp]
      unfold findP
      rw [if_neg h0]

/-- find on an empty directory. -/
theorem find_empty (B x : Nat) (p : ByteArray) (w : World) (hE : EmptyDir B w x) (hp : p.size ≤ maxLen) :
    Calls Tryd.prog 27 #[ptr x, .string p] w fun e w' => e = .returned (if p.data.toList = [] then ptr x else .pointer none) ∧ Below w.heap.size w w' := by
  by_cases h0 : p.data.toList = []
  · have hp0 : p = ⟨#[]⟩ := by
      obtain ⟨⟨l⟩⟩ := p
      simp at h0
      rw [h0]
    subst hp0
    exact (find_root x w).mono fun e w' ⟨he, hb⟩ => ⟨he, hb⟩
  · obtain ⟨_, r, m, _, hx, hm⟩ := hE
    have hM : MapIs w m 0 (fun _ => none) := ⟨.map [], ⟨#[], 0, hm, ⟨by simp, stamped_empty 0, by simp⟩, Nat.le_refl _, rfl⟩, isMap_empty, fun _ => rfl⟩
    have hT : TreeAt w (fun _ => x) (fun _ => True) (fun _ _ => none) := by
      refine ⟨fun k _ => ⟨some m, by simp [World.cell?, hx, dirCells], fun s hs W hW => ?_⟩, fun _ _ _ _ _ => trivial⟩
      exact (hM.keep (hW.block _ hM.lt)).look s hs
    refine (find_any 0 p w (fun _ => x) _ _ hT trivial hp ?_).mono fun e w' ⟨he, hb⟩ => ⟨?_, hb⟩
    · rw [Lib.toList_data]; exact List.isEmpty_eq_false_iff.2 h0
    · rw [he, if_neg h0, names_sp]
      cases hs : sp p.data.toList with
      | nil => exact absurd hs (sp_ne _)
      | cons a r => rfl
end Go.Proofs.Qxb6605817aDoor
