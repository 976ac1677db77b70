/-
  A directory's map of kids: what a look-up and a store do; ZZaddKid.
-/
import Derived.Test.Qxb6605817aDoorFind
import Derived.Maps.OwnSet
import Derived.Maps.Views
namespace Go.Proofs.Qxb6605817aDoor
open Go.RowKit Go.Maps
open Go.WideMaps Go.WideElems

/-- How a kid's pointer is read: by its block's number; nil as -1. -/
def pElem : Value → Option (DataW Unit × List MemPlace)
  | .pointer none => some (.lit (.int .i64 (-1)), [])
  | .pointer (some ⟨b, 0, none⟩) => some (.lit (.int .i64 (b : Int)), [])
  | _ => none
def kidLit : Option Nat → DataW Unit
  | none => .lit (.int .i64 (-1))
  | some c => .lit (.int .i64 (c : Int))

theorem pElem_opt (o : Option Nat) : pElem (optPtr o) = some (kidLit o, []) := by cases o <;> rfl
theorem pElem_inv {v : Value} {o : Option Nat} {ps : List MemPlace} (h : pElem v = some (kidLit o, ps)) : v = optPtr o := by
  unfold pElem at h
  split at h
  · cases o with
    | none => rfl
    | some c =>
      simp [kidLit] at h
  · cases o with
    | none =>
      simp [kidLit] at h
    | some c =>
      simp [kidLit] at h
      have e := Int.ofNat.inj h.1
      rw [e]; rfl
  · cases h

/-- Block mb is a map of at most n entries: at name s the kid 'f s'. -/
def MapIs (w : World) (mb n : Nat) (f : List UInt8 → Option Nat) : Prop :=
  ∃ D : DataW Unit, w.ownsMap Tryd.prog 9 pElem mb n D ∧ IsMap D ∧ ∀ s : List UInt8, D.atKey (.string s) (kidLit none) = kidLit (f s)

theorem keys9 : Keyed Tryd.prog 9 := string_keyed Tryd.underlying9

theorem MapIs.made (w : World) : MapIs (w.alloc (.map #[] 0)) w.heap.size 0 (fun _ => none) :=
  ⟨.map [], World.ownsMap_made _ _ _ _, isMap_empty, fun _ => rfl⟩
theorem MapIs.keep {w w' : World} {mb n : Nat} {f : List UInt8 → Option Nat} (h : MapIs w mb n f) (hk : w'.heap[mb]? = w.heap[mb]?) : MapIs w' mb n f := by
  obtain ⟨D, ⟨es, clock, hb, hF, hs, hD⟩, h2, h3⟩ := h
  exact ⟨D, ⟨es, clock, hk.trans hb, hF, hs, hD⟩, h2, h3⟩
theorem MapIs.mono {w : World} {mb n n' : Nat} {f : List UInt8 → Option Nat} (h : MapIs w mb n f) (hn : n ≤ n') : MapIs w mb n' f := by
  obtain ⟨D, h1, h2, h3⟩ := h
  exact ⟨D, h1.mono hn, h2, h3⟩
theorem MapIs.lt {w : World} {mb n : Nat} {f : List UInt8 → Option Nat} (h : MapIs w mb n f) : mb < w.heap.size := by
  obtain ⟨D, h1, _⟩ := h
  exact h1.lt

theorem MapIs.look {w : World} {mb n : Nat} {f : List UInt8 → Option Nat} (h : MapIs w mb n f) (s : ByteArray) (hs : s.size ≤ maxLen) :
    (Instr.lookup 50 (.map (some mb)) (.string s) false).run Tryd.prog w = .ok (optPtr (f s.data.toList)) w := by
  obtain ⟨D, h1, h2, h3⟩ := h
  have hz : (zeroValue 24).run Tryd.prog w = .ok (.pointer none) w := Tryd.zeroValue24 w
  obtain ⟨v, ps, hrun, hv⟩ := h1.lookup keys9 Tryd.underlying50 hz (zd := kidLit none) (zp := []) rfl (keyOf_string_mk Tryd.underlying9 hs)
  rw [h3] at hv
  rw [hrun, pElem_inv hv]

/-- w' is w but for block mb. -/
structure TurnedAt (w w' : World) (mb : Nat) : Prop where
  size : w'.heap.size = w.heap.size
  block : ∀ b, b ≠ mb → w'.heap[b]? = w.heap[b]?
  os : w'.os = w.os
  tape : w'.tape = w.tape
  output : w'.output = w.output

theorem TurnedAt.below {w w' a : World} {mb B : Nat} (h : TurnedAt w w' mb) (hb : Below B a w) (hB : B ≤ mb) : Below B a w' :=
  hb.trans ⟨h.os, h.tape, h.output, by rw [h.size]; exact Nat.le_refl _, fun k hk => h.block k (by omega)⟩

theorem MapIs.store {w : World} {mb n : Nat} {f : List UInt8 → Option Nat} (h : MapIs w mb n f) (s : ByteArray) (hs : s.size ≤ maxLen) (hn : n < maxLen) (c : Nat) :
    ∃ w', (Instr.mapUpdate 50 (.map (some mb)) (.string s) (ptr c)).run Tryd.prog w = .ok () w' ∧ MapIs w' mb (n + 1) (fun t => if t = s.data.toList then some c else f t) ∧ TurnedAt w w' mb := by
  obtain ⟨D, h1, h2, h3⟩ := h
  obtain ⟨w', hrun, hown, hturn⟩ := h1.store keys9 Tryd.underlying50 hn (keyOf_string_mk Tryd.underlying9 hs) (pElem_opt (some c))
  refine ⟨w', hrun, ⟨_, hown, h2.put _ _, fun t => ?_⟩, ?_⟩
  · by_cases e : t = s.data.toList
    · subst e
      dsimp only
      rw [if_pos rfl]
      exact atKey_put_same h2 (show WideAt.IsKeyLit (.string s.data.toList) from trivial) _ _
    · dsimp only
      rw [if_neg e, atKey_put_other (fun e' => e (by cases e'; rfl))]
      exact h3 t
  · obtain ⟨es, clock, es', clock', hb, rfl⟩ := hturn
    exact ⟨by simp [ChangeMaps.setBlock], fun b hne => ChangeMaps.heap_setBlock_other hb _ hne, rfl, rfl, rfl⟩

set_option maxHeartbeats 400000 in
theorem addKid_any (x mb n c : Nat) (f : List UInt8 → Option Nat) (s : ByteArray) (w : World) (hc : w.cell? ⟨x, 2, none⟩ = some (.map (some mb))) (hM : MapIs w mb n f) (hs : s.size ≤ maxLen) (hn : n < maxLen) :
    Calls Tryd.prog 31 #[ptr x, .string s, ptr c] w fun e w' => e = .returned (.tuple #[]) ∧ MapIs w' mb (n + 1) (fun t => if t = s.data.toList then some c else f t) ∧ TurnedAt w w' mb := by
  obtain ⟨w', hrun, h1, h2⟩ := hM.store s hs hn c
  have H := hideIt (And.intro h1 h2)
  unfold ptr at *
  clear h1 h2 hM
  go_enter Tryd.func31, Tryd.ntmps31
  go_wp2
  go_end0
  exact ⟨rfl, H.out⟩
end Go.Proofs.Qxb6605817aDoor
