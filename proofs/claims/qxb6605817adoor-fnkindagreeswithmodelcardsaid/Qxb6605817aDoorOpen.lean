/-
  A slice of entries that came in, opened.
-/
import Derived.Test.Qxb6605817aDoorRound
import Derived.ProofKit
import Derived.Deep.Slices
import Derived.ChangeSame
import Derived.OpenShut
namespace Go.Proofs.Qxb6605817aDoor
open Go.ChangeShapes Go.WideShapes Go.ChangeAt Go.RowKit Go.Deep

theorem list_of {α : Type} {Q : Nat → α → Prop} : ∀ n : Nat, (∀ i, i < n → ∃ e, Q i e) → ∃ es : List α, es.length = n ∧ ∀ i (h : i < es.length), Q i es[i]
  | 0, _ => ⟨[], rfl, fun i h => by simp at h⟩
  | n + 1, h => by
    obtain ⟨es, hl, hq⟩ := list_of n (fun i hi => h i (by omega))
    obtain ⟨e, he⟩ := h n (Nat.lt_succ_self _)
    refine ⟨es ++ [e], by simp [hl], fun i hi => ?_⟩
    by_cases hin : i < es.length
    · rw [List.getElem_append_left hin]; exact hq i hin
    · have : i = es.length := by simp at hi; omega
      subst this
      simp
      rw [hl]; exact he

theorem cells3 : Tryd.prog.cellsOf 3 = 1 := by kernel_rfl
theorem cells9 : Tryd.prog.cellsOf 9 = 1 := by kernel_rfl
theorem cells4 : Tryd.prog.cellsOf 4 = 1 := by kernel_rfl
theorem cells60 : Tryd.prog.cellsOf 60 = 3 := by kernel_rfl

theorem open_entry {H : Type} {enc : TypeId × Value → H} {W : World} {a : Addr} {i n : Nat} {cs : List Value} {y : DataW H × List MemPlace}
    (h1 : W.cells? 0 (a.add (i * 3)) 3 = some cs) (h2 : DataW.trod enc Tryd.prog W 0 (fun _ => true) true n 60 cs = some y) :
    ∃ e : Ent, (i = 0 → a.spot = none) ∧ W.cell? ⟨a.block, a.off + i * 3, none⟩ = some (.int .i64 e.par) ∧ W.cell? ⟨a.block, a.off + i * 3 + 1, none⟩ = some (.string e.name) ∧ W.cell? ⟨a.block, a.off + i * 3 + 2, none⟩ = some (.bool e.dir) ∧
      (-9223372036854775808 ≤ e.par ∧ e.par ≤ 9223372036854775807) ∧ e.name.size ≤ maxLen := by
  obtain ⟨_, hlen, hcell⟩ := World.cells?_some h1
  obtain ⟨xs, k, hk, hxy, _, hxl, hf⟩ := DataW.trod_struct Tryd.underlying60 h2
  match xs, hxl, cs, hlen with
  | [y0, y1, y2], _, [v0, v1, v2], _ =>
    have g0 : DataW.trod enc Tryd.prog W 0 (fun _ => true) true k 3 (List.take (Tryd.prog.cellsOf 3) [v0, v1, v2]) = some y0 := hf 0 _ rfl
    have g1 : DataW.trod enc Tryd.prog W 0 (fun _ => true) true k 9 (List.take (Tryd.prog.cellsOf 9) [v1, v2]) = some y1 := hf 1 _ rfl
    have g2 : DataW.trod enc Tryd.prog W 0 (fun _ => true) true k 4 (List.take (Tryd.prog.cellsOf 4) [v2]) = some y2 := hf 2 _ rfl
    rw [cells3] at g0
    rw [cells9] at g1
    rw [cells4] at g2
    obtain ⟨p, e0, _, w0⟩ := DataW.trod_int Tryd.underlying3 g0
    obtain ⟨s, e1, _, w1⟩ := DataW.trod_string Tryd.underlying9 g1
    obtain ⟨d, e2, _⟩ := DataW.trod_bool Tryd.underlying4 g2
    simp at e0 e1 e2
    subst e0 e1 e2
    have q0 := hcell 0 (by omega)
    have q1 := hcell 1 (by omega)
    have q2 := hcell 2 (by omega)
    obtain ⟨b, off, spot⟩ := a
    by_cases hi : i = 0
    · subst hi
      have hspot : spot = none := by simpa [Addr.add] using World.cell?_spot q0
      subst hspot
      exact ⟨⟨p, s, d⟩, fun _ => rfl, by simpa [Addr.add] using q0, by simpa [Addr.add] using q1, by simpa [Addr.add] using q2, bounds_i64 w0, w1⟩
    · have hi3 : ¬ i * 3 = 0 := by omega
      exact ⟨⟨p, s, d⟩, fun h => absurd h hi, by simpa [Addr.add, hi3] using q0, by simpa [Addr.add, hi3] using q1, by simpa [Addr.add, hi3] using q2, bounds_i64 w0, w1⟩

theorem open_entries {H : Type} {enc : TypeId × Value → H} {W : World} {a : Option Addr} {len cap : Nat} {d : DataW H} {p : List MemPlace} (h : DataW.Trod enc Tryd.prog W 0 (fun _ => true) true 32 (.slice a len cap) d p) : ∃ es, IsEntries W a len cap es := by
  obtain ⟨fuel, hf⟩ := h
  rcases open_slice Tryd.underlying32 hf with ⟨hcs, _⟩ | ⟨x, l, c, m, n, Dd, Pl, hcs, _, hl, hm, hmm, _, hx⟩
  · simp [Value.cells] at hcs
    obtain ⟨rfl, rfl, rfl⟩ := hcs
    exact ⟨[], rfl, Nat.zero_le _, fun _ => ⟨rfl, rfl⟩, 0, 0, ⟨fun h => by simp at h, fun i h => by simp at h, fun i h => by simp at h, fun i h => by simp at h, fun i h => by simp at h, fun i h => by simp at h⟩⟩
  · simp [Value.cells] at hcs
    obtain ⟨rfl, rfl, rfl⟩ := hcs
    have hlm : len ≤ m := by rw [hmm]; split <;> omega
    obtain ⟨es, he, hq⟩ := list_of len (fun i hi => by
      obtain ⟨cs', h1, h2⟩ := hx i (by omega)
      rw [cells60] at h1
      exact open_entry h1 h2)
    refine ⟨es, he, by omega, (fun h => by cases h), x.block, x.off, ⟨fun h0 => ?_, fun i hi => (hq i hi).2.1, fun i hi => (hq i hi).2.2.1, fun i hi => (hq i hi).2.2.2.1, fun i hi => (hq i hi).2.2.2.2.1, fun i hi => (hq i hi).2.2.2.2.2⟩⟩
    have hs := (hq 0 h0).1 rfl
    obtain ⟨b, off, spot⟩ := x
    dsimp only at hs
    subst hs
    rfl
end Go.Proofs.Qxb6605817aDoor
