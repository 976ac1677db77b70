/-
  THE WALKS of seat b6605817aD: (*Repo).Kind at whatever path, over the law's repository.
-/
import Derived.Test.Qxb6605817aDoorTable
namespace Go.Proofs.Qxb6605817aDoor
open Go.RowKit

/-- What Kind answers, over a repository whose last revision (from two on) holds the built tree. -/
def kindAt (es : List Ent) (I D : Nat → Bool) (n : Nat) (rev : Int) (p : List UInt8) : ByteArray :=
  if 0 ≤ rev ∧ rev < n then
    (if rev = (n : Int) - 1 ∧ 2 ≤ n then (match findP es I D p with | none => ⟨#[]⟩ | some k => word (D k)) else if p = [] then dirS else ⟨#[]⟩)
  else ⟨#[]⟩

theorem IsRepo.later {B : Nat} {w w' : World} {rb n root : Nat} (h : IsRepo B w rb n root) (hb : Below w.heap.size w w') : IsRepo B w' rb n root := by
  obtain ⟨g, c, ps, h1, h2, h3, h4⟩ := h
  refine ⟨g, c, ps, h1, (hb.cell (p := ⟨rb, 0, none⟩) (lt_of_heap_cell h2)).trans h2, fun i h => (hb.cell (p := ⟨g, i, none⟩) (lt_of_heap_cell (h3 i h))).trans (h3 i h), fun i h => ?_⟩
  have := h4 i h
  split
  · rename_i hc; rw [if_pos hc] at this; exact this
  · rename_i hc; rw [if_neg hc] at this
    obtain ⟨h0, r, m, hm, hx, hmm⟩ := this
    exact ⟨h0, r, m, hm, (hb.block _ (lt_of_heap hx)).trans hx, (hb.block _ (lt_of_heap hmm)).trans hmm⟩

/-- What find answers at revision i's root. -/
theorem find_rev {N B : Nat} {w : World} {es : List Ent} {I D : Nat → Bool} {n : Nat} (hT : TreeIn N w es I D) (G : Good es I D) {ps : List Nat} (hl : ps.length = n)
    (hk : ∀ i (h : i < ps.length), if i + 1 = n ∧ 2 ≤ n then ps[i] = xOf N I 0 else EmptyDir B w ps[i]) (p : ByteArray) (hp : p.size ≤ maxLen) (i : Nat) (hi : i < ps.length) :
    ∃ (o : Option Nat) (d : Bool), Calls Tryd.prog 27 #[ptr ps[i], .string p] w (fun e w' => e = .returned (optPtr o) ∧ Below w.heap.size w w') ∧ (∀ x, o = some x → w.cell? ⟨x, 1, none⟩ = some (.bool d)) ∧
      (match o with | none => (⟨#[]⟩ : ByteArray) | some _ => word d) = kindAt es I D n (i : Int) p.data.toList := by
  have hin : 0 ≤ (i : Int) ∧ (i : Int) < n := by omega
  have := hk i hi
  by_cases hc : i + 1 = n ∧ 2 ≤ n
  · rw [if_pos hc] at this
    rw [this]
    have hc' : (i : Int) = (n : Int) - 1 ∧ 2 ≤ n := by omega
    cases hf : findP es I D p.data.toList with
    | none =>
      have hF := find_tree N p w es I D hT G hp
      rw [hf] at hF
      exact ⟨none, false, hF, fun x h => (by cases h), by unfold kindAt; rw [if_pos hin, if_pos hc', hf]⟩
    | some k =>
      have hF := find_tree N p w es I D hT G hp
      rw [hf] at hF
      obtain ⟨hk', hIk, _⟩ := (findP_iff G _ k).1 hf
      refine ⟨some (xOf N I k), D k, hF, fun x h => ?_, by unfold kindAt; rw [if_pos hin, if_pos hc', hf]⟩
      cases h
      exact hT.flag k hk' hIk
  · rw [if_neg hc] at this
    have hc' : ¬ ((i : Int) = (n : Int) - 1 ∧ 2 ≤ n) := by omega
    have hF := find_empty B ps[i] p w this hp
    by_cases h0 : p.data.toList = []
    · rw [if_pos h0] at hF
      refine ⟨some ps[i], true, hF, fun x h => ?_, by unfold kindAt; rw [if_pos hin, if_neg hc', if_pos h0]; rfl⟩
      cases h
      obtain ⟨_, r, m, _, hx, _⟩ := this
      simp [World.cell?, hx, dirCells]
    · rw [if_neg h0] at hF
      exact ⟨none, false, hF, fun x h => (by cases h), by unfold kindAt; rw [if_pos hin, if_neg hc', if_neg h0]⟩

set_option maxHeartbeats 1000000 in
theorem kind_rev (N B rb n : Nat) (rev : Int) (p : ByteArray) (w : World) (es : List Ent) (I D : Nat → Bool) (hn : n ≤ 65536) (hR : IsRepo B w rb n (xOf N I 0)) (hT : TreeIn N w es I D) (G : Good es I D) (hp : p.size ≤ maxLen) :
    Calls Tryd.prog 11 #[ptr rb, .int .i64 rev, .string p] w fun e w' => e = .returned (.string (kindAt es I D n rev p.data.toList)) ∧ Below w.heap.size w w' := by
  obtain ⟨g, c, ps, hl, hc, hps, hk⟩ := hR
  by_cases h0 : rev < 0
  · have hv : Hid (kindAt es I D n rev p.data.toList = ⟨#[]⟩) := if_neg (by omega)
    rw [hv.out]
    clear hv
    unfold ptr
    go_enter Tryd.func11, Tryd.ntmps11
    go_wp2
    go_ret
    exact ⟨rfl, Below.refl _ _⟩
  · have hy := hideIt (youngest_any rb g n c w (by omega) hc)
    by_cases h1 : (n : Int) ≤ rev
    · have hv : Hid (kindAt es I D n rev p.data.toList = ⟨#[]⟩) := if_neg (by omega)
      rw [hv.out]
      clear hv
      unfold ptr
      go_enter Tryd.func11, Tryd.ntmps11
      go_wp2_with (go_at_call 10; refine hy.out.mono ?_; rintro e w' ⟨rfl, hw⟩; subst hw)
      go_ret
      exact ⟨rfl, Below.refl _ _⟩
    · obtain ⟨i, rfl⟩ := Int.eq_ofNat_of_zero_le (by omega : 0 ≤ rev)
      have hi : i < ps.length := by omega
      have hci := hps i hi
      obtain ⟨o, d, hF, hfl, hv⟩ := find_rev hT G hl hk p hp i hi
      have HF := hideIt hF
      have HV := hideIt hv
      rw [← hv]
      clear hF hv hps hk
      generalize ps[i] = x at *
      unfold ptr at *
      cases o with
      | none =>
        clear HV hfl
        unfold optPtr at HF
        go_enter Tryd.func11, Tryd.ntmps11
        go_wp2_with (go_at_call 10; refine hy.out.mono ?_; rintro e w' ⟨rfl, hw⟩; subst hw)
        refine HF.out.mono ?_
        rintro e w1 ⟨rfl, hb⟩
        go_wp2
        go_ret
        exact ⟨rfl, hb⟩
      | some y =>
        have hd := hfl y rfl
        have hlt := lt_of_heap_cell hd
        clear HV hfl
        unfold optPtr ptr at HF
        go_enter Tryd.func11, Tryd.ntmps11
        go_wp2_with (go_at_call 10; refine hy.out.mono ?_; rintro e w' ⟨rfl, hw⟩; subst hw)
        refine HF.out.mono ?_
        rintro e w1 ⟨rfl, hb⟩
        have hd1 := (hb.cell (p := ⟨y, 1, none⟩) hlt).trans hd
        have h28 := hideIt (kind_any y d w1 hd1)
        unfold ptr at h28
        go_wp2_with fail
        refine h28.out.mono ?_
        rintro e w' ⟨rfl, hw⟩
        subst hw
        go_wp2
        go_ret
        exact ⟨rfl, hb⟩
end Go.Proofs.Qxb6605817aDoor
