/-
  THE LAW FnFindAgreesWithPathTable of seat b6605817aD, walked.
-/
import Derived.Test.Qxb6605817aDoorRound
import Derived.Test.Qxb6605817aDoorSpells
namespace Go.Proofs.Qxb6605817aDoor
open Go.RowKit

theorem zzfind_tree (N : Nat) (p : ByteArray) (w : World) (es : List Ent) (I D : Nat → Bool) (hT : TreeIn N w es I D) (G : Good es I D) (hp : p.size ≤ maxLen) :
    Calls Tryd.prog 18 #[ptr (xOf N I 0), .string p] w fun e w' => e = .returned (optPtr ((findP es I D p.data.toList).map (xOf N I))) ∧ Below w.heap.size w w' :=
  zzfind_of (find_tree N p w es I D hT G hp)

set_option maxRecDepth 100000 in
set_option maxHeartbeats 4000000 in
theorem law_table (a : Option Addr) (len cap : Nat) (es : List Ent) (p : ByteArray) (w : World) (hA : IsEntries w a len cap es) (hp : p.size ≤ maxLen) :
    Calls Tryd.prog 4 #[.slice a len cap, .string p] w fun e w' => e = .returned (.bool true) ∧ Below w.heap.size w w' := by
  obtain ⟨hlen, hmax, hnil, b, off, hE⟩ := hA
  have h13 := hideIt (bytes13 p a len cap es b off w hp hlen hmax hE)
  have h14 := hideIt (small_any a len cap p es b off w hp hlen hmax hE)
  go_enter Tryd.func4, Tryd.ntmps4
  go_wp2_with fail
  refine h13.out.mono ?_
  rintro e w' ⟨⟨r, rfl⟩, hw⟩
  subst hw
  cases r with
  | false =>
    go_wp2
    go_ret
    exact ⟨rfl, Below.refl _ _⟩
  | true =>
  go_wp2_with fail
  refine h14.out.mono ?_
  rintro e w0 ⟨⟨r, rfl, hr⟩, hw⟩
  subst hw
  cases r with
  | false =>
    clear hr
    go_wp2
    go_ret
    exact ⟨rfl, Below.refl _ _⟩
  | true =>
  obtain ⟨hl4, hsum⟩ := hr rfl
  have HS : Hid (32 * len + nameSum es ≤ 1048576) := by show _ ≤ _; omega
  have HP : Hid (p.size ≤ 1048576) := by show _ ≤ _; omega
  clear hr hsum h14 h13
  have h15 := hideIt (clone_any a len cap es b off w0 hlen hl4 hnil hE)
  go_wp2_with fail
  refine h15.out.mono ?_
  rintro e w1 ⟨a1, c1, rfl, hE1, hb1⟩
  have h16 := hideIt (shape_any a1 len c1 es _ 0 w1 hlen hl4 hE1)
  go_wp2_with fail
  refine h16.out.mono ?_
  rintro e w2 ⟨rfl, hI2, hD2, hb2⟩
  have G : Good es (shapeTo es len).1 (shapeTo es len).2 := by rw [← hlen]; exact good_shape es
  have HB2 := hideIt (hb1.trans (hb2.mono hb1.size))
  have hE2 := hE1.later hb2
  clear hb1 hb2 hE1 hE h15 h16 hnil
  generalize (shapeTo es len).1 = I at *
  generalize (shapeTo es len).2 = D at *
  have h17 := hideIt (build_any a1 len c1 _ _ 0 es I D _ 0 w2 hlen hl4 hE2 hI2 hD2 G.shape)
  go_wp2_with fail
  refine h17.out.mono ?_
  rintro e w3 ⟨rfl, hB3⟩
  rw [← hlen] at hB3
  have hT3 := hB3.tree
  have hE3 := hE2.later hB3.bel
  have hI3 := hI2.keep (hB3.bel.block _ (lt_of_heap_cell (hI2.cell 0 (by omega))))
  have HB3 := hideIt (HB2.out.trans (hB3.bel.mono HB2.out.size))
  have c0 : w3.cell? ⟨w2.heap.size, 0, none⟩ = some (.pointer (some ⟨xOf w2.heap.size I 0, 0, none⟩)) := by
    rw [hT3.row 0 (by omega)]; simp [ndOf, G.root, optPtr, ptr]
  have h18 := hideIt (zzfind_tree w2.heap.size p w3 es I D hT3 G hp)
  unfold ptr at h18
  generalize w2.heap.size = N at *
  clear hB3 hE2 hI2 hD2 HB2 h17
  go_wp2_with fail
  refine h18.out.mono ?_
  rintro e w4 ⟨rfl, hb4⟩
  have hT4 := hT3.later hb4
  have hE4 := hE3.later hb4
  have hI4 := hI3.keep (hb4.block _ (lt_of_heap_cell (hI3.cell 0 (by omega))))
  have HB4 := hideIt (HB3.out.trans (hb4.mono HB3.out.size))
  have h19 := hideIt (which_any a1 len c1 _ p es I D _ 0 w4 hlen HS.out HP.out hE4 hI4 G)
  clear hb4 hE3 hI3 HB3 h18 hT3 hE4 hI4 c0
  cases hf : findP es I D p.data.toList with
  | none =>
    rw [hf] at h19
    clear hf
    unfold numOf at h19
    show _
    simp only [Option.map_none, optPtr]
    go_wp2_with fail
    refine h19.out.mono ?_
    rintro e w5 ⟨rfl, hw5⟩
    subst hw5
    go_wp2
    go_ret
    exact ⟨rfl, HB4.out⟩
  | some k =>
    rw [hf] at h19
    obtain ⟨hk, hIk, _⟩ := (findP_iff G _ k).1 hf
    have n1 := hT4.row k (by omega)
    rw [show ndOf N I k = some (xOf N I k) by simp [ndOf, hIk]] at n1
    unfold optPtr ptr at n1
    clear hf hIk
    unfold numOf at h19
    simp only [Option.map_some, optPtr, ptr]
    go_wp2_with fail
    refine h19.out.mono ?_
    rintro e w5 ⟨rfl, hw5⟩
    subst hw5
    have heq := eq_same (xOf N I k)
    have hklt : (k : Int) < (len : Int) + 1 := by omega
    go_wp2
    go_ret
    exact ⟨rfl, HB4.out⟩
end Go.Proofs.Qxb6605817aDoor
