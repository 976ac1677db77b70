/-
  THE LAW FnKindAgreesWithModel of seat b6605817aD, walked.
-/
import Derived.Test.Qxb6605817aDoorKind
namespace Go.Proofs.Qxb6605817aDoor
open Go.RowKit

set_option maxRecDepth 100000 in
set_option maxHeartbeats 4000000 in
theorem law_kind (n : Int) (a : Option Addr) (len cap : Nat) (es : List Ent) (rev : Int) (p : ByteArray) (w : World) (hnw : (Lit.int .i64 n).wf = true) (hA : IsEntries w a len cap es) (_hrw : (Lit.int .i64 rev).wf = true) (hp : p.size ≤ maxLen) :
    Calls Tryd.prog 6 #[.int .i64 n, .slice a len cap, .int .i64 rev, .string p] w fun e w' => e = .returned (.bool true) ∧ Below w.heap.size w w' := by
  obtain ⟨hlen, hmax, hnil, b, off, hE⟩ := hA
  have h22 := hideIt (bytes22 n rev p a len cap es b off w hp hlen hmax hE)
  have h14 := hideIt (small_any a len cap p es b off w hp hlen hmax hE)
  by_cases hn0 : n < 1
  · go_enter Tryd.func6, Tryd.ntmps6
    go_wp2_with fail
    refine h22.out.mono ?_
    rintro e w' ⟨⟨r, rfl⟩, hw⟩
    subst hw
    cases r
    all_goals
      go_wp2
      go_ret
      exact ⟨rfl, Below.refl _ _⟩
  by_cases hn1 : 65536 < n
  · go_enter Tryd.func6, Tryd.ntmps6
    go_wp2_with fail
    refine h22.out.mono ?_
    rintro e w' ⟨⟨r, rfl⟩, hw⟩
    subst hw
    cases r
    all_goals
      go_wp2
      go_ret
      exact ⟨rfl, Below.refl _ _⟩
  obtain ⟨n, rfl⟩ := Int.eq_ofNat_of_zero_le (by omega : 0 ≤ n)
  have hn1' : 1 ≤ n := by omega
  have hn2' : n ≤ 65536 := by omega
  clear hnw hn0 hn1
  go_enter Tryd.func6, Tryd.ntmps6
  go_wp2_with fail
  refine h22.out.mono ?_
  rintro e w' ⟨⟨r, rfl⟩, hw⟩
  subst hw
  cases r with
  | false =>
    go_wp2
    go_ret
    exact ⟨rfl, Below.refl _ _⟩
  | true =>
  go_wp2_with fail
  refine h14.out.mono ?_
  rintro e w0 ⟨⟨r, rfl, hr⟩, hw⟩
  subst hw
  cases r with
  | false =>
    clear hr
    go_wp2
    go_ret
    exact ⟨rfl, Below.refl _ _⟩
  | true =>
  obtain ⟨hl4, hsum⟩ := hr rfl
  have HS : Hid (32 * len + nameSum es ≤ 1048576) := by show _ ≤ _; omega
  have HP : Hid (p.size ≤ 1048576) := by show _ ≤ _; omega
  clear hr hsum h14 h22
  have h15 := hideIt (clone_any a len cap es b off w0 hlen hl4 hnil hE)
  go_wp2_with fail
  refine h15.out.mono ?_
  rintro e w1 ⟨a1, c1, rfl, hE1, hb1⟩
  have h16 := hideIt (shape_any a1 len c1 es _ 0 w1 hlen hl4 hE1)
  go_wp2_with fail
  refine h16.out.mono ?_
  rintro e w2 ⟨rfl, hI2, hD2, hb2⟩
  have G : Good es (shapeTo es len).1 (shapeTo es len).2 := by rw [← hlen]; exact good_shape es
  have HB2 := hideIt (hb1.trans (hb2.mono hb1.size))
  have hE2 := hE1.later hb2
  clear hb1 hb2 hE1 hE h15 h16 hnil
  generalize (shapeTo es len).1 = I at *
  generalize (shapeTo es len).2 = D at *
  have h17 := hideIt (build_any a1 len c1 _ _ ((n : Int) - 1) es I D _ 0 w2 hlen hl4 hE2 hI2 hD2 G.shape)
  go_wp2_with fail
  refine h17.out.mono ?_
  rintro e w3 ⟨rfl, hB3⟩
  rw [← hlen] at hB3
  have hT3 := hB3.tree
  have hE3 := hE2.later hB3.bel
  have hI3 := hI2.keep (hB3.bel.block _ (lt_of_heap_cell (hI2.cell 0 (by omega))))
  have hD3 := hD2.keep (hB3.bel.block _ (lt_of_heap_cell (hD2.cell 0 (by omega))))
  have HB3 := hideIt (HB2.out.trans (hB3.bel.mono HB2.out.size))
  have c0 : w3.cell? ⟨w2.heap.size, 0, none⟩ = some (.pointer (some ⟨xOf w2.heap.size I 0, 0, none⟩)) := by
    rw [hT3.row 0 (by omega)]; simp [ndOf, G.root, optPtr, ptr]
  have h8 := hideIt (repo_any n w2.heap.size (len + 1) (len + 1) (xOf w2.heap.size I 0) w3 hn1' hn2' (by omega) (lt_of_heap_cell c0) c0)
  generalize w2.heap.size = N at *
  clear hB3 hE2 hI2 hD2 HB2 h17 c0
  go_wp2_with fail
  refine h8.out.mono ?_
  rintro e w4 ⟨rb, rfl, hR4, hb4⟩
  have hT4 := hT3.later hb4
  have hE4 := hE3.later hb4
  have hI4 := hI3.keep (hb4.block _ (lt_of_heap_cell (hI3.cell 0 (by omega))))
  have hD4 := hD3.keep (hb4.block _ (lt_of_heap_cell (hD3.cell 0 (by omega))))
  have HB4 := hideIt (HB3.out.trans (hb4.mono HB3.out.size))
  have h19 := hideIt (which_any a1 len c1 _ p es I D _ 0 w4 hlen HS.out HP.out hE4 hI4 G)
  have h11 := hideIt (kind_rev N _ rb n rev p w4 es I D hn2' hR4 hT4 G hp)
  clear hb4 hE3 hI3 hD3 HB3 h8 hT3 hE4 hI4 hR4 hT4
  unfold ptr at *
  have HB5 : Hid (∀ w5, Below w4.heap.size w4 w5 → Below w0.heap.size w0 w5) := fun w5 hb => HB4.out.trans (hb.mono HB4.out.size)
  clear HB4
  by_cases hr0 : rev < 0
  · have hv : kindAt es I D n rev p.data.toList = ⟨#[]⟩ := if_neg (by omega)
    rw [hv] at h11
    clear hv h19 hD4
    go_wp2_with fail
    refine h11.out.mono ?_
    rintro e w5 ⟨rfl, hb5⟩
    go_wp2
    go_ret
    exact ⟨rfl, HB5.out w5 hb5⟩
  by_cases hr1 : (n : Int) ≤ rev
  · have hv : kindAt es I D n rev p.data.toList = ⟨#[]⟩ := if_neg (by omega)
    rw [hv] at h11
    clear hv h19 hD4
    go_wp2_with fail
    refine h11.out.mono ?_
    rintro e w5 ⟨rfl, hb5⟩
    go_wp2
    go_ret
    exact ⟨rfl, HB5.out w5 hb5⟩
  have hin : 0 ≤ rev ∧ rev < n := by omega
  by_cases hc : rev = (n : Int) - 1 ∧ 2 ≤ n
  · obtain ⟨rfl, hc2⟩ := hc
    have hq0 : (0 : Int) ≤ (n : Int) - 1 := by omega
    have hq1 : (n : Int) - 1 < n := by omega
    clear hr0 hr1
    cases hf : findP es I D p.data.toList with
    | none =>
      have hv : kindAt es I D n ((n : Int) - 1) p.data.toList = ⟨#[]⟩ := by unfold kindAt; rw [if_pos hin, if_pos ⟨rfl, hc2⟩, hf]
      rw [hv] at h11
      rw [hf] at h19
      unfold numOf at h19
      clear hv hf hD4 hin
      go_wp2_with fail
      refine h19.out.mono ?_
      rintro e w5 ⟨rfl, hw⟩
      subst hw
      go_wp2_with fail
      refine h11.out.mono ?_
      rintro e w5 ⟨rfl, hb5⟩
      go_wp2
      go_ret
      exact ⟨rfl, HB5.out w5 hb5⟩
    | some k =>
      obtain ⟨hk, hIk, _⟩ := (findP_iff G _ k).1 hf
      have hv : kindAt es I D n ((n : Int) - 1) p.data.toList = word (D k) := by unfold kindAt; rw [if_pos hin, if_pos ⟨rfl, hc2⟩, hf]
      rw [hv] at h11
      rw [hf] at h19
      unfold numOf at h19
      have hkl : k < len + 1 := by omega
      have hcell := hD4.cell k hkl
      have h23 := hideIt (word_any (D k) w4)
      clear hv hf hD4 hin hk hIk
      go_wp2_with fail
      refine h19.out.mono ?_
      rintro e w5 ⟨rfl, hw⟩
      subst hw
      go_wp2_with fail
      refine h23.out.mono ?_
      rintro e w5 ⟨rfl, hw⟩
      subst hw
      go_wp2_with fail
      refine h11.out.mono ?_
      rintro e w5 ⟨rfl, hb5⟩
      go_wp2
      go_ret
      exact ⟨rfl, HB5.out w5 hb5⟩
  · have hc1 : (rev ≠ (n : Int) - 1) ∨ (n = 1 ∧ rev = 0) := by
      by_cases h : rev = (n : Int) - 1
      · exact .inr ⟨by omega, by omega⟩
      · exact .inl h
    by_cases h0 : p.data.toList = []
    · have hv : kindAt es I D n rev p.data.toList = dirS := by unfold kindAt; rw [if_pos hin, if_neg hc, if_pos h0]
      rw [hv] at h11
      have hpe : p.toList.isEmpty = true := by rw [Lib.toList_data, h0]; rfl
      clear hv h0 hin hc hD4 h19
      rcases hc1 with hc1 | ⟨rfl, rfl⟩
      all_goals
        go_wp2_with fail
        refine h11.out.mono ?_
        rintro e w5 ⟨rfl, hb5⟩
        unfold dirS
        go_wp2
        go_ret
        exact ⟨rfl, HB5.out w5 hb5⟩
    · have hv : kindAt es I D n rev p.data.toList = ⟨#[]⟩ := by unfold kindAt; rw [if_pos hin, if_neg hc, if_neg h0]
      rw [hv] at h11
      have hpe : p.toList.isEmpty = false := by rw [Lib.toList_data]; exact List.isEmpty_eq_false_iff.2 h0
      clear hv h0 hin hc hD4 h19
      rcases hc1 with hc1 | ⟨rfl, rfl⟩
      all_goals
        go_wp2_with fail
        refine h11.out.mono ?_
        rintro e w5 ⟨rfl, hb5⟩
        go_wp2
        go_ret
        exact ⟨rfl, HB5.out w5 hb5⟩
end Go.Proofs.Qxb6605817aDoor
