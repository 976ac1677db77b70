/-
  THE LAW FnKindOfEveryBuiltPath of seat b6605817aD, walked.
-/
import Derived.Test.Qxb6605817aDoorKind
namespace Go.Proofs.Qxb6605817aDoor
open Go.RowKit

theorem zzkind_any (x : Nat) (d : Bool) (w : World) (h : w.cell? ⟨x, 1, none⟩ = some (.bool d)) :
    Calls Tryd.prog 25 #[.pointer (some ⟨x, 0, none⟩)] w fun e w' => e = .returned (.string (word d)) ∧ w' = w := by
  have H := hideIt (kind_any x d w h)
  go_enter Tryd.func25, Tryd.ntmps25
  go_wp2_with (go_at_call 28; refine H.out.mono ?_; rintro e w' ⟨rfl, hw⟩; subst hw)
  go_ret
  exact ⟨rfl, rfl⟩

theorem kindAt_path {es : List Ent} {I D : Nat → Bool} (G : Good es I D) {n k : Nat} (hn : 2 ≤ n) (hk : k ≤ es.length) (hI : I k = true) : kindAt es I D n ((n : Int) - 1) (joinN (chain es k)) = word (D k) := by
  unfold kindAt
  rw [if_pos (by omega), if_pos ⟨rfl, hn⟩, (findP_iff G _ k).2 ⟨hk, hI, rfl⟩]
theorem kindAt_slash {es : List Ent} {I D : Nat → Bool} (G : Good es I D) {n : Nat} (hn : 2 ≤ n) (p : List UInt8) : kindAt es I D n ((n : Int) - 1) (p ++ [47]) = ⟨#[]⟩ := by
  unfold kindAt
  rw [if_pos (by omega), if_pos ⟨rfl, hn⟩, findP_slash G]
theorem kindAt_zero {es : List Ent} {I D : Nat → Bool} (G : Good es I D) {n k : Nat} (hn : 2 ≤ n) (hk : k ≤ es.length) (hI : I k = true) : kindAt es I D n 0 (joinN (chain es k)) = if k = 0 then dirS else ⟨#[]⟩ := by
  have hf := (findP_iff G _ k).2 ⟨hk, hI, rfl⟩
  have h0 := (findP_iff G [] 0).2 ⟨Nat.zero_le _, G.root, rfl⟩
  unfold kindAt
  rw [if_pos (by omega), if_neg (by omega)]
  by_cases hk0 : k = 0
  · subst hk0
    rw [if_pos rfl]
    exact if_pos rfl
  · rw [if_neg hk0, if_neg]
    intro h
    rw [h, h0] at hf
    cases hf
    exact hk0 rfl
theorem kindAt_past {es : List Ent} {I D : Nat → Bool} {n : Nat} (p : List UInt8) : kindAt es I D n n p = ⟨#[]⟩ := if_neg (by omega)
theorem kindAt_neg {es : List Ent} {I D : Nat → Bool} {n : Nat} (p : List UInt8) : kindAt es I D n (-1) p = ⟨#[]⟩ := if_neg (by omega)

set_option maxRecDepth 100000 in
set_option maxHeartbeats 32000000 in
theorem law_every (n : Int) (a : Option Addr) (len cap : Nat) (es : List Ent) (w : World) (hnw : (Lit.int .i64 n).wf = true) (hA : IsEntries w a len cap es) :
    Calls Tryd.prog 7 #[.int .i64 n, .slice a len cap] w fun e w' => e = .returned (.bool true) ∧ Below w.heap.size w w' := by
  obtain ⟨hlen, hmax, hnil, b, off, hE⟩ := hA
  have h24 := hideIt (bytes24 n a len cap es b off w hlen hmax hE)
  have h14 := hideIt (small_any a len cap ⟨#[]⟩ es b off w (by decide) hlen hmax hE)
  by_cases hn0 : n < 2
  · go_enter Tryd.func7, Tryd.ntmps7
    go_wp2_with fail
    refine h24.out.mono ?_
    rintro e w' ⟨⟨r, rfl⟩, hw⟩
    subst hw
    cases r
    all_goals
      go_wp2
      go_ret
      exact ⟨rfl, Below.refl _ _⟩
  by_cases hn1 : 65536 < n
  · go_enter Tryd.func7, Tryd.ntmps7
    go_wp2_with fail
    refine h24.out.mono ?_
    rintro e w' ⟨⟨r, rfl⟩, hw⟩
    subst hw
    cases r
    all_goals
      go_wp2
      go_ret
      exact ⟨rfl, Below.refl _ _⟩
  obtain ⟨n, rfl⟩ := Int.eq_ofNat_of_zero_le (by omega : 0 ≤ n)
  have hn1' : 2 ≤ n := by omega
  have hn2' : n ≤ 65536 := by omega
  clear hnw hn0 hn1
  go_enter Tryd.func7, Tryd.ntmps7
  go_wp2_with fail
  refine h24.out.mono ?_
  rintro e w' ⟨⟨r, rfl⟩, hw⟩
  subst hw
  cases r with
  | false =>
    go_wp2
    go_ret
    exact ⟨rfl, Below.refl _ _⟩
  | true =>
  go_wp2_with fail
  refine h14.out.mono ?_
  rintro e w0 ⟨⟨r, rfl, hr⟩, hw⟩
  subst hw
  cases r with
  | false =>
    clear hr
    go_wp2
    go_ret
    exact ⟨rfl, Below.refl _ _⟩
  | true =>
  obtain ⟨hl4, hsum⟩ := hr rfl
  have HS : Hid (32 * len + nameSum es ≤ 1048576) := by
    have : (⟨#[]⟩ : ByteArray).size = 0 := rfl
    show _ ≤ _
    omega
  clear hr hsum h14 h24
  have h15 := hideIt (clone_any a len cap es b off w0 hlen hl4 hnil hE)
  go_wp2_with fail
  refine h15.out.mono ?_
  rintro e w1 ⟨a1, c1, rfl, hE1, hb1⟩
  have h16 := hideIt (shape_any a1 len c1 es _ 0 w1 hlen hl4 hE1)
  go_wp2_with fail
  refine h16.out.mono ?_
  rintro e w2 ⟨rfl, hI2, hD2, hb2⟩
  have G : Good es (shapeTo es len).1 (shapeTo es len).2 := by rw [← hlen]; exact good_shape es
  have HB2 := hideIt (hb1.trans (hb2.mono hb1.size))
  have hE2 := hE1.later hb2
  clear hb1 hb2 hE1 hE h15 h16 hnil
  generalize (shapeTo es len).1 = I at *
  generalize (shapeTo es len).2 = D at *
  have h21 := hideIt (paths_any a1 len c1 _ es I D _ 0 w2 hlen HS.out hE2 hI2 G)
  go_wp2_with fail
  refine h21.out.mono ?_
  rintro e w3 ⟨hb3, (rfl | ⟨rfl, hP3⟩)⟩
  · have HB3 := hideIt (HB2.out.trans (hb3.mono HB2.out.size))
    clear hb3
    go_wp2
    go_ret
    exact ⟨rfl, HB3.out⟩
  · rw [hlen] at hP3
    have hE3 := hE2.later hb3
    have hI3 := hI2.keep (hb3.block _ (lt_of_heap_cell (hI2.cell 0 (by omega))))
    have hD3 := hD2.keep (hb3.block _ (lt_of_heap_cell (hD2.cell 0 (by omega))))
    have HB3 := hideIt (HB2.out.trans (hb3.mono HB2.out.size))
    have h17 := hideIt (build_any a1 len c1 _ _ ((n : Int) - 1) es I D _ 0 w3 hlen hl4 hE3 hI3 hD3 G.shape)
    clear hb3 hE2 hI2 hD2 HB2 h21 hE3
    rw [hlen]
    go_wp2_with fail
    refine h17.out.mono ?_
    rintro e w4 ⟨rfl, hB4⟩
    rw [← hlen] at hB4
    have hT4 := hB4.tree
    have hI4 := hI3.keep (hB4.bel.block _ (lt_of_heap_cell (hI3.cell 0 (by omega))))
    have hD4 := hD3.keep (hB4.bel.block _ (lt_of_heap_cell (hD3.cell 0 (by omega))))
    have hP4 := hP3.keep (hB4.bel.block _ (by obtain ⟨s, _, hc⟩ := hP3.cell 0 (by omega); exact lt_of_heap_cell hc))
    have HB4 := hideIt (HB3.out.trans (hB4.bel.mono HB3.out.size))
    have c0 : w4.cell? ⟨w3.heap.size, 0, none⟩ = some (.pointer (some ⟨xOf w3.heap.size I 0, 0, none⟩)) := by
      rw [hT4.row 0 (by omega)]; simp [ndOf, G.root, optPtr, ptr]
    have h8 := hideIt (repo_any n w3.heap.size (len + 1) (len + 1) (xOf w3.heap.size I 0) w4 (by omega) hn2' (by omega) (lt_of_heap_cell c0) c0)
    generalize w3.heap.size = N at *
    generalize w2.heap.size + 1 = pb at *
    generalize w1.heap.size = ib at *
    clear hB4 hI3 hP3 hD3 HB3 h17 c0
    go_wp2_with fail
    refine h8.out.mono ?_
    rintro e w5 ⟨rb, rfl, hR5, hb5⟩
    have hT5 := hT4.later hb5
    have hI5 := hI4.keep (hb5.block _ (lt_of_heap_cell (hI4.cell 0 (by omega))))
    have hD5 := hD4.keep (hb5.block _ (lt_of_heap_cell (hD4.cell 0 (by omega))))
    have hP5 := hP4.keep (hb5.block _ (by obtain ⟨s, _, hc⟩ := hP4.cell 0 (by omega); exact lt_of_heap_cell hc))
    have HB5 := hideIt (HB4.out.trans (hb5.mono HB4.out.size))
    have H11 := hideIt (fun (rev : Int) (p : ByteArray) (hp : p.size ≤ maxLen) (W : World) (hW : Below w5.heap.size w5 W) => kind_rev N _ rb n rev p W es I D hn2' (hR5.later hW) (hT5.later hW) G hp)
    clear hb5 hT4 hI4 hD4 hP4 HB4 h8 hR5
    unfold ptr at *
    go_wp2
    go_loopw [11] (fun si wr => ∃ k : Nat, k ≤ len + 1 ∧ si = .int .i64 k ∧ Below w5.heap.size w5 wr) (fun si _ => len + 1 - (intOf si).toNat)
    case atStart => exact ⟨0, Nat.zero_le _, rfl, Below.refl _ _⟩
    case round =>
      obtain ⟨k, hk, rfl, hb⟩ := hrel
      by_cases hlt : k < len + 1
      · have hT := hT5.later hb
        have r1 := (hI5.keep (hb.block _ (lt_of_heap_cell (hI5.cell 0 (by omega))))).cell k hlt
        have d1 := (hD5.keep (hb.block _ (lt_of_heap_cell (hD5.cell 0 (by omega))))).cell k hlt
        obtain ⟨s, hs, p0⟩ := hP5.cell k hlt
        cases hIk : I k with
        | false =>
          rw [hIk] at r1
          clear hIk hs hT p0 d1
          go_wp2
          go_roundw
          case rel => exact ⟨k + 1, by omega, by go_num, hb⟩
          case measure => simp [intOf]; omega
        | true =>
        rw [hIk] at r1
        have hsz : s.size ≤ 1048576 := by
          have h1 := pathL_len G (i := len) (show k ≤ es.length by omega)
          rw [← hs] at h1
          have h2 : s.data.toList.length = s.size := by simp
          have h3 := HS.out
          omega
        have hke : k ≤ es.length := by omega
        have hs' : s.data.toList = joinN (chain es k) := by rw [hs]; unfold pathL; rw [if_pos ⟨by omega, hIk⟩]
        have n0 := hT5.row k (by omega)
        rw [show ndOf N I k = some (xOf N I k) by simp [ndOf, hIk]] at n0
        have n0' : w5.cell? ⟨N, k, none⟩ = some (.pointer (some ⟨xOf N I k, 0, none⟩)) := n0
        have f0 := hT5.flag k hke hIk
        have K1 := H11.out ((n : Int) - 1) s (by unfold maxLen; omega)
        rw [hs', kindAt_path G hn1' hke hIk] at K1
        have K2 := H11.out ((n : Int) - 1) (s ++ ⟨#[47]⟩) (by rw [ByteArray.size_append]; show s.size + 1 ≤ _; unfold maxLen; omega)
        rw [show (s ++ ⟨#[47]⟩ : ByteArray).data.toList = s.data.toList ++ [47] by simp, kindAt_slash G hn1'] at K2
        have K3 := H11.out 0 s (by unfold maxLen; omega)
        rw [hs', kindAt_zero G hn1' hke hIk] at K3
        have K4 := H11.out n s (by unfold maxLen; omega)
        rw [kindAt_past] at K4
        have K5 := H11.out (-1) s (by unfold maxLen; omega)
        rw [kindAt_neg] at K5
        have K1 := hideIt K1
        have K2 := hideIt K2
        have K4 := hideIt K4
        have K5 := hideIt K5
        have HZ := hideIt (fun (W : World) (hW : Below w5.heap.size w5 W) => zzkind_any (xOf N I k) (D k) W ((hW.cell (p := ⟨xOf N I k, 1, none⟩) (lt_of_heap_cell f0)).trans f0))
        have HN := hideIt (fun (W : World) (hW : Below w5.heap.size w5 W) => (hW.cell (p := ⟨N, k, none⟩) (lt_of_heap_cell n0')).trans n0')
        have HP := hideIt (fun (W : World) (hW : Below w5.heap.size w5 W) => (hW.cell (p := ⟨pb, k, none⟩) (lt_of_heap_cell p0)).trans p0)
        have h23 := hideIt (word_any (D k) wr)
        have p1 := HP.out wr hb
        have hkk : ∃ o : ByteArray, Hid (∀ W, Below w5.heap.size w5 W → Calls Tryd.prog 11 #[.pointer (some ⟨rb, 0, none⟩), .int .i64 0, .string s] W fun e w' => e = .returned (.string o) ∧ Below W.heap.size W w') ∧ ((k = 0 ∧ o = dirS) ∨ (k ≠ 0 ∧ o = ⟨#[]⟩)) := by
          by_cases hk0 : k = 0
          · rw [if_pos hk0] at K3
            exact ⟨_, K3, .inl ⟨hk0, rfl⟩⟩
          · rw [if_neg hk0] at K3
            exact ⟨_, K3, .inr ⟨hk0, rfl⟩⟩
        clear K3 H11 hs hs' n0 f0 p0 n0' hIk hT
        obtain ⟨o, K3, hko⟩ := hkk
        go_wp2_with fail
        refine h23.out.mono ?_
        rintro e w' ⟨rfl, hw⟩
        subst hw
        go_wp2_with fail
        refine (K1.out _ hb).mono ?_
        rintro e w6 ⟨rfl, hb6⟩
        have B6 := hb.trans (hb6.mono hb.size)
        have p6 := HP.out _ B6
        have n6 := HN.out _ B6
        clear hb6
        go_wp2_with fail
        refine (HZ.out _ B6).mono ?_
        rintro e w' ⟨rfl, hw⟩
        subst hw
        go_wp2_with fail
        refine (K2.out _ B6).mono ?_
        rintro e w7 ⟨rfl, hb7⟩
        have B7 := B6.trans (hb7.mono B6.size)
        have p7 := HP.out _ B7
        clear hb7 p6 n6
        rcases hko with ⟨hk0, rfl⟩ | ⟨hk0, rfl⟩
        · subst hk0
          unfold dirS at K3
          go_wp2_with fail
          refine (K3.out _ B7).mono ?_
          rintro e w8 ⟨rfl, hb8⟩
          have B8 := B7.trans (hb8.mono B7.size)
          have p8 := HP.out _ B8
          clear hb8 p7
          go_wp2_with fail
          refine (K4.out _ B8).mono ?_
          rintro e w9 ⟨rfl, hb9⟩
          have B9 := B8.trans (hb9.mono B8.size)
          have p9 := HP.out _ B9
          clear hb9 p8
          go_wp2_with fail
          refine (K5.out _ B9).mono ?_
          rintro e w10 ⟨rfl, hb10⟩
          have B10 := B9.trans (hb10.mono B9.size)
          clear hb10 p9
          go_wp2
          go_roundw
          case rel => exact ⟨1, by omega, by go_num, B10⟩
          case measure => simp [intOf]
        · have hkz : ((k : Int) == 0) = false := by simp; exact hk0
          go_wp2_with fail
          refine (K3.out _ B7).mono ?_
          rintro e w8 ⟨rfl, hb8⟩
          have B8 := B7.trans (hb8.mono B7.size)
          have p8 := HP.out _ B8
          clear hb8 p7
          go_wp2_with fail
          refine (K4.out _ B8).mono ?_
          rintro e w9 ⟨rfl, hb9⟩
          have B9 := B8.trans (hb9.mono B8.size)
          have p9 := HP.out _ B9
          clear hb9 p8
          go_wp2_with fail
          refine (K5.out _ B9).mono ?_
          rintro e w10 ⟨rfl, hb10⟩
          have B10 := B9.trans (hb10.mono B9.size)
          clear hb10 p9
          go_wp2
          go_roundw
          case rel => exact ⟨k + 1, by omega, by go_num, B10⟩
          case measure => simp [intOf]; omega
      · go_wp2
        go_ret
        exact ⟨rfl, HB5.out.trans (hb.mono HB5.out.size)⟩
end Go.Proofs.Qxb6605817aDoor
