/-
  THE LAW FnFindRoundTripsEveryPath of seat b6605817aD, walked.
-/
import Derived.Test.Qxb6605817aDoorPaths
import Derived.LaidEqlPtr
namespace Go.Proofs.Qxb6605817aDoor
open Go.RowKit

/-- What the laws are told of a slice of entries that came in. -/
def IsEntries (w : World) (a : Option Addr) (len cap : Nat) (es : List Ent) : Prop :=
  es.length = len ∧ len ≤ maxLen ∧ (a = none → len = 0 ∧ cap = 0) ∧ ∃ b off, Ents w a es b off

theorem eqIn_same (x d : Nat) (w : World) : (Op.equalIn (d + 1) 24 (.pointer (some ⟨x, 0, none⟩)) (.pointer (some ⟨x, 0, none⟩))).run Tryd.prog w = .ok true w := by
  obtain ⟨j, hj, _⟩ := Option.map_eq_some_iff.1 (show (Tryd.prog.info? 54).map (fun i => i.size) = some 5 by kernel_rfl)
  simp [Op.equalIn, run_underlying Tryd.underlying24, sizeOf, typeInfo, hj, run_sameAddr_same]
theorem eq_same (x : Nat) (w : World) : (binOp .eql 24 (.pointer (some ⟨x, 0, none⟩)) (.pointer (some ⟨x, 0, none⟩))).run Tryd.prog w = .ok (.bool true) w := by
  simp only [binOp]
  simp [Op.equal, Op.maxDepth, eqIn_same x 9999]
theorem neq_same (x : Nat) (w : World) : (binOp .neq 24 (.pointer (some ⟨x, 0, none⟩)) (.pointer (some ⟨x, 0, none⟩))).run Tryd.prog w = .ok (.bool false) w := by
  simp only [binOp]
  simp [Op.equal, Op.maxDepth, eqIn_same x 9999]

theorem zzfind_of {x : Nat} {p : ByteArray} {w : World} {o : Option Nat} (h : Calls Tryd.prog 27 #[ptr x, .string p] w fun e w' => e = .returned (optPtr o) ∧ Below w.heap.size w w') :
    Calls Tryd.prog 18 #[ptr x, .string p] w fun e w' => e = .returned (optPtr o) ∧ Below w.heap.size w w' := by
  have H := hideIt h
  clear h
  unfold ptr at *
  cases o with
  | none =>
    go_enter Tryd.func18, Tryd.ntmps18
    go_wp2_with (go_at_call 27; refine H.out.mono ?_; rintro e w' ⟨rfl, hb⟩)
    go_ret
    exact ⟨rfl, hb⟩
  | some c =>
    go_enter Tryd.func18, Tryd.ntmps18
    go_wp2_with (go_at_call 27; refine H.out.mono ?_; rintro e w' ⟨rfl, hb⟩)
    go_ret
    exact ⟨rfl, hb⟩

theorem zzfind_path (N k : Nat) (s : ByteArray) (w : World) (es : List Ent) (I D : Nat → Bool) (hT : TreeIn N w es I D) (G : Good es I D) (hk : k ≤ es.length) (hI : I k = true) (hs : s.data.toList = joinN (chain es k)) (hp : s.size ≤ maxLen) :
    Calls Tryd.prog 18 #[ptr (xOf N I 0), .string s] w fun e w' => e = .returned (optPtr (some (xOf N I k))) ∧ Below w.heap.size w w' := by
  refine zzfind_of ?_
  have := find_tree N s w es I D hT G hp
  rw [hs, (findP_iff G _ k).2 ⟨hk, hI, rfl⟩] at this
  exact this
theorem zzfind_slash (N : Nat) (s : ByteArray) (w : World) (es : List Ent) (I D : Nat → Bool) (hT : TreeIn N w es I D) (G : Good es I D) (hp : s.size + 1 ≤ maxLen) :
    Calls Tryd.prog 18 #[ptr (xOf N I 0), .string (s ++ ⟨#[47]⟩)] w fun e w' => e = .returned (optPtr none) ∧ Below w.heap.size w w' := by
  refine zzfind_of ?_
  have := find_tree N (s ++ ⟨#[47]⟩) w es I D hT G (by rw [ByteArray.size_append]; exact hp)
  rw [show (s ++ ⟨#[47]⟩ : ByteArray).data.toList = s.data.toList ++ [47] by simp, findP_slash G] at this
  exact this

set_option maxRecDepth 100000 in
set_option maxHeartbeats 4000000 in
theorem law_round (a : Option Addr) (len cap : Nat) (es : List Ent) (w : World) (hA : IsEntries w a len cap es) :
    Calls Tryd.prog 5 #[.slice a len cap] w fun e w' => e = .returned (.bool true) ∧ Below w.heap.size w w' := by
  obtain ⟨hlen, hmax, hnil, b, off, hE⟩ := hA
  have h20 := hideIt (bytes20 a len cap es b off w hlen hmax hE)
  have h14 := hideIt (small_any a len cap ⟨#[]⟩ es b off w (by decide) hlen hmax hE)
  go_enter Tryd.func5, Tryd.ntmps5
  go_wp2_with fail
  refine h20.out.mono ?_
  rintro e w' ⟨⟨r, rfl⟩, hw⟩
  subst hw
  cases r with
  | false =>
    go_wp2
    go_ret
    exact ⟨rfl, Below.refl _ _⟩
  | true =>
  go_wp2_with fail
  refine h14.out.mono ?_
  rintro e w0 ⟨⟨r, rfl, hr⟩, hw⟩
  subst hw
  cases r with
  | false =>
    clear hr
    go_wp2
    go_ret
    exact ⟨rfl, Below.refl _ _⟩
  | true =>
  obtain ⟨hl4, hsum⟩ := hr rfl
  have HS : Hid (32 * len + nameSum es ≤ 1048576) := by
    have : (⟨#[]⟩ : ByteArray).size = 0 := rfl
    show _ ≤ _
    omega
  clear hr hsum h14 h20
  have h15 := hideIt (clone_any a len cap es b off w0 hlen hl4 hnil hE)
  go_wp2_with fail
  refine h15.out.mono ?_
  rintro e w1 ⟨a1, c1, rfl, hE1, hb1⟩
  have h16 := hideIt (shape_any a1 len c1 es _ 0 w1 hlen hl4 hE1)
  go_wp2_with fail
  refine h16.out.mono ?_
  rintro e w2 ⟨rfl, hI2, hD2, hb2⟩
  have G : Good es (shapeTo es len).1 (shapeTo es len).2 := by rw [← hlen]; exact good_shape es
  have HB2 := hideIt (hb1.trans (hb2.mono hb1.size))
  have hE2 := hE1.later hb2
  clear hb1 hb2 hE1 hE h15 h16 hnil
  generalize (shapeTo es len).1 = I at *
  generalize (shapeTo es len).2 = D at *
  have h21 := hideIt (paths_any a1 len c1 _ es I D _ 0 w2 hlen HS.out hE2 hI2 G)
  go_wp2_with fail
  refine h21.out.mono ?_
  rintro e w3 ⟨hb3, (rfl | ⟨rfl, hP3⟩)⟩
  · have HB3 := hideIt (HB2.out.trans (hb3.mono HB2.out.size))
    clear hb3
    go_wp2
    go_ret
    exact ⟨rfl, HB3.out⟩
  · rw [hlen] at hP3
    have hE3 := hE2.later hb3
    have hI3 := hI2.keep (hb3.block _ (lt_of_heap_cell (hI2.cell 0 (by omega))))
    have hD3 := hD2.keep (hb3.block _ (lt_of_heap_cell (hD2.cell 0 (by omega))))
    have HB3 := hideIt (HB2.out.trans (hb3.mono HB2.out.size))
    have h17 := hideIt (build_any a1 len c1 _ _ 0 es I D _ 0 w3 hlen hl4 hE3 hI3 hD3 G.shape)
    clear hb3 hE2 hI2 hD2 HB2 h21 hE3 hD3
    rw [hlen]
    go_wp2_with fail
    refine h17.out.mono ?_
    rintro e w4 ⟨rfl, hB4⟩
    rw [← hlen] at hB4
    have hT4 := hB4.tree
    have hI4 := hI3.keep (hB4.bel.block _ (lt_of_heap_cell (hI3.cell 0 (by omega))))
    have hP4 := hP3.keep (hB4.bel.block _ (by obtain ⟨s, _, hc⟩ := hP3.cell 0 (by omega); exact lt_of_heap_cell hc))
    have HB4 := hideIt (HB3.out.trans (hB4.bel.mono HB3.out.size))
    have c0 : w4.cell? ⟨w3.heap.size, 0, none⟩ = some (.pointer (some ⟨xOf w3.heap.size I 0, 0, none⟩)) := by
      rw [hT4.row 0 (by omega)]; simp [ndOf, G.root, optPtr, ptr]
    generalize w3.heap.size = N at *
    generalize w2.heap.size + 1 = pb at *
    generalize w1.heap.size = ib at *
    clear hB4 hI3 hP3 HB3 h17
    go_wp2
    go_loopw [9] (fun si wr => ∃ k : Nat, k ≤ len + 1 ∧ si = .int .i64 k ∧ Below w4.heap.size w4 wr) (fun si _ => len + 1 - (intOf si).toNat)
    case atStart => exact ⟨0, Nat.zero_le _, rfl, Below.refl _ _⟩
    case round =>
      obtain ⟨k, hk, rfl, hb⟩ := hrel
      by_cases hlt : k < len + 1
      · have hT := hT4.later hb
        have r1 := (hI4.keep (hb.block _ (lt_of_heap_cell (hI4.cell 0 (by omega))))).cell k hlt
        have hP := hP4.keep (hb.block _ (by obtain ⟨s, _, hc⟩ := hP4.cell 0 (by omega); exact lt_of_heap_cell hc))
        obtain ⟨s, hs, p1⟩ := hP.cell k hlt
        cases hIk : I k with
        | false =>
          rw [hIk] at r1
          clear hIk hs hP hT
          go_wp2
          go_roundw
          case rel => exact ⟨k + 1, by omega, by go_num, hb⟩
          case measure => simp [intOf]; omega
        | true =>
        rw [hIk] at r1
        have hsz : s.size ≤ 1048576 := by
          have h1 := pathL_len G (i := len) (show k ≤ es.length by omega)
          rw [← hs] at h1
          have h2 : s.data.toList.length = s.size := by simp
          have h3 := HS.out
          omega
        have n1 := hT.row k (by omega)
        rw [show ndOf N I k = some (xOf N I k) by simp [ndOf, hIk]] at n1
        have n1' : wr.cell? ⟨N, k, none⟩ = some (.pointer (some ⟨xOf N I k, 0, none⟩)) := n1
        have HF := hideIt ((zzfind_path N k s wr.drew es I D (hT.later (Below.refl _ _).drew) G (by omega) hIk (by rw [hs]; unfold pathL; rw [if_pos ⟨by omega, hIk⟩]) (by unfold maxLen; omega)).mono (R' := fun e w' => e = .returned (.pointer (some ⟨xOf N I k, 0, none⟩)) ∧ Below wr.heap.size wr w') (fun e w' h => ⟨h.1, (Below.refl _ wr).drew.trans h.2⟩))
        have HG := hideIt (fun W (hW : Below w4.heap.size w4 W) => zzfind_slash N s W es I D (hT4.later hW) G (by unfold maxLen; omega))
        have HN := hideIt (fun (W : World) (hW : Below wr.heap.size wr W) => (hW.cell (p := ⟨N, k, none⟩) (lt_of_heap_cell n1')).trans n1')
        have HP := hideIt (fun (W : World) (hW : Below wr.heap.size wr W) => (hW.cell (p := ⟨pb, k, none⟩) (lt_of_heap_cell p1)).trans p1)
        have hbz := hb.size
        unfold ptr at HF
        unfold optPtr ptr at HG
        clear hIk hs hP hT n1
        have hne := neq_same (xOf N I k)
        go_wp2
        go_region_with (go_at_call 18; refine HF.out.mono ?_; rintro e w5 ⟨rfl, hb5⟩; have n5 := HN.out w5 hb5; have p5 := HP.out w5 hb5)
        all_goals
          have HB5 := hideIt (hb.trans (hb5.mono hbz))
          clear hb5 HF
          go_wp2_with fail
          refine (HG.out w5 HB5.out).mono ?_
          rintro e w6 ⟨rfl, hb6⟩
          have HB6 := hideIt (HB5.out.trans (hb6.mono HB5.out.size))
          clear hb6
          go_wp2
          go_roundw
          case rel => exact ⟨k + 1, by omega, by go_num, HB6.out⟩
          case measure => simp [intOf]; omega
      · go_wp2
        go_ret
        exact ⟨rfl, HB4.out.trans (hb.mono HB4.out.size)⟩
end Go.Proofs.Qxb6605817aDoor
