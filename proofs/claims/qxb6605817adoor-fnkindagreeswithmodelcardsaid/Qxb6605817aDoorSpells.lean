/-
  THE WALKS of seat b6605817aD: zzSpellsRb1 (a path spelt from its end), zzWhichRb1.
-/
import Derived.Test.Qxb6605817aDoorPaths
namespace Go.Proofs.Qxb6605817aDoor
open Go.RowKit

/-! ### The plain steps of the spelling -/
theorem take_tail {l t nm : List UInt8} {e : Nat} (he : e ≤ l.length) (hn : nm.length ≤ e) : l.take e = t ++ nm ↔ l.take (e - nm.length) = t ∧ (l.drop (e - nm.length)).take nm.length = nm := by
  have hsplit : l.take e = l.take (e - nm.length) ++ (l.drop (e - nm.length)).take nm.length := by
    conv => lhs; rw [show e = (e - nm.length) + nm.length by omega, List.take_add]
  have hl1 : (l.take (e - nm.length)).length = e - nm.length := by rw [List.length_take]; omega
  have hl2 : ((l.drop (e - nm.length)).take nm.length).length = nm.length := by rw [List.length_take, List.length_drop]; omega
  constructor
  · intro h
    rw [hsplit] at h
    exact List.append_inj_right' h hl2 |> fun h2 => ⟨List.append_inj_left' h hl2, h2⟩
  · rintro ⟨h1, h2⟩
    rw [hsplit, h1, h2]
theorem take_short {l t nm : List UInt8} {e : Nat} (hn : e < nm.length) : l.take e ≠ t ++ nm := by
  intro h
  have := congrArg List.length h
  rw [List.length_take, List.length_append] at this
  omega

/-- What is left to be spelt. -/
def Left_ (es : List Ent) (p : List UInt8) (j e : Nat) : Prop := p.take e = joinN (chain es j)

theorem left_root {es : List Ent} {p : List UInt8} {e : Nat} (he : e ≤ p.length) : Left_ es p 0 e ↔ e = 0 := by
  unfold Left_
  rw [chain_zero]
  show p.take e = [] ↔ _
  constructor
  · intro h
    have := congrArg List.length h
    rw [List.length_take, List.length_nil] at this
    omega
  · rintro rfl; rfl
theorem join_last {es : List Ent} {I D : Nat → Bool} (G : Good es I D) {i q : Nat} (hi : i < es.length) (hq : (ent es i).par = (q : Int)) (hqi : q ≤ i) (hqI : I q = true) :
    joinN (chain es (i + 1)) = (if q = 0 then [] else joinN (chain es q) ++ [47]) ++ (ent es i).name.data.toList := by
  rw [chain_succ G hi hq hqi hqI]
  split
  · rename_i h; subst h; rfl
  · rename_i h
    rw [joinN_snoc _ _ (fun e => h ((chain_nil G (by omega) hqI).1 e))]
    simp
theorem left_short {es : List Ent} {I D : Nat → Bool} (G : Good es I D) {p : List UInt8} {i q e : Nat} (hi : i < es.length) (hq : (ent es i).par = (q : Int)) (hqi : q ≤ i) (hqI : I q = true) (hn : e < (ent es i).name.data.toList.length) : ¬ Left_ es p (i + 1) e := by
  unfold Left_
  rw [join_last G hi hq hqi hqI]
  exact take_short hn
theorem left_name {es : List Ent} {I D : Nat → Bool} (G : Good es I D) {p : List UInt8} {i q e : Nat} (hi : i < es.length) (hq : (ent es i).par = (q : Int)) (hqi : q ≤ i) (hqI : I q = true) (he : e ≤ p.length) (hn : (ent es i).name.data.toList.length ≤ e)
    (hne : (p.drop (e - (ent es i).name.data.toList.length)).take (ent es i).name.data.toList.length ≠ (ent es i).name.data.toList) : ¬ Left_ es p (i + 1) e := by
  unfold Left_
  rw [join_last G hi hq hqi hqI, take_tail he hn]
  exact fun h => hne h.2
theorem left_top {es : List Ent} {I D : Nat → Bool} (G : Good es I D) {p : List UInt8} {i e : Nat} (hi : i < es.length) (hq : (ent es i).par = 0) (he : e ≤ p.length) (hn : (ent es i).name.data.toList.length ≤ e)
    (hne : (p.drop (e - (ent es i).name.data.toList.length)).take (ent es i).name.data.toList.length = (ent es i).name.data.toList) : Left_ es p (i + 1) e ↔ Left_ es p 0 (e - (ent es i).name.data.toList.length) := by
  unfold Left_
  rw [join_last G hi (q := 0) hq (Nat.zero_le _) G.root, take_tail he hn]
  simp only [if_true]
  exact ⟨fun h => h.1, fun h => ⟨h, hne⟩⟩
theorem left_deep {es : List Ent} {I D : Nat → Bool} (G : Good es I D) {p : List UInt8} {i q e : Nat} (hi : i < es.length) (hq : (ent es i).par = (q : Int)) (hq0 : q ≠ 0) (hqi : q ≤ i) (hqI : I q = true) (he : e ≤ p.length) (hn : (ent es i).name.data.toList.length ≤ e)
    (hne : (p.drop (e - (ent es i).name.data.toList.length)).take (ent es i).name.data.toList.length = (ent es i).name.data.toList) :
    Left_ es p (i + 1) e ↔ 1 ≤ e - (ent es i).name.data.toList.length ∧ Left_ es p q (e - (ent es i).name.data.toList.length - 1) ∧ (p.drop (e - (ent es i).name.data.toList.length - 1)).take 1 = [47] := by
  unfold Left_
  rw [join_last G hi hq hqi hqI, take_tail he hn, if_neg hq0]
  have hle' : e - (ent es i).name.data.toList.length ≤ p.length := by omega
  generalize e - (ent es i).name.data.toList.length = e' at *
  constructor
  · rintro ⟨h, _⟩
    by_cases h1 : 1 ≤ e'
    · have := (take_tail (l := p) (t := joinN (chain es q)) (nm := [47]) (e := e') (by omega) (by simpa using h1)).1 h
      exact ⟨h1, this.1, this.2⟩
    · exact absurd h (take_short (by simp; omega))
  · rintro ⟨h1, h2, h3⟩
    exact ⟨(take_tail (l := p) (t := joinN (chain es q)) (nm := [47]) (e := e') (by omega) (by simpa using h1)).2 ⟨h2, h3⟩, hne⟩
theorem left_start (es : List Ent) (p : List UInt8) (k : Nat) : Left_ es p k p.length ↔ p = joinN (chain es k) := by
  unfold Left_
  rw [List.take_of_length_le (Nat.le_refl _)]

theorem byte_at (p : ByteArray) (g : Nat) (hg : g < p.size) : (p.data.toList.drop g).take 1 = [47] ↔ p[g] = 47 := by
  rw [drop_cons p g hg]
  simp
def spellsB (es : List Ent) (k : Nat) (p : List UInt8) : Bool := decide (p = joinN (chain es k))

set_option maxRecDepth 100000 in
set_option maxHeartbeats 4000000 in
theorem spells_any (a : Option Addr) (len cap k : Nat) (p : ByteArray) (es : List Ent) (I D : Nat → Bool) (b off : Nat) (w : World) (hlen : es.length = len) (hmax : 32 * len + nameSum es ≤ 1048576) (hp : p.size ≤ 1048576) (hE : Ents w a es b off) (G : Good es I D) (hk : k ≤ len) (hI : I k = true) :
    Calls Tryd.prog 32 #[.slice a len cap, .int .i64 k, .string p] w fun e w' => e = .returned (.bool (spellsB es k p.data.toList)) ∧ w' = w := by
  have HN : Hid (∀ i, i < es.length → (ent es i).name.size ≤ 1048576) := fun i hi => by
    have h1 := ent_take es i hi
    have h2 := nameSum_mono es (show i + 1 ≤ es.length from hi) (Nat.le_refl _)
    rw [List.take_of_length_le (Nat.le_refl _)] at h2
    omega
  have hl4 : len ≤ 32768 := by omega
  have hpl : p.data.toList.length = p.size := by simp
  have HPL := hideIt hpl
  have H0 : Hid (spellsB es k p.data.toList = true ↔ Left_ es p.data.toList k p.size) := by
    show _ ↔ _
    unfold spellsB
    rw [decide_eq_true_eq, ← hpl]; exact (left_start es _ k).symm
  clear hmax hpl
  generalize spellsB es k p.data.toList = want at *
  go_enter Tryd.func32, Tryd.ntmps32
  go_wp2
  go_loop [7, 8] (fun se sj => ∃ (e j : Nat), e ≤ p.size ∧ j ≤ len ∧ I j = true ∧ se = .int .i64 e ∧ sj = .int .i64 j ∧ Hid (want = true ↔ Left_ es p.data.toList j e)) (fun _ sj => (intOf sj).toNat)
  case atStart => exact ⟨p.size, k, Nat.le_refl _, hk, hI, rfl, rfl, H0⟩
  case round =>
    clear H0
    obtain ⟨e, j, he, hj, hIj, rfl, rfl, hL⟩ := hrel
    by_cases hj0 : j = 0
    · subst hj0
      have hR := left_root (es := es) (p := p.data.toList) (e := e) (by have := HPL.out; omega)
      have HW : Hid (want = ((e : Int) == 0)) := by
        show _ = _
        rw [Bool.eq_iff_iff, hL.out, hR, beq_iff_eq]
        omega
      clear hL hR
      go_wp2
      go_ret
      exact ⟨ret_bool HW.out.symm, rfl⟩
    · obtain ⟨i, rfl⟩ : ∃ i, j = i + 1 := ⟨j - 1, by omega⟩
      have hi' : i < es.length := by omega
      obtain rfl := hE.base (by omega)
      obtain ⟨q, hq, hqi, hqI, hqD⟩ := G.up i hi' hIj
      have c0 := hE.par i hi'
      have c1 := hE.name i hi'
      rw [← ent_eq es i hi'] at c0 c1
      rw [hq] at c0
      have hz := HN.out i hi'
      have hnl : (ent es i).name.data.toList.length = (ent es i).name.size := by simp
      have hep : e ≤ p.data.toList.length := by have := HPL.out; omega
      by_cases hA : e < (ent es i).name.size
      · have HW : Hid (want = false) := by
          show _ = _
          rw [Bool.eq_false_iff, ne_eq, hL.out]
          exact left_short G hi' hq hqi hqI (by omega)
        clear hL hnl hep hq
        generalize (ent es i).name = nm at *
        go_wp2
        go_ret
        exact ⟨ret_bool HW.out.symm, rfl⟩
      · obtain ⟨f, rfl⟩ : ∃ f, e = f + (ent es i).name.size := ⟨e - (ent es i).name.size, by omega⟩
        have hfe : f + (ent es i).name.size - (ent es i).name.data.toList.length = f := by omega
        have hX : (p.extract f (f + (ent es i).name.size)).data.toList = (p.data.toList.drop f).take (ent es i).name.size := by
          rw [Lib.extract_data, show f + (ent es i).name.size - f = (ent es i).name.size by omega]
        cases hB : ((p.extract f (f + (ent es i).name.size)).toList == (ent es i).name.toList) with
        | false =>
          have HW : Hid (want = false) := by
            show _ = _
            rw [Bool.eq_false_iff, ne_eq, hL.out]
            refine left_name G hi' hq hqi hqI hep (by omega) ?_
            rw [hfe, hnl, ← hX]
            intro h
            rw [Lib.toList_data, Lib.toList_data, h] at hB
            simp at hB
          clear hL hnl hep hq hX hfe hA
          generalize (ent es i).name = nm at *
          go_wp2
          go_ret
          exact ⟨ret_bool HW.out.symm, rfl⟩
        | true =>
        have hXe : (p.data.toList.drop (f + (ent es i).name.size - (ent es i).name.data.toList.length)).take (ent es i).name.data.toList.length = (ent es i).name.data.toList := by
          rw [hfe, hnl, ← hX]
          rw [Lib.toList_data, Lib.toList_data] at hB
          exact beq_iff_eq.1 hB
        by_cases hq0 : q = 0
        · subst hq0
          have HL : Hid (want = true ↔ Left_ es p.data.toList 0 f) := by
            show _ ↔ _
            rw [hL.out, left_top G hi' hq hep (by omega) hXe, hfe]
          clear hL hnl hep hq hX hXe hfe hA
          generalize (ent es i).name = nm at *
          go_wp2
          exact ⟨⟨f, 0, by omega, Nat.zero_le _, hqI, by go_num, rfl, HL⟩, by simp [intOf]⟩
        · have hD := left_deep G hi' hq hq0 hqi hqI hep (by omega) hXe
          rw [hfe] at hD
          have hqp : (0 : Int) < (q : Int) := by omega
          have hqb : ((q : Int) == 0) = false := by rw [beq_eq_false_iff_ne]; omega
          by_cases hf0 : f = 0
          · have HW : Hid (want = false) := by
              show _ = _
              rw [Bool.eq_false_iff, ne_eq, hL.out, hD]
              omega
            subst hf0
            rw [Nat.zero_add] at hB he
            clear hL hnl hep hq hX hXe hfe hA hD
            generalize (ent es i).name = nm at *
            go_wp2
            go_ret
            exact ⟨ret_bool HW.out.symm, rfl⟩
          · obtain ⟨g, rfl⟩ : ∃ g, f = g + 1 := ⟨f - 1, by omega⟩
            have hg : g < p.size := by omega
            rw [show g + 1 - 1 = g by omega, byte_at p g hg] at hD
            have hge : ((g : Int) + 1 == 0) = false := by rw [beq_eq_false_iff_ne]; omega
            by_cases hby : p[g] = 47
            · have HL : Hid (want = true ↔ Left_ es p.data.toList q g) := by
                show _ ↔ _
                rw [hL.out, hD]
                exact ⟨fun h => h.2.1, fun h => ⟨by omega, h, hby⟩⟩
              have hbn : ((p[g].toNat : Int) != 47) = false := by rw [hby]; rfl
              clear hL hnl hep hq hX hXe hfe hA hD hby
              generalize (ent es i).name = nm at *
              go_wp2
              exact ⟨⟨g, q, by omega, by omega, hqI, by go_num, by go_num, HL⟩, by simp [intOf]; omega⟩
            · have HW : Hid (want = false) := by
                show _ = _
                rw [Bool.eq_false_iff, ne_eq, hL.out, hD]
                exact fun h => hby h.2.2
              have hbn : ((p[g].toNat : Int) != 47) = true := by
                rw [bne_iff_ne]; intro h
                exact hby (UInt8.toNat_inj.1 (by have : (47 : UInt8).toNat = 47 := rfl; omega))
              clear hL hnl hep hq hX hXe hfe hA hD hby
              generalize (ent es i).name = nm at *
              go_wp2
              go_ret
              exact ⟨ret_bool HW.out.symm, rfl⟩

/-- A node's number as zzWhichRb1 hands it back: -1 where there is none. -/
def numOf : Option Nat → Int
  | none => -1
  | some k => (k : Int)

theorem which_found {es : List Ent} {I D : Nat → Bool} (G : Good es I D) {p : List UInt8} {k : Nat} (hk : k ≤ es.length) (hI : I k = true) (hs : spellsB es k p = true) : findP es I D p = some k :=
  (findP_iff G p k).2 ⟨hk, hI, of_decide_eq_true hs⟩
theorem which_none {es : List Ent} {I D : Nat → Bool} (G : Good es I D) {p : List UInt8} (h : ∀ k, k ≤ es.length → I k = true → spellsB es k p = false) : findP es I D p = none := by
  cases hf : findP es I D p with
  | none => rfl
  | some k =>
    obtain ⟨hk, hI, he⟩ := (findP_iff G p k).1 hf
    have := h k hk hI
    unfold spellsB at this
    exact absurd he (of_decide_eq_false this)

set_option maxRecDepth 100000 in
set_option maxHeartbeats 4000000 in
theorem which_any (a : Option Addr) (len cap ib : Nat) (p : ByteArray) (es : List Ent) (I D : Nat → Bool) (b off : Nat) (w : World) (hlen : es.length = len) (hmax : 32 * len + nameSum es ≤ 1048576) (hp : p.size ≤ 1048576) (hE : Ents w a es b off)
    (hIr : BoolRow w ib (len + 1) I) (G : Good es I D) :
    Calls Tryd.prog 19 #[.slice a len cap, .slice (some ⟨ib, 0, none⟩) (len + 1) (len + 1), .string p] w fun e w' => e = .returned (.int .i64 (numOf (findP es I D p.data.toList))) ∧ w' = w := by
  have HF : Hid (∀ k, k ≤ len → I k = true → spellsB es k p.data.toList = true → findP es I D p.data.toList = some k) := fun k hk hI hs => which_found G (by omega) hI hs
  have HN : Hid ((∀ k, k ≤ len → I k = true → spellsB es k p.data.toList = false) → findP es I D p.data.toList = none) := fun h => which_none G (fun k hk => h k (by omega))
  have HS : Hid (∀ k, k ≤ len → I k = true → Calls Tryd.prog 32 #[.slice a len cap, .int .i64 k, .string p] w fun e w' => e = .returned (.bool (spellsB es k p.data.toList)) ∧ w' = w) := fun k hk hI => spells_any a len cap k p es I D b off w hlen hmax hp hE G hk hI
  have hl4 : len ≤ 32768 := by omega
  generalize findP es I D p.data.toList = want at *
  clear hE hmax
  go_enter Tryd.func19, Tryd.ntmps19
  go_wp2
  go_loop [7] (fun sk => ∃ k : Nat, k ≤ len + 1 ∧ sk = .int .i64 k ∧ Hid (∀ j, j < k → I j = true → spellsB es j p.data.toList = false)) (fun sk => len + 1 - (intOf sk).toNat)
  case atStart => exact ⟨0, Nat.zero_le _, rfl, fun j h => by omega⟩
  case round =>
    obtain ⟨k, hk, rfl, hno⟩ := hrel
    by_cases hlt : k < len + 1
    · have r1 := hIr.cell k hlt
      cases hIk : I k with
      | false =>
        have hno' : Hid (∀ j, j < k + 1 → I j = true → spellsB es j p.data.toList = false) := fun j hj hIj => by
          by_cases e : j = k
          · subst e; rw [hIk] at hIj; cases hIj
          · exact hno.out j (by omega) hIj
        rw [hIk] at r1
        clear hIk hno
        go_wp2
        go_round
        case rel => exact ⟨k + 1, by omega, by go_num, hno'⟩
        case measure => simp [intOf]; omega
      | true =>
        rw [hIk] at r1
        have hs := hideIt (HS.out k (by omega) hIk)
        cases hsp : spellsB es k p.data.toList with
        | true =>
          rw [hsp] at hs
          have hw := hideIt (HF.out k (by omega) hIk hsp)
          clear hIk hsp hno
          go_wp2_with (go_at_call 32; refine hs.out.mono ?_; rintro e w' ⟨rfl, hw⟩; subst hw)
          go_ret
          refine ⟨?_, rfl⟩
          rw [hw.out]; rfl
        | false =>
          rw [hsp] at hs
          have hno' : Hid (∀ j, j < k + 1 → I j = true → spellsB es j p.data.toList = false) := fun j hj hIj => by
            by_cases e : j = k
            · subst e; exact hsp
            · exact hno.out j (by omega) hIj
          clear hIk hsp hno
          go_wp2_with (go_at_call 32; refine hs.out.mono ?_; rintro e w' ⟨rfl, hw⟩; subst hw)
          go_round
          case rel => exact ⟨k + 1, by omega, by go_num, hno'⟩
          case measure => simp [intOf]; omega
    · have hw := hideIt (HN.out (fun j hj hIj => hno.out j (by omega) hIj))
      clear hno
      go_wp2
      go_ret
      refine ⟨?_, rfl⟩
      rw [hw.out]; rfl
end Go.Proofs.Qxb6605817aDoor
