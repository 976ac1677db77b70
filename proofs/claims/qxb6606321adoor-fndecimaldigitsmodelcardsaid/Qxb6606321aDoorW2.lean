/-
  THE WALKS of seat b6606321aD, second part: placesModel.
-/
import Derived.Test.Qxb6606321aDoorW1
namespace Go.Proofs.Qxb6606321aDoor
open Go.RowKit

/-- Bytes i .. j. -/
def Seg (s : ByteArray) (i j : Nat) : List UInt8 := (s.data.toList.take j).drop i
theorem seg_nil (s : ByteArray) (i : Nat) : Seg s i i = [] := by unfold Seg; simp
theorem seg_snoc {s : ByteArray} {i j : Nat} (h : i ≤ j) (hj : j < s.size) : Seg s i (j + 1) = Seg s i j ++ [s[j]] := by
  unfold Seg
  have hl : s.data.toList.length = s.size := by simp
  rw [List.take_succ_eq_append_getElem (by omega), List.drop_append_of_le_length (by rw [List.length_take]; omega)]
  rfl

/-- The leading zeros, and whether a digit is not 0. -/
def LN (P : List UInt8) (L : Nat) (b : Bool) : Prop := L = Plain.lz P ∧ b = Plain.nz P
theorem LN.nil : LN [] 0 false := ⟨rfl, rfl⟩
theorem LN.on {P : List UInt8} {L : Nat} (h : LN P L true) (c : UInt8) : LN (P ++ [c]) L true :=
  ⟨by rw [Plain.lz_append_nz _ h.2.symm]; exact h.1, by rw [Plain.nz_append, ← h.2]; rfl⟩
theorem LN.zero {P : List UInt8} {L : Nat} (h : LN P L false) {c : UInt8} (hc : (c.toNat : Int) = 48) : LN (P ++ [c]) (L + 1) false := by
  have hc' : c = 48 := byte_eq (n := 48) (by decide) hc
  refine ⟨?_, by rw [Plain.nz_append, ← h.2, Plain.nz_one, hc']; rfl⟩
  rw [Plain.lz_append_zero _ h.2.symm, Plain.lz_one, if_pos hc', ← Plain.lz_all h.2.symm, ← h.1]
theorem LN.new {P : List UInt8} {L : Nat} (h : LN P L false) {c : UInt8} (hc : (c.toNat : Int) ≠ 48) : LN (P ++ [c]) L true := by
  have hc' : c ≠ 48 := fun e => hc (by rw [e]; rfl)
  refine ⟨?_, by rw [Plain.nz_append, ← h.2, Plain.nz_one]; simpa using hc'⟩
  rw [Plain.lz_append_zero _ h.2.symm, Plain.lz_one, if_neg hc', ← Plain.lz_all h.2.symm, ← h.1]; rfl

/-- What the exponent's digits so far spell, clamped. -/
def SZ (P : List UInt8) (z : Int) : Prop := z = ((min (Plain.val P) Plain.big : Nat) : Int)
theorem SZ.nil : SZ [] 0 := rfl
theorem SZ.top {P : List UInt8} {z : Int} (h : SZ P z) (c : UInt8) (hz : 461168601842738790 < z) : SZ (P ++ [c]) 4611686018427387904 := by
  unfold SZ at *
  rw [← Plain.step_val]
  unfold Plain.stepS
  rw [if_pos (by omega)]
  rfl
theorem SZ.big {P : List UInt8} {z : Int} (h : SZ P z) {c : UInt8} (hc : 48 ≤ (c.toNat : Int)) (hz : z ≤ 461168601842738790) (hb : 4611686018427387904 < z * 10 + ((c.toNat : Int) - 48)) : SZ (P ++ [c]) 4611686018427387904 := by
  unfold SZ at *
  rw [← Plain.step_val]
  unfold Plain.stepS
  rw [if_neg (by omega), if_pos (by unfold Plain.big at *; omega)]
  rfl
theorem SZ.step {P : List UInt8} {z : Int} (h : SZ P z) {c : UInt8} (hc : 48 ≤ (c.toNat : Int)) (hz : z ≤ 461168601842738790) (hb : z * 10 + ((c.toNat : Int) - 48) ≤ 4611686018427387904) : SZ (P ++ [c]) (z * 10 + ((c.toNat : Int) - 48)) := by
  unfold SZ at *
  rw [← Plain.step_val]
  unfold Plain.stepS
  rw [if_neg (by omega), if_neg (by unfold Plain.big at *; omega)]
  omega

theorem dig_lo {c : UInt8} (h : Plain.dig c = true) : 48 ≤ (c.toNat : Int) ∧ (c.toNat : Int) ≤ 57 := by
  rw [dig_eq] at h
  simpa using h
theorem dig_no {c : UInt8} (h : Plain.dig c = true) (n : Int) (hn : n < 48 ∨ 57 < n) : ((c.toNat : Int) == n) = false := by
  have := dig_lo h
  rw [beq_eq_false_iff_ne]
  omega
theorem dig_not {c : UInt8} (h : ((c.toNat : Int) < 48 ∨ 57 < (c.toNat : Int))) : Plain.dig c = false := by
  rw [dig_eq, Bool.eq_false_iff]
  intro e
  simp at e
  omega

/-- The exponent from place b on: its value. -/
def ExpAt (s : ByteArray) (b : Nat) (x : Int) : Prop :=
  (b = s.size ∧ x = 0) ∨ ∃ h : b + 1 < s.size, ((s[b].toNat : Int) = 101 ∨ (s[b].toNat : Int) = 69) ∧
    ((Digs s (b + 1) s.size ∧ SZ (Seg s (b + 1) s.size) x) ∨
     ∃ h2 : b + 2 < s.size, Digs s (b + 2) s.size ∧ ((((s[b + 1].toNat : Int) = 43) ∧ SZ (Seg s (b + 2) s.size) x) ∨ (((s[b + 1].toNat : Int) = 45) ∧ SZ (Seg s (b + 2) s.size) (-x))))
theorem res_eq {x y x' y' : Int} (h1 : x = x') (h2 : y = y') : Ending.returned (.tuple #[.int .i64 x, .int .i64 y]) = .returned (.tuple #[.int .i64 x', .int .i64 y']) := by rw [h1, h2]

set_option maxRecDepth 100000 in
set_option maxHeartbeats 8000000 in
theorem model_np (s : ByteArray) (w : World) (hs : s.size ≤ 1048576) (a : Nat) (x bf af : Int) (ha : a ≤ s.size) (hD : Hid (Digs s 0 a)) (HX0 : Hid (ExpAt s a x)) (hx1 : -4611686018427387904 ≤ x) (hx2 : x ≤ 4611686018427387904)
    (HT : Hid (Plain.nz (Seg s 0 a) = true → bf = max ((a : Int) + x - Plain.lz (Seg s 0 a)) 0)) (HF : Hid (Plain.nz (Seg s 0 a) = false → bf = 0)) (HA : Hid (af = max (0 - x) 0)) :
    Calls Tryd.prog 11 #[.string s] w fun e w' => e = .returned (.tuple #[.int .i64 bf, .int .i64 af]) ∧ w' = w := by
  go_enter Tryd.func11, Tryd.ntmps11
  go_wp2
  go_loop [4, 6, 8, 9] (fun i wh ld nz => ∃ (k L : Nat) (nb : Bool), k ≤ a ∧ L ≤ k ∧ i = .int .i64 k ∧ wh = .int .i64 k ∧ ld = .int .i64 L ∧ nz = .bool nb ∧ Hid (LN (Seg s 0 k) L nb)) (fun i _ _ _ => s.size - (intOf i).toNat)
  case atStart => exact ⟨0, 0, false, Nat.zero_le _, Nat.zero_le _, rfl, rfl, rfl, rfl, hideIt (by rw [seg_nil]; exact LN.nil)⟩
  case round =>
    obtain ⟨k, L, nb, hk, hL, rfl, rfl, rfl, rfl, hN⟩ := hrel
    by_cases hlt : k < a
    · have hlts : k < s.size := by omega
      have hb' := hideIt (hD.out k hlts (Nat.zero_le _) hlt)
      have HS := hideIt (seg_snoc (Nat.zero_le k) hlts)
      cases nb with
      | true =>
        have H := hideIt (hN.out.on s[k])
        clear hN HT HF HA HX0
        go_wp2_with (go_at_call 14; refine (dig_any _ _).mono ?_; rintro e w' ⟨rfl, rfl⟩; rw [hb'.out])
        go_round
        case rel => exact ⟨k + 1, L, true, by omega, by omega, by go_num, by go_num, rfl, rfl, hideIt (by rw [HS.out]; exact H.out)⟩
        case measure => simp [intOf]; omega
      | false =>
        by_cases hz : (s[k].toNat : Int) = 48
        · have H := hideIt (hN.out.zero hz)
          have hz' : ((s[k].toNat : Int) == 48) = true := beq_iff_eq.2 hz
          clear hN HT HF HA HX0 hz
          go_wp2_with (go_at_call 14; refine (dig_any _ _).mono ?_; rintro e w' ⟨rfl, rfl⟩; rw [hb'.out])
          go_round
          case rel => exact ⟨k + 1, L + 1, false, by omega, by omega, by go_num, by go_num, by go_num, rfl, hideIt (by rw [HS.out]; exact H.out)⟩
          case measure => simp [intOf]; omega
        · have H := hideIt (hN.out.new hz)
          have hz' : ((s[k].toNat : Int) == 48) = false := beq_eq_false_iff_ne.2 hz
          clear hN HT HF HA HX0 hz
          go_wp2_with (go_at_call 14; refine (dig_any _ _).mono ?_; rintro e w' ⟨rfl, rfl⟩; rw [hb'.out])
          go_round
          case rel => exact ⟨k + 1, L, true, by omega, by omega, by go_num, by go_num, rfl, rfl, hideIt (by rw [HS.out]; exact H.out)⟩
          case measure => simp [intOf]; omega
    · obtain rfl : k = a := by omega
      obtain ⟨hL2, hN2⟩ := hN.out
      rw [← hL2, ← hN2] at HT
      rw [← hN2] at HF
      clear hN hL2 hN2 hD hlt
      rcases HX0.out with ⟨hbn, hx0⟩ | ⟨hb1, he, hX⟩
      · subst hx0
        have hjn : ¬ ((k : Nat) : Int) < s.size := by omega
        clear HX0
        go_wp2
        all_goals
          go_ret2
          refine ⟨res_eq ?_ ?_, rfl⟩
          · first
              | (have h1 := HT.out rfl; omega)
              | (have h1 := HF.out rfl; omega)
              | (have h1 := HT.out (by assumption); omega)
              | (have h1 := HF.out (by assumption); omega)
          · have h1 := HA.out
            omega
      · have hb' := hideIt (dig_not (c := s[k]) (by omega))
        have hpt : ((s[k].toNat : Int) == 46) = false := beq_eq_false_iff_ne.2 (by omega)
        have he' : ((s[k].toNat : Int) == 101) = true ∨ (((s[k].toNat : Int) == 101) = false ∧ ((s[k].toNat : Int) == 69) = true) := by
          simp only [beq_iff_eq, beq_eq_false_iff_ne]; omega
        clear he HX0
        rcases hX with ⟨hD3, hS⟩ | ⟨hb2, hD3, (⟨hg, hS⟩ | ⟨hg, hS⟩)⟩
        · have hg1 := dig_no (hD3 (k + 1) (by omega) (by omega) (by omega)) 43 (by omega)
          have hg2 := dig_no (hD3 (k + 1) (by omega) (by omega) (by omega)) 45 (by omega)
          have HX := hideIt hS
          have hDx := hideIt hD3
          clear hS hD3
          rcases he' with he1 | ⟨he1, he2⟩
          all_goals
            go_wp2_with (go_at_call 14; refine (dig_any _ _).mono ?_; rintro e w' ⟨rfl, rfl⟩; rw [hb'.out])
            go_loop [4, 12] (fun i z => ∃ (m : Nat) (v : Int), k + 1 ≤ m ∧ m ≤ s.size ∧ i = .int .i64 m ∧ z = .int .i64 v ∧ 0 ≤ v ∧ v ≤ 4611686018427387904 ∧ Hid (SZ (Seg s (k + 1) m) v)) (fun i _ => s.size - (intOf i).toNat)
            case atStart => exact ⟨k + 1, 0, Nat.le_refl _, by omega, by go_num, rfl, by omega, by omega, hideIt (by rw [seg_nil]; exact SZ.nil)⟩
            case round =>
              obtain ⟨m, v, hm1, hm2, rfl, rfl, hv0, hv1, hV⟩ := hrel
              by_cases hmlt : m < s.size
              · have hb := hDx.out m hmlt hm1 hmlt
                obtain ⟨hc0, hc1⟩ := dig_lo hb
                have hb' := hideIt hb
                have HS := hideIt (seg_snoc hm1 hmlt)
                clear hb
                by_cases hv2 : 461168601842738790 < v
                · have H := hideIt (hV.out.top s[m] hv2)
                  clear hV
                  go_wp2_with (go_at_call 14; refine (dig_any _ _).mono ?_; rintro e w' ⟨rfl, rfl⟩; rw [hb'.out])
                  go_round
                  case rel => exact ⟨m + 1, _, by omega, by omega, by go_num, rfl, by omega, by omega, hideIt (by rw [HS.out]; exact H.out)⟩
                  case measure => simp [intOf]; omega
                · by_cases hv3 : 4611686018427387904 < v * 10 + ((s[m].toNat : Int) - 48)
                  · have H := hideIt (hV.out.big hc0 (by omega) hv3)
                    clear hV
                    go_wp2_with (go_at_call 14; refine (dig_any _ _).mono ?_; rintro e w' ⟨rfl, rfl⟩; rw [hb'.out])
                    go_round
                    case rel => exact ⟨m + 1, _, by omega, by omega, by go_num, rfl, by omega, by omega, hideIt (by rw [HS.out]; exact H.out)⟩
                    case measure => simp [intOf]; omega
                  · have H := hideIt (hV.out.step hc0 (by omega) (by omega))
                    clear hV
                    go_wp2_with (go_at_call 14; refine (dig_any _ _).mono ?_; rintro e w' ⟨rfl, rfl⟩; rw [hb'.out])
                    go_round
                    case rel => exact ⟨m + 1, _, by omega, by omega, by go_num, rfl, by omega, by omega, hideIt (by rw [HS.out]; exact H.out)⟩
                    case measure => simp [intOf]; omega
              · obtain rfl : m = s.size := by omega
                have hxv : v = x := hV.out.trans HX.out.symm
                clear hV hDx HX
                go_wp2
                all_goals
                  go_ret2
                  refine ⟨res_eq ?_ ?_, rfl⟩
                  · first
                      | (have h1 := HT.out rfl; omega)
                      | (have h1 := HF.out rfl; omega)
                      | (have h1 := HT.out (by assumption); omega)
                      | (have h1 := HF.out (by assumption); omega)
                  · have h1 := HA.out
                    omega
        · have hg1 : ((s[k + 1].toNat : Int) == 43) = true := beq_iff_eq.2 hg
          have hg2 : ((s[k + 1].toNat : Int) == 45) = false := beq_eq_false_iff_ne.2 (by omega)
          have HX := hideIt hS
          have hDx := hideIt hD3
          clear hS hD3 hg
          rcases he' with he1 | ⟨he1, he2⟩
          all_goals
            go_wp2_with (go_at_call 14; refine (dig_any _ _).mono ?_; rintro e w' ⟨rfl, rfl⟩; rw [hb'.out])
            go_loop [4, 12] (fun i z => ∃ (m : Nat) (v : Int), k + 2 ≤ m ∧ m ≤ s.size ∧ i = .int .i64 m ∧ z = .int .i64 v ∧ 0 ≤ v ∧ v ≤ 4611686018427387904 ∧ Hid (SZ (Seg s (k + 2) m) v)) (fun i _ => s.size - (intOf i).toNat)
            case atStart => exact ⟨k + 2, 0, Nat.le_refl _, by omega, by go_num, rfl, by omega, by omega, hideIt (by rw [seg_nil]; exact SZ.nil)⟩
            case round =>
              obtain ⟨m, v, hm1, hm2, rfl, rfl, hv0, hv1, hV⟩ := hrel
              by_cases hmlt : m < s.size
              · have hb := hDx.out m hmlt hm1 hmlt
                obtain ⟨hc0, hc1⟩ := dig_lo hb
                have hb' := hideIt hb
                have HS := hideIt (seg_snoc hm1 hmlt)
                clear hb
                by_cases hv2 : 461168601842738790 < v
                · have H := hideIt (hV.out.top s[m] hv2)
                  clear hV
                  go_wp2_with (go_at_call 14; refine (dig_any _ _).mono ?_; rintro e w' ⟨rfl, rfl⟩; rw [hb'.out])
                  go_round
                  case rel => exact ⟨m + 1, _, by omega, by omega, by go_num, rfl, by omega, by omega, hideIt (by rw [HS.out]; exact H.out)⟩
                  case measure => simp [intOf]; omega
                · by_cases hv3 : 4611686018427387904 < v * 10 + ((s[m].toNat : Int) - 48)
                  · have H := hideIt (hV.out.big hc0 (by omega) hv3)
                    clear hV
                    go_wp2_with (go_at_call 14; refine (dig_any _ _).mono ?_; rintro e w' ⟨rfl, rfl⟩; rw [hb'.out])
                    go_round
                    case rel => exact ⟨m + 1, _, by omega, by omega, by go_num, rfl, by omega, by omega, hideIt (by rw [HS.out]; exact H.out)⟩
                    case measure => simp [intOf]; omega
                  · have H := hideIt (hV.out.step hc0 (by omega) (by omega))
                    clear hV
                    go_wp2_with (go_at_call 14; refine (dig_any _ _).mono ?_; rintro e w' ⟨rfl, rfl⟩; rw [hb'.out])
                    go_round
                    case rel => exact ⟨m + 1, _, by omega, by omega, by go_num, rfl, by omega, by omega, hideIt (by rw [HS.out]; exact H.out)⟩
                    case measure => simp [intOf]; omega
              · obtain rfl : m = s.size := by omega
                have hxv : v = x := hV.out.trans HX.out.symm
                clear hV hDx HX
                go_wp2
                all_goals
                  go_ret2
                  refine ⟨res_eq ?_ ?_, rfl⟩
                  · first
                      | (have h1 := HT.out rfl; omega)
                      | (have h1 := HF.out rfl; omega)
                      | (have h1 := HT.out (by assumption); omega)
                      | (have h1 := HF.out (by assumption); omega)
                  · have h1 := HA.out
                    omega
        · have hg1 : ((s[k + 1].toNat : Int) == 43) = false := beq_eq_false_iff_ne.2 (by omega)
          have hg2 : ((s[k + 1].toNat : Int) == 45) = true := beq_iff_eq.2 hg
          have HX := hideIt hS
          have hDx := hideIt hD3
          clear hS hD3 hg
          rcases he' with he1 | ⟨he1, he2⟩
          all_goals
            go_wp2_with (go_at_call 14; refine (dig_any _ _).mono ?_; rintro e w' ⟨rfl, rfl⟩; rw [hb'.out])
            go_loop [4, 12] (fun i z => ∃ (m : Nat) (v : Int), k + 2 ≤ m ∧ m ≤ s.size ∧ i = .int .i64 m ∧ z = .int .i64 v ∧ 0 ≤ v ∧ v ≤ 4611686018427387904 ∧ Hid (SZ (Seg s (k + 2) m) v)) (fun i _ => s.size - (intOf i).toNat)
            case atStart => exact ⟨k + 2, 0, Nat.le_refl _, by omega, by go_num, rfl, by omega, by omega, hideIt (by rw [seg_nil]; exact SZ.nil)⟩
            case round =>
              obtain ⟨m, v, hm1, hm2, rfl, rfl, hv0, hv1, hV⟩ := hrel
              by_cases hmlt : m < s.size
              · have hb := hDx.out m hmlt hm1 hmlt
                obtain ⟨hc0, hc1⟩ := dig_lo hb
                have hb' := hideIt hb
                have HS := hideIt (seg_snoc hm1 hmlt)
                clear hb
                by_cases hv2 : 461168601842738790 < v
                · have H := hideIt (hV.out.top s[m] hv2)
                  clear hV
                  go_wp2_with (go_at_call 14; refine (dig_any _ _).mono ?_; rintro e w' ⟨rfl, rfl⟩; rw [hb'.out])
                  go_round
                  case rel => exact ⟨m + 1, _, by omega, by omega, by go_num, rfl, by omega, by omega, hideIt (by rw [HS.out]; exact H.out)⟩
                  case measure => simp [intOf]; omega
                · by_cases hv3 : 4611686018427387904 < v * 10 + ((s[m].toNat : Int) - 48)
                  · have H := hideIt (hV.out.big hc0 (by omega) hv3)
                    clear hV
                    go_wp2_with (go_at_call 14; refine (dig_any _ _).mono ?_; rintro e w' ⟨rfl, rfl⟩; rw [hb'.out])
                    go_round
                    case rel => exact ⟨m + 1, _, by omega, by omega, by go_num, rfl, by omega, by omega, hideIt (by rw [HS.out]; exact H.out)⟩
                    case measure => simp [intOf]; omega
                  · have H := hideIt (hV.out.step hc0 (by omega) (by omega))
                    clear hV
                    go_wp2_with (go_at_call 14; refine (dig_any _ _).mono ?_; rintro e w' ⟨rfl, rfl⟩; rw [hb'.out])
                    go_round
                    case rel => exact ⟨m + 1, _, by omega, by omega, by go_num, rfl, by omega, by omega, hideIt (by rw [HS.out]; exact H.out)⟩
                    case measure => simp [intOf]; omega
              · obtain rfl : m = s.size := by omega
                have hxv : v = -x := hV.out.trans HX.out.symm
                clear hV hDx HX
                go_wp2
                all_goals
                  go_ret2
                  refine ⟨res_eq ?_ ?_, rfl⟩
                  · first
                      | (have h1 := HT.out rfl; omega)
                      | (have h1 := HF.out rfl; omega)
                      | (have h1 := HT.out (by assumption); omega)
                      | (have h1 := HF.out (by assumption); omega)
                  · have h1 := HA.out
                    omega
end Go.Proofs.Qxb6606321aDoor
