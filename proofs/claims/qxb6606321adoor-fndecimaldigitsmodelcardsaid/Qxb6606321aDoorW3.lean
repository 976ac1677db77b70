/-
  THE WALKS of seat b6606321aD, third part: placesModel at a literal with a point.
-/
import Derived.Test.Qxb6606321aDoorW2
namespace Go.Proofs.Qxb6606321aDoor
open Go.RowKit

set_option maxRecDepth 100000 in
set_option maxHeartbeats 8000000 in
theorem model_pt (s : ByteArray) (w : World) (hs : s.size ≤ 1048576) (a b : Nat) (x bf af : Int) (ha : a < s.size) (hp : Hid ((s[a].toNat : Int) = 46)) (hab : a + 1 ≤ b) (hb0 : b ≤ s.size) (hD : Hid (Digs s 0 a)) (hE : Hid (Digs s (a + 1) b)) (HX0 : Hid (ExpAt s b x)) (hx1 : -4611686018427387904 ≤ x) (hx2 : x ≤ 4611686018427387904)
    (HT : Hid (Plain.nz (Seg s 0 a ++ Seg s (a + 1) b) = true → bf = max ((a : Int) + x - Plain.lz (Seg s 0 a ++ Seg s (a + 1) b)) 0)) (HF : Hid (Plain.nz (Seg s 0 a ++ Seg s (a + 1) b) = false → bf = 0)) (HA : Hid (af = max ((b : Int) - (a + 1) - x) 0)) :
    Calls Tryd.prog 11 #[.string s] w fun e w' => e = .returned (.tuple #[.int .i64 bf, .int .i64 af]) ∧ w' = w := by
  go_enter Tryd.func11, Tryd.ntmps11
  go_wp2
  go_loop [4, 6, 8, 9] (fun i wh ld nz => ∃ (k L : Nat) (nb : Bool), k ≤ a ∧ L ≤ k ∧ i = .int .i64 k ∧ wh = .int .i64 k ∧ ld = .int .i64 L ∧ nz = .bool nb ∧ Hid (LN (Seg s 0 k) L nb)) (fun i _ _ _ => s.size - (intOf i).toNat)
  case atStart => exact ⟨0, 0, false, Nat.zero_le _, Nat.zero_le _, rfl, rfl, rfl, rfl, hideIt (by rw [seg_nil]; exact LN.nil)⟩
  case round =>
    obtain ⟨k, L, nb, hk, hL, rfl, rfl, rfl, rfl, hN⟩ := hrel
    by_cases hlt : k < a
    · have hlts : k < s.size := by omega
      have hb' := hideIt (hD.out k hlts (Nat.zero_le _) hlt)
      have HS := hideIt (seg_snoc (Nat.zero_le k) hlts)
      cases nb with
      | true =>
        have H := hideIt (hN.out.on s[k])
        clear hN HT HF HA HX0
        go_wp2_with (go_at_call 14; refine (dig_any _ _).mono ?_; rintro e w' ⟨rfl, rfl⟩; rw [hb'.out])
        go_round
        case rel => exact ⟨k + 1, L, true, by omega, by omega, by go_num, by go_num, rfl, rfl, hideIt (by rw [HS.out]; exact H.out)⟩
        case measure => simp [intOf]; omega
      | false =>
        by_cases hz : (s[k].toNat : Int) = 48
        · have H := hideIt (hN.out.zero hz)
          have hz' : ((s[k].toNat : Int) == 48) = true := beq_iff_eq.2 hz
          clear hN HT HF HA HX0 hz
          go_wp2_with (go_at_call 14; refine (dig_any _ _).mono ?_; rintro e w' ⟨rfl, rfl⟩; rw [hb'.out])
          go_round
          case rel => exact ⟨k + 1, L + 1, false, by omega, by omega, by go_num, by go_num, by go_num, rfl, hideIt (by rw [HS.out]; exact H.out)⟩
          case measure => simp [intOf]; omega
        · have H := hideIt (hN.out.new hz)
          have hz' : ((s[k].toNat : Int) == 48) = false := beq_eq_false_iff_ne.2 hz
          clear hN HT HF HA HX0 hz
          go_wp2_with (go_at_call 14; refine (dig_any _ _).mono ?_; rintro e w' ⟨rfl, rfl⟩; rw [hb'.out])
          go_round
          case rel => exact ⟨k + 1, L, true, by omega, by omega, by go_num, by go_num, rfl, rfl, hideIt (by rw [HS.out]; exact H.out)⟩
          case measure => simp [intOf]; omega
    · obtain rfl : k = a := by omega
      have hb' := hideIt (dig_not (c := s[k]) (by have := hp.out; omega))
      have hp' : ((s[k].toNat : Int) == 46) = true := beq_iff_eq.2 hp.out
      clear hD hlt hp
      go_wp2_with (go_at_call 14; refine (dig_any _ _).mono ?_; rintro e w' ⟨rfl, rfl⟩; rw [hb'.out])
      go_loop [4, 7, 8, 9] (fun i fr ld nz => ∃ (j L' : Nat) (nb' : Bool), k + 1 ≤ j ∧ j ≤ b ∧ L' ≤ j ∧ i = .int .i64 j ∧ fr = .int .i64 ((j : Int) - (k + 1)) ∧ ld = .int .i64 L' ∧ nz = .bool nb' ∧ Hid (LN (Seg s 0 k ++ Seg s (k + 1) j) L' nb')) (fun i _ _ _ => s.size - (intOf i).toNat)
      case atStart => exact ⟨k + 1, L, nb, Nat.le_refl _, hab, by omega, by go_num, by go_num, rfl, rfl, hideIt (by rw [seg_nil, List.append_nil]; exact hN.out)⟩
      case round =>
        clear hN hL hp' hb'
        obtain ⟨j, L, nb, hj1, hj2, hL, rfl, rfl, rfl, rfl, hN⟩ := hrel
        by_cases hlt : j < b
        · have hlts : j < s.size := by omega
          have hb' := hideIt (hE.out j hlts hj1 hlt)
          have HS : Hid (Seg s 0 k ++ Seg s (k + 1) (j + 1) = (Seg s 0 k ++ Seg s (k + 1) j) ++ [s[j]]) := hideIt (by rw [seg_snoc hj1 hlts, List.append_assoc])
          cases nb with
          | true =>
            have H := hideIt (hN.out.on s[j])
            clear hN HT HF HA HX0
            go_wp2_with (go_at_call 14; refine (dig_any _ _).mono ?_; rintro e w' ⟨rfl, rfl⟩; rw [hb'.out])
            go_round
            case rel => exact ⟨j + 1, L, true, by omega, by omega, by omega, by go_num, by go_num, rfl, rfl, hideIt (by rw [HS.out]; exact H.out)⟩
            case measure => simp [intOf]; omega
          | false =>
            by_cases hz : (s[j].toNat : Int) = 48
            · have H := hideIt (hN.out.zero hz)
              have hz' : ((s[j].toNat : Int) == 48) = true := beq_iff_eq.2 hz
              clear hN HT HF HA HX0 hz
              go_wp2_with (go_at_call 14; refine (dig_any _ _).mono ?_; rintro e w' ⟨rfl, rfl⟩; rw [hb'.out])
              go_round
              case rel => exact ⟨j + 1, L + 1, false, by omega, by omega, by omega, by go_num, by go_num, by go_num, rfl, hideIt (by rw [HS.out]; exact H.out)⟩
              case measure => simp [intOf]; omega
            · have H := hideIt (hN.out.new hz)
              have hz' : ((s[j].toNat : Int) == 48) = false := beq_eq_false_iff_ne.2 hz
              clear hN HT HF HA HX0 hz
              go_wp2_with (go_at_call 14; refine (dig_any _ _).mono ?_; rintro e w' ⟨rfl, rfl⟩; rw [hb'.out])
              go_round
              case rel => exact ⟨j + 1, L, true, by omega, by omega, by omega, by go_num, by go_num, rfl, rfl, hideIt (by rw [HS.out]; exact H.out)⟩
              case measure => simp [intOf]; omega
        · obtain rfl : j = b := by omega
          obtain ⟨hL2, hN2⟩ := hN.out
          rw [← hL2, ← hN2] at HT
          rw [← hN2] at HF
          clear hN hL2 hN2 hE hlt
          rcases HX0.out with ⟨hbn, hx0⟩ | ⟨hb1, he, hX⟩
          · subst hx0
            have hjn : ¬ ((j : Nat) : Int) < s.size := by omega
            clear HX0
            go_wp2
            all_goals
              go_ret2
              refine ⟨res_eq ?_ ?_, rfl⟩
              · first
                  | (have h1 := HT.out rfl; omega)
                  | (have h1 := HF.out rfl; omega)
                  | (have h1 := HT.out (by assumption); omega)
                  | (have h1 := HF.out (by assumption); omega)
              · have h1 := HA.out
                omega
          · have hb' := hideIt (dig_not (c := s[j]) (by omega))
            have hpt : ((s[j].toNat : Int) == 46) = false := beq_eq_false_iff_ne.2 (by omega)
            have he' : ((s[j].toNat : Int) == 101) = true ∨ (((s[j].toNat : Int) == 101) = false ∧ ((s[j].toNat : Int) == 69) = true) := by
              simp only [beq_iff_eq, beq_eq_false_iff_ne]; omega
            clear he HX0
            rcases hX with ⟨hD3, hS⟩ | ⟨hb2, hD3, (⟨hg, hS⟩ | ⟨hg, hS⟩)⟩
            · have hg1 := dig_no (hD3 (j + 1) (by omega) (by omega) (by omega)) 43 (by omega)
              have hg2 := dig_no (hD3 (j + 1) (by omega) (by omega) (by omega)) 45 (by omega)
              have HX := hideIt hS
              have hDx := hideIt hD3
              clear hS hD3
              rcases he' with he1 | ⟨he1, he2⟩
              all_goals
                go_wp2_with (go_at_call 14; refine (dig_any _ _).mono ?_; rintro e w' ⟨rfl, rfl⟩; rw [hb'.out])
                go_loop [4, 12] (fun i z => ∃ (m : Nat) (v : Int), j + 1 ≤ m ∧ m ≤ s.size ∧ i = .int .i64 m ∧ z = .int .i64 v ∧ 0 ≤ v ∧ v ≤ 4611686018427387904 ∧ Hid (SZ (Seg s (j + 1) m) v)) (fun i _ => s.size - (intOf i).toNat)
                case atStart => exact ⟨j + 1, 0, Nat.le_refl _, by omega, by go_num, rfl, by omega, by omega, hideIt (by rw [seg_nil]; exact SZ.nil)⟩
                case round =>
                  obtain ⟨m, v, hm1, hm2, rfl, rfl, hv0, hv1, hV⟩ := hrel
                  by_cases hmlt : m < s.size
                  · have hb := hDx.out m hmlt hm1 hmlt
                    obtain ⟨hc0, hc1⟩ := dig_lo hb
                    have hb' := hideIt hb
                    have HS := hideIt (seg_snoc hm1 hmlt)
                    clear hb
                    by_cases hv2 : 461168601842738790 < v
                    · have H := hideIt (hV.out.top s[m] hv2)
                      clear hV
                      go_wp2_with (go_at_call 14; refine (dig_any _ _).mono ?_; rintro e w' ⟨rfl, rfl⟩; rw [hb'.out])
                      go_round
                      case rel => exact ⟨m + 1, _, by omega, by omega, by go_num, rfl, by omega, by omega, hideIt (by rw [HS.out]; exact H.out)⟩
                      case measure => simp [intOf]; omega
                    · by_cases hv3 : 4611686018427387904 < v * 10 + ((s[m].toNat : Int) - 48)
                      · have H := hideIt (hV.out.big hc0 (by omega) hv3)
                        clear hV
                        go_wp2_with (go_at_call 14; refine (dig_any _ _).mono ?_; rintro e w' ⟨rfl, rfl⟩; rw [hb'.out])
                        go_round
                        case rel => exact ⟨m + 1, _, by omega, by omega, by go_num, rfl, by omega, by omega, hideIt (by rw [HS.out]; exact H.out)⟩
                        case measure => simp [intOf]; omega
                      · have H := hideIt (hV.out.step hc0 (by omega) (by omega))
                        clear hV
                        go_wp2_with (go_at_call 14; refine (dig_any _ _).mono ?_; rintro e w' ⟨rfl, rfl⟩; rw [hb'.out])
                        go_round
                        case rel => exact ⟨m + 1, _, by omega, by omega, by go_num, rfl, by omega, by omega, hideIt (by rw [HS.out]; exact H.out)⟩
                        case measure => simp [intOf]; omega
                  · obtain rfl : m = s.size := by omega
                    have hxv : v = x := hV.out.trans HX.out.symm
                    clear hV hDx HX
                    go_wp2
                    all_goals
                      go_ret2
                      refine ⟨res_eq ?_ ?_, rfl⟩
                      · first
                          | (have h1 := HT.out rfl; omega)
                          | (have h1 := HF.out rfl; omega)
                          | (have h1 := HT.out (by assumption); omega)
                          | (have h1 := HF.out (by assumption); omega)
                      · have h1 := HA.out
                        omega
            · have hg1 : ((s[j + 1].toNat : Int) == 43) = true := beq_iff_eq.2 hg
              have hg2 : ((s[j + 1].toNat : Int) == 45) = false := beq_eq_false_iff_ne.2 (by omega)
              have HX := hideIt hS
              have hDx := hideIt hD3
              clear hS hD3 hg
              rcases he' with he1 | ⟨he1, he2⟩
              all_goals
                go_wp2_with (go_at_call 14; refine (dig_any _ _).mono ?_; rintro e w' ⟨rfl, rfl⟩; rw [hb'.out])
                go_loop [4, 12] (fun i z => ∃ (m : Nat) (v : Int), j + 2 ≤ m ∧ m ≤ s.size ∧ i = .int .i64 m ∧ z = .int .i64 v ∧ 0 ≤ v ∧ v ≤ 4611686018427387904 ∧ Hid (SZ (Seg s (j + 2) m) v)) (fun i _ => s.size - (intOf i).toNat)
                case atStart => exact ⟨j + 2, 0, Nat.le_refl _, by omega, by go_num, rfl, by omega, by omega, hideIt (by rw [seg_nil]; exact SZ.nil)⟩
                case round =>
                  obtain ⟨m, v, hm1, hm2, rfl, rfl, hv0, hv1, hV⟩ := hrel
                  by_cases hmlt : m < s.size
                  · have hb := hDx.out m hmlt hm1 hmlt
                    obtain ⟨hc0, hc1⟩ := dig_lo hb
                    have hb' := hideIt hb
                    have HS := hideIt (seg_snoc hm1 hmlt)
                    clear hb
                    by_cases hv2 : 461168601842738790 < v
                    · have H := hideIt (hV.out.top s[m] hv2)
                      clear hV
                      go_wp2_with (go_at_call 14; refine (dig_any _ _).mono ?_; rintro e w' ⟨rfl, rfl⟩; rw [hb'.out])
                      go_round
                      case rel => exact ⟨m + 1, _, by omega, by omega, by go_num, rfl, by omega, by omega, hideIt (by rw [HS.out]; exact H.out)⟩
                      case measure => simp [intOf]; omega
                    · by_cases hv3 : 4611686018427387904 < v * 10 + ((s[m].toNat : Int) - 48)
                      · have H := hideIt (hV.out.big hc0 (by omega) hv3)
                        clear hV
                        go_wp2_with (go_at_call 14; refine (dig_any _ _).mono ?_; rintro e w' ⟨rfl, rfl⟩; rw [hb'.out])
                        go_round
                        case rel => exact ⟨m + 1, _, by omega, by omega, by go_num, rfl, by omega, by omega, hideIt (by rw [HS.out]; exact H.out)⟩
                        case measure => simp [intOf]; omega
                      · have H := hideIt (hV.out.step hc0 (by omega) (by omega))
                        clear hV
                        go_wp2_with (go_at_call 14; refine (dig_any _ _).mono ?_; rintro e w' ⟨rfl, rfl⟩; rw [hb'.out])
                        go_round
                        case rel => exact ⟨m + 1, _, by omega, by omega, by go_num, rfl, by omega, by omega, hideIt (by rw [HS.out]; exact H.out)⟩
                        case measure => simp [intOf]; omega
                  · obtain rfl : m = s.size := by omega
                    have hxv : v = x := hV.out.trans HX.out.symm
                    clear hV hDx HX
                    go_wp2
                    all_goals
                      go_ret2
                      refine ⟨res_eq ?_ ?_, rfl⟩
                      · first
                          | (have h1 := HT.out rfl; omega)
                          | (have h1 := HF.out rfl; omega)
                          | (have h1 := HT.out (by assumption); omega)
                          | (have h1 := HF.out (by assumption); omega)
                      · have h1 := HA.out
                        omega
            · have hg1 : ((s[j + 1].toNat : Int) == 43) = false := beq_eq_false_iff_ne.2 (by omega)
              have hg2 : ((s[j + 1].toNat : Int) == 45) = true := beq_iff_eq.2 hg
              have HX := hideIt hS
              have hDx := hideIt hD3
              clear hS hD3 hg
              rcases he' with he1 | ⟨he1, he2⟩
              all_goals
                go_wp2_with (go_at_call 14; refine (dig_any _ _).mono ?_; rintro e w' ⟨rfl, rfl⟩; rw [hb'.out])
                go_loop [4, 12] (fun i z => ∃ (m : Nat) (v : Int), j + 2 ≤ m ∧ m ≤ s.size ∧ i = .int .i64 m ∧ z = .int .i64 v ∧ 0 ≤ v ∧ v ≤ 4611686018427387904 ∧ Hid (SZ (Seg s (j + 2) m) v)) (fun i _ => s.size - (intOf i).toNat)
                case atStart => exact ⟨j + 2, 0, Nat.le_refl _, by omega, by go_num, rfl, by omega, by omega, hideIt (by rw [seg_nil]; exact SZ.nil)⟩
                case round =>
                  obtain ⟨m, v, hm1, hm2, rfl, rfl, hv0, hv1, hV⟩ := hrel
                  by_cases hmlt : m < s.size
                  · have hb := hDx.out m hmlt hm1 hmlt
                    obtain ⟨hc0, hc1⟩ := dig_lo hb
                    have hb' := hideIt hb
                    have HS := hideIt (seg_snoc hm1 hmlt)
                    clear hb
                    by_cases hv2 : 461168601842738790 < v
                    · have H := hideIt (hV.out.top s[m] hv2)
                      clear hV
                      go_wp2_with (go_at_call 14; refine (dig_any _ _).mono ?_; rintro e w' ⟨rfl, rfl⟩; rw [hb'.out])
                      go_round
                      case rel => exact ⟨m + 1, _, by omega, by omega, by go_num, rfl, by omega, by omega, hideIt (by rw [HS.out]; exact H.out)⟩
                      case measure => simp [intOf]; omega
                    · by_cases hv3 : 4611686018427387904 < v * 10 + ((s[m].toNat : Int) - 48)
                      · have H := hideIt (hV.out.big hc0 (by omega) hv3)
                        clear hV
                        go_wp2_with (go_at_call 14; refine (dig_any _ _).mono ?_; rintro e w' ⟨rfl, rfl⟩; rw [hb'.out])
                        go_round
                        case rel => exact ⟨m + 1, _, by omega, by omega, by go_num, rfl, by omega, by omega, hideIt (by rw [HS.out]; exact H.out)⟩
                        case measure => simp [intOf]; omega
                      · have H := hideIt (hV.out.step hc0 (by omega) (by omega))
                        clear hV
                        go_wp2_with (go_at_call 14; refine (dig_any _ _).mono ?_; rintro e w' ⟨rfl, rfl⟩; rw [hb'.out])
                        go_round
                        case rel => exact ⟨m + 1, _, by omega, by omega, by go_num, rfl, by omega, by omega, hideIt (by rw [HS.out]; exact H.out)⟩
                        case measure => simp [intOf]; omega
                  · obtain rfl : m = s.size := by omega
                    have hxv : v = -x := hV.out.trans HX.out.symm
                    clear hV hDx HX
                    go_wp2
                    all_goals
                      go_ret2
                      refine ⟨res_eq ?_ ?_, rfl⟩
                      · first
                          | (have h1 := HT.out rfl; omega)
                          | (have h1 := HF.out rfl; omega)
                          | (have h1 := HT.out (by assumption); omega)
                          | (have h1 := HF.out (by assumption); omega)
                      · have h1 := HA.out
                        omega
end Go.Proofs.Qxb6606321aDoor
