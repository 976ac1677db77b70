/-
  THE WALKS of seat b6606321aD, fourth part: decimalDigits.
-/
import Derived.Test.Qxb6606321aDoorW1
import Derived.Test.Qxb6606321aDoorPlain2
import Derived.Test.Qxb6606321aDoorShelf
import Derived.Lib.AtoiErrMem
import Derived.WalkSmall
namespace Go.Proofs.Qxb6606321aDoor
open Go.RowKit

theorem cut_any {W Pt F X t : List UInt8} (h : Plain.IsLit t W Pt F X) (M : ByteArray) (hM : M.data.toList = W ++ (Pt ++ F)) (hsz : M.size < 4294967281) (m : Int) (w : World) (hm : w.cell? ⟨0, 0, none⟩ = some (.int .i64 m)) :
    Calls Tryd.prog 20 #[.string M, .string ⟨#[46]⟩] w fun e w' => (∃ (wb fb : ByteArray) (ok : Bool), e = .returned (.tuple #[.string wb, .string fb, .bool ok]) ∧ wb.data.toList = W ∧ fb.data.toList = F) ∧ Below w.heap.size w w' := by
  refine (Tryd.strings_Cut M ⟨#[46]⟩ m w hsz hm).mono ?_
  rintro e w' ⟨rfl, n, rfl⟩
  refine ⟨⟨_, _, _, rfl, ?_, ?_⟩, below_drewN (Below.refl _ _) n⟩
  · rw [hM]; exact h.cut.1
  · rw [hM]; exact h.cut.2
theorem trim_any (b : ByteArray) (w : World) :
    Calls Tryd.prog 21 #[.string b, .string ⟨#[48]⟩] w fun e w' => (∃ tb : ByteArray, e = .returned (.string tb) ∧ tb.size = (Lib.trimLeftB b.data.toList 48).length) ∧ w' = w := by
  refine (Tryd.strings_TrimLeft_one b 48 (by decide) w).mono ?_
  rintro e w' ⟨rfl, hw⟩
  exact ⟨⟨_, rfl, by simp [ByteArray.size]⟩, hw⟩
theorem trim_le (b : List UInt8) : (Lib.trimLeftB b 48).length ≤ b.length := by rw [Plain.trim_len]; omega
theorem size_list (b : ByteArray) : b.data.toList.length = b.size := by simp
theorem empty_of {b : ByteArray} (h : b.size = 0) : b.toList.isEmpty = true := by
  rw [Lib.toList_data, List.isEmpty_iff]
  exact List.length_eq_zero_iff.1 (by rw [size_list]; exact h)
theorem nonempty_of {b : ByteArray} (h : b.size ≠ 0) : b.toList.isEmpty = false := by
  rw [Lib.toList_data, List.isEmpty_eq_false_iff]
  intro e
  exact h (by rw [← size_list, e]; rfl)
theorem ext_drop {s : ByteArray} {A : List UInt8} {c : UInt8} {B : List UInt8} (h : s.data.toList = A ++ c :: B) : (s.extract (A.length + 1) s.size).data.toList = B := by
  have hl := size_list s
  have h2 := congrArg List.length h
  rw [hl, List.length_append, List.length_cons] at h2
  rw [ByteArray.data_extract, Array.toList_extract, h]
  rw [List.extract_eq_take_drop, List.drop_append, List.drop_of_length_le (by omega), show A.length + 1 - A.length = 1 by omega, List.drop_succ_cons, List.drop_zero, List.nil_append, List.take_of_length_le (by omega)]
theorem ext_take {s : ByteArray} {A B : List UInt8} (h : s.data.toList = A ++ B) : (s.extract 0 A.length).data.toList = A := by
  rw [ByteArray.data_extract, Array.toList_extract, h]
  simp [List.extract_eq_take_drop]
theorem parse_any (b : ByteArray) (x : Int) (hP : Plain.Parsed b.data.toList x) (hb : b.size ≤ 1048576) (w : World) (tp : TypeId) (pv : Value) (hvar : w.var? Tryd.prog "strconv.ErrRange" = some #[.iface tp pv]) :
    Calls Tryd.prog 19 #[.string b, .int .i64 10, .int .i64 64] w fun e w' => (∃ (y : Int) (v : Value), e = .returned (.tuple #[.int .i64 y, v]) ∧ Plain.clamp y = x ∧ -9223372036854775808 ≤ y ∧ y ≤ 9223372036854775807) ∧ Below w.heap.size w w' := by
  obtain ⟨y, hy, hc, h1, h2⟩ := hP
  rcases hy with hy | ⟨hy, hsat⟩
  · refine (Tryd.strconv_ParseInt_10_at64_ok b (by omega) y hy w).mono ?_
    rintro e w' ⟨rfl, hw⟩
    refine ⟨⟨y, _, rfl, hc, h1, h2⟩, ?_⟩
    rcases hw with rfl | ⟨t, rfl⟩
    · exact Below.refl _ _
    · exact Lib.bytesWorld_below _ _ _
  · refine (Tryd.strconv_ParseInt_10_at64_range_var b (by omega) hy tp pv w hvar).mono ?_
    rintro e w' ⟨N, rfl, _, _, hb⟩
    exact ⟨⟨y, _, by rw [hsat], hc, h1, h2⟩, hb⟩
theorem res_eq4 {x y x' y' : Int} (h1 : x = x') (h2 : y = y') : Ending.returned (.tuple #[.int .i64 x, .int .i64 y]) = .returned (.tuple #[.int .i64 x', .int .i64 y']) := by rw [h1, h2]

set_option maxRecDepth 100000 in
set_option maxHeartbeats 4000000 in
theorem digits_none (s : ByteArray) (w : World) (hs : s.size ≤ 1048576) (W Pt F : List UInt8) (h : Plain.IsLit s.data.toList W Pt F []) (m : Int) (hm : w.cell? ⟨0, 0, none⟩ = some (.int .i64 m)) :
    Calls Tryd.prog 15 #[.string s] w fun e w' => e = .returned (.tuple #[.int .i64 (Plain.before W F 0), .int .i64 (Plain.after F 0)]) ∧ Below w.heap.size w w' := by
  have heq : s.data.toList = W ++ (Pt ++ F) := by have := h.eq; rwa [List.append_nil] at this
  have h18 := hideIt (Tryd.strings_IndexAny_laid s ⟨#[101, 69]⟩ w (by omega) (by decide) (fun j b hb => h.ascii b (List.mem_of_getElem? hb)) (fun j b hb => by
    have : b ∈ [(101 : UInt8), 69] := List.mem_of_getElem? hb
    rw [List.mem_cons, List.mem_singleton] at this
    rcases this with rfl | rfl <;> decide))
  rw [heq, show (⟨#[101, 69]⟩ : ByteArray).data.toList = [101, 69] from rfl, Plain.any_no h.mant] at h18
  go_enter Tryd.func15, Tryd.ntmps15
  go_wp2_with fail
  refine h18.out.mono ?_
  rintro e w1 ⟨rfl, hb1⟩
  have hm1 := (hb1.cell (p := ⟨0, 0, none⟩) (World.block_lt_of_cell? w ⟨0, 0, none⟩ hm)).trans hm
  have HBw := hideIt hb1
  have h20 := hideIt (cut_any h s heq (by omega) m w1 hm1)
  clear hb1 h18 hm hm1
  go_wp2_with fail
  refine h20.out.mono ?_
  rintro e w3 ⟨⟨wb, fb, ok, rfl, hwb, hfb⟩, hb3⟩
  have HB := hideIt (HBw.out.trans (hb3.mono HBw.out.size))
  have hwl := size_list wb
  have hfl := size_list fb
  have hlen : W.length + F.length ≤ s.size := by
    have := congrArg List.length h.eq
    rw [size_list] at this
    simp at this
    omega
  rw [hwb] at hwl
  rw [hfb] at hfl
  have HA : Hid (Plain.after F 0 = max ((fb.size : Int) - 0) 0) := hideIt (by rw [← hfl]; rfl)
  have h21 := hideIt (trim_any wb w3)
  rw [hwb] at h21
  have h22 := hideIt (trim_any fb w3)
  rw [hfb] at h22
  have hle1 := trim_le W
  have hle2 := trim_le F
  have hws : wb.size ≤ 1048576 := by omega
  have hfs : fb.size ≤ 1048576 := by omega
  by_cases hn1 : (Lib.trimLeftB W 48).length = 0
  · by_cases hn2 : (Lib.trimLeftB F 48).length = 0
    · have HV : Hid (Plain.before W F 0 = 0) := hideIt (by rw [Plain.before_f hn1, if_pos hn2])
      rw [hn1] at h21
      rw [hn2] at h22
      clear h hwb hfb hb3 HBw h20 hlen hn1 hn2 hle1 hle2 hwl hfl
      go_wp2_with fail
      refine h21.out.mono ?_
      rintro e w' ⟨⟨tb, rfl, ht⟩, hw⟩
      subst hw
      go_wp2_with fail
      refine h22.out.mono ?_
      rintro e w' ⟨⟨ub, rfl, hu⟩, hw⟩
      subst hw
      have hue := empty_of hu
      go_wp2
      all_goals
        go_ret2
        refine ⟨res_eq4 ?_ ?_, HB.out⟩
        · have h1 := HV.out
          omega
        · have h1 := HA.out
          omega
    · have HV : Hid (Plain.before W F 0 = max (((Lib.trimLeftB F 48).length : Int) - fb.size + 0) 0) := hideIt (by rw [Plain.before_f hn1, if_neg hn2, hfl])
      rw [hn1] at h21
      rw [hfl] at hle2
      generalize (Lib.trimLeftB F 48).length = n2 at *
      clear h hwb hfb hb3 HBw h20 hlen hn1 hle1 hwl hfl
      go_wp2_with fail
      refine h21.out.mono ?_
      rintro e w' ⟨⟨tb, rfl, ht⟩, hw⟩
      subst hw
      go_wp2_with fail
      refine h22.out.mono ?_
      rintro e w' ⟨⟨ub, rfl, hu⟩, hw⟩
      subst hw hu
      have hue := nonempty_of hn2
      go_wp2
      all_goals
        go_ret2
        refine ⟨res_eq4 ?_ ?_, HB.out⟩
        · have h1 := HV.out
          omega
        · have h1 := HA.out
          omega
  · have HV : Hid (Plain.before W F 0 = max (((Lib.trimLeftB W 48).length : Int) + 0) 0) := hideIt (Plain.before_w hn1)
    rw [hwl] at hle1
    generalize (Lib.trimLeftB W 48).length = n1 at *
    clear h hwb hfb hb3 HBw h20 h22 hlen hle2 hwl hfl
    go_wp2_with fail
    refine h21.out.mono ?_
    rintro e w' ⟨⟨tb, rfl, ht⟩, hw⟩
    subst hw ht
    have hn1' : ((tb.size : Int) == 0) = false := beq_eq_false_iff_ne.2 (by omega)
    go_wp2
    all_goals
      go_ret2
      refine ⟨res_eq4 ?_ ?_, HB.out⟩
      · have h1 := HV.out
        omega
      · have h1 := HA.out
        omega

set_option maxRecDepth 100000 in
set_option maxHeartbeats 8000000 in
theorem digits_exp (s : ByteArray) (w : World) (hs : s.size ≤ 1048576) (W Pt F r : List UInt8) (e0 : UInt8) (he0 : e0 = 101 ∨ e0 = 69) (h : Plain.IsLit s.data.toList W Pt F (e0 :: r)) (x : Int) (hP : Plain.Parsed r x) (m : Int) (hm : w.cell? ⟨0, 0, none⟩ = some (.int .i64 m)) (tp : TypeId) (pv : Value) (hvar : ∀ W : World, Below w.heap.size w W → W.var? Tryd.prog "strconv.ErrRange" = some #[.iface tp pv]) :
    Calls Tryd.prog 15 #[.string s] w fun e w' => e = .returned (.tuple #[.int .i64 (Plain.before W F x), .int .i64 (Plain.after F x)]) ∧ Below w.heap.size w w' := by
  have heq : s.data.toList = (W ++ (Pt ++ F)) ++ e0 :: r := by have := h.eq; simpa using this
  have h18 := hideIt (Tryd.strings_IndexAny_laid s ⟨#[101, 69]⟩ w (by omega) (by decide) (fun j b hb => h.ascii b (List.mem_of_getElem? hb)) (fun j b hb => by
    have : b ∈ [(101 : UInt8), 69] := List.mem_of_getElem? hb
    rw [List.mem_cons, List.mem_singleton] at this
    rcases this with rfl | rfl <;> decide))
  have hidx : Lib.indexAny s.data.toList [101, 69] = ((W ++ (Pt ++ F)).length : Int) := by rw [heq]; exact Plain.any_at h.mant he0
  rw [show (⟨#[101, 69]⟩ : ByteArray).data.toList = [101, 69] from rfl, hidx] at h18
  have hbs : (W ++ (Pt ++ F)).length < s.size := by
    have := congrArg List.length heq
    rw [size_list] at this
    simp at this ⊢
    omega
  generalize hb : (W ++ (Pt ++ F)).length = b at *
  go_enter Tryd.func15, Tryd.ntmps15
  go_wp2_with fail
  refine h18.out.mono ?_
  rintro e w1 ⟨rfl, hb1⟩
  have hm1 := (hb1.cell (p := ⟨0, 0, none⟩) (World.block_lt_of_cell? w ⟨0, 0, none⟩ hm)).trans hm
  have HBw := hideIt hb1
  clear hb1 h18 hm
  go_wp2_with fail
  have hsub := ext_drop heq
  rw [hb] at hsub
  have hsub2 := ext_take heq
  rw [hb] at hsub2
  have hsz : (s.extract (b + 1) s.size).size ≤ 1048576 := by
    rw [← size_list, hsub]
    have := congrArg List.length heq
    rw [size_list, List.length_append, List.length_cons] at this
    omega
  have hsz2 : (s.extract 0 b).size = b := by rw [← size_list, hsub2]; exact hb
  have h19 := hideIt (parse_any (s.extract (b + 1) s.size) x (by rw [hsub]; exact hP) hsz w1 tp pv (hvar w1 HBw.out))
  refine h19.out.mono ?_
  rintro e w2 ⟨⟨y, v, rfl, hc, hy1, hy2⟩, hb2⟩
  have HB2 := hideIt (HBw.out.trans (hb2.mono HBw.out.size))
  have hm2 := (hb2.cell (p := ⟨0, 0, none⟩) (World.block_lt_of_cell? w1 ⟨0, 0, none⟩ hm1)).trans hm1
  have h20 := hideIt (cut_any h (s.extract 0 b) hsub2 (by omega) m w2 hm2)
  clear hb2 hm1 hm2 h19 hsub hsub2 hsz hsz2 HBw
  have HBw := HB2
  clear HB2
  go_wp2_with fail
  have hxe : min (max y (-4611686018427387904)) 4611686018427387904 = x := hc
  have hx1 : -4611686018427387904 ≤ x := by omega
  have hx2 : x ≤ 4611686018427387904 := by omega
  rw [hxe]
  clear hxe hc hP hvar
  refine h20.out.mono ?_
  rintro e w3 ⟨⟨wb, fb, ok, rfl, hwb, hfb⟩, hb3⟩
  have HB := hideIt (HBw.out.trans (hb3.mono HBw.out.size))
  have hwl := size_list wb
  have hfl := size_list fb
  have hlen : W.length + F.length ≤ s.size := by
    have := congrArg List.length h.eq
    rw [size_list] at this
    simp at this
    omega
  rw [hwb] at hwl
  rw [hfb] at hfl
  have HA : Hid (Plain.after F x = max ((fb.size : Int) - x) 0) := hideIt (by rw [← hfl]; rfl)
  have h21 := hideIt (trim_any wb w3)
  rw [hwb] at h21
  have h22 := hideIt (trim_any fb w3)
  rw [hfb] at h22
  have hle1 := trim_le W
  have hle2 := trim_le F
  have hws : wb.size ≤ 1048576 := by omega
  have hfs : fb.size ≤ 1048576 := by omega
  by_cases hn1 : (Lib.trimLeftB W 48).length = 0
  · by_cases hn2 : (Lib.trimLeftB F 48).length = 0
    · have HV : Hid (Plain.before W F x = 0) := hideIt (by rw [Plain.before_f hn1, if_pos hn2])
      rw [hn1] at h21
      rw [hn2] at h22
      clear h hwb hfb hb3 HBw h20 hlen hn1 hn2 hle1 hle2 hwl hfl
      go_wp2_with fail
      refine h21.out.mono ?_
      rintro e w' ⟨⟨tb, rfl, ht⟩, hw⟩
      subst hw
      go_wp2_with fail
      refine h22.out.mono ?_
      rintro e w' ⟨⟨ub, rfl, hu⟩, hw⟩
      subst hw
      have hue := empty_of hu
      go_wp2
      all_goals
        go_ret2
        refine ⟨res_eq4 ?_ ?_, HB.out⟩
        · have h1 := HV.out
          omega
        · have h1 := HA.out
          omega
    · have HV : Hid (Plain.before W F x = max (((Lib.trimLeftB F 48).length : Int) - fb.size + x) 0) := hideIt (by rw [Plain.before_f hn1, if_neg hn2, hfl])
      rw [hn1] at h21
      rw [hfl] at hle2
      generalize (Lib.trimLeftB F 48).length = n2 at *
      clear h hwb hfb hb3 HBw h20 hlen hn1 hle1 hwl hfl
      go_wp2_with fail
      refine h21.out.mono ?_
      rintro e w' ⟨⟨tb, rfl, ht⟩, hw⟩
      subst hw
      go_wp2_with fail
      refine h22.out.mono ?_
      rintro e w' ⟨⟨ub, rfl, hu⟩, hw⟩
      subst hw hu
      have hue := nonempty_of hn2
      go_wp2
      all_goals
        go_ret2
        refine ⟨res_eq4 ?_ ?_, HB.out⟩
        · have h1 := HV.out
          omega
        · have h1 := HA.out
          omega
  · have HV : Hid (Plain.before W F x = max (((Lib.trimLeftB W 48).length : Int) + x) 0) := hideIt (Plain.before_w hn1)
    rw [hwl] at hle1
    generalize (Lib.trimLeftB W 48).length = n1 at *
    clear h hwb hfb hb3 HBw h20 h22 hlen hle2 hwl hfl
    go_wp2_with fail
    refine h21.out.mono ?_
    rintro e w' ⟨⟨tb, rfl, ht⟩, hw⟩
    subst hw ht
    have hn1' : ((tb.size : Int) == 0) = false := beq_eq_false_iff_ne.2 (by omega)
    go_wp2
    all_goals
      go_ret2
      refine ⟨res_eq4 ?_ ?_, HB.out⟩
      · have h1 := HV.out
        omega
      · have h1 := HA.out
        omega
end Go.Proofs.Qxb6606321aDoor
