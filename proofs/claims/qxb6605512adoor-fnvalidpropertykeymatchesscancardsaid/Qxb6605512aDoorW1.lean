/-
  THE WALKS of seat b6605512aD, first part: zzKeyByte, zzKeyScan, the two guards on lengths.
-/
import Derived.Test.Qxb6605512aDoorRows
import Derived.Test.Qxb6605512aDoorPlain
import Derived.WalkKit
import Derived.WalkSpells
import Derived.WalkLawsBesides
namespace Go.Proofs.Qxb6605512aDoor
open Go.RowKit

theorem hideIt {p : Prop} (h : p) : Hid p := h

theorem kb_eq (c : UInt8) : Plain.kb c = ((decide (97 ≤ (c.toNat : Int)) && decide ((c.toNat : Int) ≤ 122)) || (decide (48 ≤ (c.toNat : Int)) && decide ((c.toNat : Int) ≤ 57)) || decide ((c.toNat : Int) = 95)) := by
  unfold Plain.kb
  rw [Bool.eq_iff_iff]
  simp
  omega

set_option maxHeartbeats 400000 in
theorem keyByte_any (c : UInt8) (w : World) :
    Calls Tryd.prog 10 #[.int .u8 c.toNat] w fun e w' => e = .returned (.bool (Plain.kb c)) ∧ w' = w := by
  have hk := kb_eq c
  have HK : Hid (Plain.kb c = ((decide (97 ≤ (c.toNat : Int)) && decide ((c.toNat : Int) ≤ 122)) || (decide (48 ≤ (c.toNat : Int)) && decide ((c.toNat : Int) ≤ 57)) || decide ((c.toNat : Int) = 95))) := hk
  clear hk
  by_cases h1 : 97 ≤ (c.toNat : Int) <;> by_cases h2 : (c.toNat : Int) ≤ 122 <;> by_cases h3 : 48 ≤ (c.toNat : Int) <;> by_cases h4 : (c.toNat : Int) ≤ 57 <;> try omega
  all_goals
    go_enter Tryd.func10, Tryd.ntmps10
    go_wp2
    go_ret
    refine ⟨?_, rfl⟩
    rw [HK.out]
    first
      | (simp [h1, h2, h3, h4]; done)
      | (refine congrArg (fun b => Ending.returned (.bool b)) ?_
         rw [Bool.eq_iff_iff]
         simp
         omega)

theorem drop_cons (s : ByteArray) (k : Nat) (h : k < s.size) : s.data.toList.drop k = s[k] :: s.data.toList.drop (k + 1) := by
  rw [List.drop_eq_getElem_cons (by simpa using h)]
  rfl

theorem scan_dot_bad (s : ByteArray) (k : Nat) (h : k < s.size) (hc : (s[k].toNat : Int) = 46) : Plain.scan true (s.data.toList.drop k) = false := by
  have : s[k] = 46 := UInt8.toNat_inj.1 (by have : (46 : UInt8).toNat = 46 := rfl; omega)
  rw [drop_cons s k h, Plain.scan, this]; rfl
theorem scan_dot (s : ByteArray) (k : Nat) (h : k < s.size) (hc : (s[k].toNat : Int) = 46) : Plain.scan false (s.data.toList.drop k) = Plain.scan true (s.data.toList.drop (k + 1)) := by
  have : s[k] = 46 := UInt8.toNat_inj.1 (by have : (46 : UInt8).toNat = 46 := rfl; omega)
  rw [drop_cons s k h, Plain.scan, this]; rfl
theorem scan_bad (s : ByteArray) (k : Nat) (b : Bool) (h : k < s.size) (hc : (s[k].toNat : Int) ≠ 46) (hb : Plain.kb s[k] = false) : Plain.scan b (s.data.toList.drop k) = false := by
  have : (s[k] == 46) = false := by
    rw [beq_eq_false_iff_ne]; intro e; rw [e] at hc; exact hc rfl
  rw [drop_cons s k h, Plain.scan, this, hb]; rfl
theorem scan_good (s : ByteArray) (k : Nat) (b : Bool) (h : k < s.size) (hc : (s[k].toNat : Int) ≠ 46) (hb : Plain.kb s[k] = true) : Plain.scan b (s.data.toList.drop k) = Plain.scan false (s.data.toList.drop (k + 1)) := by
  have : (s[k] == 46) = false := by
    rw [beq_eq_false_iff_ne]; intro e; rw [e] at hc; exact hc rfl
  rw [drop_cons s k h, Plain.scan, this, hb]; rfl

theorem ret_bool {a b : Bool} (h : a = b) : Ending.returned (.bool a) = .returned (.bool b) := by rw [h]

set_option maxHeartbeats 800000 in
theorem keyScan_any (s : ByteArray) (w : World) (hs : s.size ≤ maxLen) :
    Calls Tryd.prog 7 #[.string s] w fun e w' => e = .returned (.bool (Plain.scan true s.data.toList)) ∧ w' = w := by
  unfold maxLen at hs
  by_cases h0 : (s.size : Int) = 0
  · go_enter Tryd.func7, Tryd.ntmps7
    go_wp2
    go_ret
    refine ⟨ret_bool ?_, rfl⟩
    have : s.data.toList = [] := List.length_eq_zero_iff.1 (by have : s.data.toList.length = s.size := by simp
                                                               omega)
    rw [this]; rfl
  · have h0' : ((s.size : Int) == 0) = false := by rw [beq_eq_false_iff_ne]; exact h0
    clear h0
    go_enter Tryd.func7, Tryd.ntmps7
    go_wp2
    go_loop [3, 4] (fun ad i => ∃ (k : Nat) (b : Bool), k ≤ s.size ∧ i = .int .i64 k ∧ ad = .bool b ∧ Hid (Plain.scan true s.data.toList = Plain.scan b (s.data.toList.drop k))) (fun _ i => s.size - (intOf i).toNat)
    case atStart => exact ⟨0, true, Nat.zero_le _, rfl, rfl, rfl⟩
    case round =>
      obtain ⟨k, b, hk, rfl, rfl, hsc⟩ := hrel
      by_cases hlt : k < s.size
      · by_cases hd : (s[k].toNat : Int) = 46
        · have hd' : ((s[k].toNat : Int) == 46) = true := beq_iff_eq.2 hd
          cases b with
          | true =>
            have H := hideIt (hsc.out.trans (scan_dot_bad s k hlt hd))
            clear hsc hd
            go_wp2
            go_ret
            exact ⟨ret_bool H.out.symm, rfl⟩
          | false =>
            have H := hideIt (hsc.out.trans (scan_dot s k hlt hd))
            clear hsc hd
            go_wp2
            go_round
            case rel => exact ⟨k + 1, true, by omega, by go_num, rfl, H⟩
            case measure => simp [intOf]; omega
        · have hd' : ((s[k].toNat : Int) == 46) = false := beq_eq_false_iff_ne.2 hd
          cases hb : Plain.kb s[k] with
          | false =>
            have H := hideIt (hsc.out.trans (scan_bad s k b hlt hd hb))
            have hb' := hideIt hb
            clear hsc hd hb
            go_wp2_with (go_at_call 10; refine (keyByte_any _ _).mono ?_; rintro e w' ⟨rfl, rfl⟩; rw [hb'.out])
            go_ret
            exact ⟨ret_bool H.out.symm, rfl⟩
          | true =>
            have H := hideIt (hsc.out.trans (scan_good s k b hlt hd hb))
            have hb' := hideIt hb
            clear hsc hd hb
            go_wp2_with (go_at_call 10; refine (keyByte_any _ _).mono ?_; rintro e w' ⟨rfl, rfl⟩; rw [hb'.out])
            go_round
            case rel => exact ⟨k + 1, false, by omega, by go_num, rfl, H⟩
            case measure => simp [intOf]; omega
      · go_wp2
        go_ret
        refine ⟨ret_bool ?_, rfl⟩
        rw [hsc.out, List.drop_of_length_le (by simp; omega)]
        rfl
end Go.Proofs.Qxb6605512aDoor
