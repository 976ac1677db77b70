/-
  THE WALKS of seat b6605817aD: zzSmallRb1, zzValidNameRb1, zzWordRb1, ZZaddKid.
-/
import Derived.Test.Qxb6605817aDoorEnts
namespace Go.Proofs.Qxb6605817aDoor
open Go.RowKit

def nameSum : List Ent → Nat
  | [] => 0
  | e :: r => e.name.size + nameSum r
theorem nameSum_append : ∀ a b : List Ent, nameSum (a ++ b) = nameSum a + nameSum b
  | [], b => by simp [nameSum]
  | e :: a, b => by rw [List.cons_append, nameSum, nameSum, nameSum_append a b]; omega
theorem nameSum_step (es : List Ent) (k : Nat) (h : k < es.length) : nameSum (es.take (k + 1)) = nameSum (es.take k) + es[k].name.size := by
  rw [List.take_succ_eq_append_getElem h, nameSum_append]; simp [nameSum]

/-- It returns a bool; where that is true, Q holds. -/
def BoolIf (e : Ending) (Q : Prop) : Prop := ∃ r, e = .returned (.bool r) ∧ (r = true → Q)
theorem boolIf_no (Q : Prop) : BoolIf (.returned (.bool false)) Q := ⟨false, rfl, fun h => by cases h⟩
theorem boolIf_yes {Q : Prop} (h : Q) : BoolIf (.returned (.bool true)) Q := ⟨true, rfl, fun _ => h⟩

set_option maxHeartbeats 1000000 in
theorem small_any (a : Option Addr) (len cap : Nat) (p : ByteArray) (es : List Ent) (b off : Nat) (w : World) (hp : p.size ≤ maxLen) (hlen : es.length = len) (hmax : len ≤ maxLen) (hE : Ents w a es b off) :
    Calls Tryd.prog 14 #[.slice a len cap, .string p] w fun e w' => BoolIf e (len ≤ 4096 ∧ p.size + 32 * len + nameSum es ≤ 1048576) ∧ w' = w := by
  unfold maxLen at *
  by_cases hb : 4096 < len
  · go_enter Tryd.func14, Tryd.ntmps14
    go_wp2
    go_ret
    exact ⟨boolIf_no _, rfl⟩
  by_cases hpb : 1048576 < p.size
  · go_enter Tryd.func14, Tryd.ntmps14
    go_wp2
    go_ret
    exact ⟨boolIf_no _, rfl⟩
  go_enter Tryd.func14, Tryd.ntmps14
  go_wp2
  go_loop [5, 6] (fun zn i => ∃ (n k : Nat), n ≤ 1310720 ∧ Hid (n = p.size + 32 * len + nameSum (es.take k)) ∧ (0 < k → n ≤ 1048576) ∧ k ≤ len ∧ zn = .int .i64 n ∧ i = .int .i64 k) (fun _ i => len - (intOf i).toNat)
  case atStart => exact ⟨p.size + 32 * len, 0, by omega, by simp [nameSum, Hid], by omega, Nat.zero_le _, by go_num, rfl⟩
  case round =>
    obtain ⟨n, k, hn, hN, hn2, hk, rfl, rfl⟩ := hrel
    by_cases hlt : k < len
    · have hk' : k < es.length := by omega
      obtain rfl := hE.base (by omega)
      have hc := hE.name k hk'
      have hz := hE.wfn k hk'
      unfold maxLen at hz
      have hs := nameSum_step es k hk'
      have HN : Hid (n + es[k].name.size = p.size + 32 * len + nameSum (es.take (k + 1))) := by
        have := hN.out
        show _ = _
        omega
      clear hs hN
      generalize es[k].name = nm at *
      by_cases hnm : 1048576 < nm.size
      · go_wp2
        go_ret
        exact ⟨boolIf_no _, rfl⟩
      · by_cases hsum : 1048576 < n + nm.size
        · go_wp2
          go_ret
          exact ⟨boolIf_no _, rfl⟩
        · go_wp2
          go_round
          case rel => exact ⟨n + nm.size, k + 1, by omega, HN, by omega, by omega, by go_num, by go_num⟩
          case measure => simp [intOf]; omega
    · have hfin : Hid (len ≤ 4096 ∧ p.size + 32 * len + nameSum es ≤ 1048576) := by
        show _ ∧ _
        have h1 := hN.out
        rw [List.take_of_length_le (by omega)] at h1
        refine ⟨by omega, ?_⟩
        by_cases h0 : 0 < k
        · have := hn2 h0; omega
        · have : es = [] := List.length_eq_zero_iff.1 (by omega)
          subst this
          simp [nameSum] at *
          omega
      clear hN
      go_wp2
      go_ret
      exact ⟨boolIf_yes hfin.out, rfl⟩

/-- A good name: not empty, no slash. -/
def validName (s : List UInt8) : Bool := !s.isEmpty && s.all (fun c => c != 47)

theorem drop_cons (s : ByteArray) (k : Nat) (h : k < s.size) : s.data.toList.drop k = s[k] :: s.data.toList.drop (k + 1) := by
  rw [List.drop_eq_getElem_cons (by simpa using h)]
  rfl
theorem valid_empty (s : ByteArray) (h : s.size = 0) : validName s.data.toList = false := by
  have : s.data.toList = [] := List.length_eq_zero_iff.1 (by simpa using h)
  rw [this]; rfl
theorem valid_start (s : ByteArray) (h : s.size ≠ 0) : validName s.data.toList = (s.data.toList.drop 0).all (fun c => c != 47) := by
  have : s.data.toList ≠ [] := fun e => h (by have := congrArg List.length e; simpa using this)
  unfold validName
  rw [List.isEmpty_eq_false_iff.2 this]; rfl
theorem valid_bad (s : ByteArray) (k : Nat) (h : k < s.size) (hc : (s[k].toNat : Int) = 47) : (s.data.toList.drop k).all (fun c => c != 47) = false := by
  have : s[k] = 47 := UInt8.toNat_inj.1 (by have : (47 : UInt8).toNat = 47 := rfl; omega)
  rw [drop_cons s k h, List.all_cons, this]; rfl
theorem valid_good (s : ByteArray) (k : Nat) (h : k < s.size) (hc : (s[k].toNat : Int) ≠ 47) : (s.data.toList.drop k).all (fun c => c != 47) = (s.data.toList.drop (k + 1)).all (fun c => c != 47) := by
  have : (s[k] != 47) = true := by rw [bne_iff_ne]; intro e; rw [e] at hc; exact hc rfl
  rw [drop_cons s k h, List.all_cons, this]; rfl

set_option maxHeartbeats 1000000 in
theorem validName_any (s : ByteArray) (w : World) (hs : s.size ≤ maxLen) :
    Calls Tryd.prog 29 #[.string s] w fun e w' => e = .returned (.bool (validName s.data.toList)) ∧ w' = w := by
  unfold maxLen at hs
  by_cases h0 : s.size = 0
  · have hv := hideIt (valid_empty s h0)
    have h0' : ((s.size : Int) == 0) = true := by rw [beq_iff_eq]; omega
    clear h0
    go_enter Tryd.func29, Tryd.ntmps29
    go_wp2
    go_ret
    exact ⟨ret_bool hv.out.symm, rfl⟩
  · have hv := hideIt (valid_start s h0)
    have h0' : ((s.size : Int) == 0) = false := by rw [beq_eq_false_iff_ne]; omega
    clear h0
    generalize validName s.data.toList = want at *
    go_enter Tryd.func29, Tryd.ntmps29
    go_wp2
    go_loop [3] (fun i => ∃ k : Nat, k ≤ s.size ∧ i = .int .i64 k ∧ Hid (want = (s.data.toList.drop k).all (fun c => c != 47))) (fun i => s.size - (intOf i).toNat)
    case atStart => exact ⟨0, Nat.zero_le _, rfl, hv⟩
    case round =>
      obtain ⟨k, hk, rfl, hV⟩ := hrel
      by_cases hlt : k < s.size
      · by_cases hd : (s[k].toNat : Int) = 47
        · have hd' : ((s[k].toNat : Int) == 47) = true := beq_iff_eq.2 hd
          have H := hideIt (hV.out.trans (valid_bad s k hlt hd))
          clear hV hd
          go_wp2
          go_ret
          exact ⟨ret_bool H.out.symm, rfl⟩
        · have hd' : ((s[k].toNat : Int) == 47) = false := beq_eq_false_iff_ne.2 hd
          have H := hideIt (hV.out.trans (valid_good s k hlt hd))
          clear hV hd
          go_wp2
          go_round
          case rel => exact ⟨k + 1, by omega, by go_num, H⟩
          case measure => simp [intOf]; omega
      · have H : Hid (want = true) := by rw [hV.out, List.drop_of_length_le (by simp; omega)]; rfl
        clear hV
        go_wp2
        go_ret
        exact ⟨ret_bool H.out.symm, rfl⟩

theorem word_any (d : Bool) (w : World) :
    Calls Tryd.prog 23 #[.bool d] w fun e w' => e = .returned (.string (word d)) ∧ w' = w := by
  cases d
  all_goals
    go_enter Tryd.func23, Tryd.ntmps23
    go_wp2
    go_ret
    exact ⟨rfl, rfl⟩
end Go.Proofs.Qxb6605817aDoor
