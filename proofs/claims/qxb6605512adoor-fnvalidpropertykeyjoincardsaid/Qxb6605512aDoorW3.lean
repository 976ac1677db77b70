/-
  THE WALKS of seat b6605512aD, third part: ValidPropertyKey at every string of the laws' sizes; the two laws.
-/
import Derived.Test.Qxb6605512aDoorW2
import Derived.Test.Qxb6605512aDoorShelf
namespace Go.Proofs.Qxb6605512aDoor
open Go.RowKit Go.Lib

theorem splitB_sizes (sep : ByteArray) (save : Nat) : ∀ (k : Nat) (s p : ByteArray), p ∈ splitB sep save k s → p.size ≤ s.size
  | 0, s, p, h => by rw [splitB_zero] at h; rw [List.mem_singleton.1 h]; exact Nat.le_refl _
  | k + 1, s, p, h => by
    unfold splitB at h
    split at h
    · rw [List.mem_singleton.1 h]; exact Nat.le_refl _
    · rcases List.mem_cons.1 h with rfl | h
      · rw [ByteArray.size_extract]; omega
      · have := splitB_sizes sep save k _ p h
        rw [ByteArray.size_extract] at this; omega

theorem validKey_any (s : ByteArray) (m : Int) (w : World) (hs : s.size < 4294967281) (hm : w.cell? ⟨0, 0, none⟩ = some (.int .i64 m)) :
    Calls Tryd.prog 6 #[.string s] w fun e w' => e = .returned (.bool (Plain.scan true s.data.toList)) ∧ w' = w.alloc (splitBlock s) := by
  refine validKey_of s w ?_ (fun p hp => ?_) ?_
  · rw [parts_length]
    have := countB_le ⟨#[46]⟩ (by decide) s.size s (Nat.le_refl _)
    omega
  · have := splitB_sizes _ _ _ _ _ hp
    unfold maxLen; omega
  · unfold SplitSaid
    rw [parts_length]
    exact Tryd.strings_Split s ⟨#[46]⟩ m w hs hm (by decide)

theorem small5 (s : ByteArray) (w : World) (hs : s.size ≤ 1048576) :
    Calls Tryd.prog 5 #[.string s] w fun e w' => e = .returned (.bool true) ∧ w' = w := by
  go_enter Tryd.func5, Tryd.ntmps5
  go_wp2
  go_ret
  exact ⟨rfl, rfl⟩
theorem big5 (s : ByteArray) (w : World) (hs : s.size ≤ maxLen) (hb : 1048576 < s.size) :
    Calls Tryd.prog 5 #[.string s] w fun e w' => e = .returned (.bool false) ∧ w' = w := by
  unfold maxLen at hs
  go_enter Tryd.func5, Tryd.ntmps5
  go_wp2
  go_ret
  exact ⟨rfl, rfl⟩
theorem small8 (s t : ByteArray) (w : World) (hs : s.size + t.size ≤ 1048576) :
    Calls Tryd.prog 8 #[.string s, .string t] w fun e w' => e = .returned (.bool true) ∧ w' = w := by
  go_enter Tryd.func8, Tryd.ntmps8
  go_wp2
  go_ret
  exact ⟨rfl, rfl⟩
theorem big8 (s t : ByteArray) (w : World) (hs : s.size ≤ maxLen) (ht : t.size ≤ maxLen) (hb : 1048576 < s.size + t.size) :
    Calls Tryd.prog 8 #[.string s, .string t] w fun e w' => e = .returned (.bool false) ∧ w' = w := by
  unfold maxLen at hs ht
  by_cases h1 : 1048576 < s.size
  · go_enter Tryd.func8, Tryd.ntmps8
    go_wp2
    go_ret
    exact ⟨rfl, rfl⟩
  · by_cases h2 : 1048576 < t.size
    · go_enter Tryd.func8, Tryd.ntmps8
      go_wp2
      go_ret
      exact ⟨rfl, rfl⟩
    · go_enter Tryd.func8, Tryd.ntmps8
      go_wp2
      go_ret
      exact ⟨rfl, rfl⟩

set_option maxHeartbeats 400000 in
theorem law_scan (s : ByteArray) (m : Int) (w : World) (hs : s.size ≤ maxLen) (hm : w.cell? ⟨0, 0, none⟩ = some (.int .i64 m)) :
    Calls Tryd.prog 3 #[.string s] w fun e w' => e = .returned (.bool true) ∧ Below w.heap.size w w' := by
  by_cases hbig : 1048576 < s.size
  · have h5 := hideIt (big5 s w hs hbig)
    go_enter Tryd.func3, Tryd.ntmps3
    go_wp2_with (go_at_call 5; refine h5.out.mono ?_; rintro e w' ⟨rfl, hw⟩; subst hw)
    go_ret
    exact ⟨rfl, Below.refl _ _⟩
  · have hV := hideIt (validKey_any s m w (by omega) hm)
    have hK := hideIt (fun w => keyScan_any s w hs)
    have h5 := hideIt (small5 s w (by omega))
    unfold maxLen at hs
    go_enter Tryd.func3, Tryd.ntmps3
    go_wp2_with (go_at_call 5; refine h5.out.mono ?_; rintro e w' ⟨rfl, hw⟩; subst hw)
    refine hV.out.mono ?_
    rintro e w1 ⟨rfl, hw1⟩
    have hw1' := hideIt hw1
    clear hw1
    generalize Plain.scan true s.data.toList = b at *
    go_wp2_with fail
    refine (hK.out _).mono ?_
    rintro e w2 ⟨rfl, hw2⟩
    subst hw2
    go_wp2
    go_ret
    refine ⟨ret_bool (by cases b <;> rfl), ?_⟩
    rw [hw1'.out]
    exact (Below.refl _ _).alloc (Nat.le_refl _) _

theorem joined_data (a b : ByteArray) : (a ++ ⟨#[46]⟩ ++ b).data.toList = a.data.toList ++ 46 :: b.data.toList := by simp

set_option maxHeartbeats 400000 in
theorem law_join (a b : ByteArray) (m : Int) (w : World) (ha : a.size ≤ maxLen) (hb : b.size ≤ maxLen) (hm : w.cell? ⟨0, 0, none⟩ = some (.int .i64 m)) :
    Calls Tryd.prog 4 #[.string a, .string b] w fun e w' => e = .returned (.bool true) ∧ Below w.heap.size w w' := by
  by_cases hbig : 1048576 < a.size + b.size
  · have h8 := hideIt (big8 a b w ha hb hbig)
    go_enter Tryd.func4, Tryd.ntmps4
    go_wp2_with (go_at_call 8; refine h8.out.mono ?_; rintro e w' ⟨rfl, hw⟩; subst hw)
    go_ret
    exact ⟨rfl, Below.refl _ _⟩
  · have h8 := hideIt (small8 a b w (by omega))
    by_cases hba : 524288 < a.size
    · go_enter Tryd.func4, Tryd.ntmps4
      go_wp2_with (go_at_call 8; refine h8.out.mono ?_; rintro e w' ⟨rfl, hw⟩; subst hw)
      go_ret
      exact ⟨rfl, Below.refl _ _⟩
    · by_cases hbb : 524288 < b.size
      · go_enter Tryd.func4, Tryd.ntmps4
        go_wp2_with (go_at_call 8; refine h8.out.mono ?_; rintro e w' ⟨rfl, hw⟩; subst hw)
        go_ret
        exact ⟨rfl, Below.refl _ _⟩
      · have hl : 0 < w.heap.size := World.block_lt_of_cell? w ⟨0, 0, none⟩ hm
        have hjs : (a ++ ⟨#[46]⟩ ++ b).size = a.size + 1 + b.size := by simp [ByteArray.size_append]; rfl
        have hj := validKey_any (a ++ ⟨#[46]⟩ ++ b) m w (by omega) hm
        have hk : ∀ w, Calls Tryd.prog 7 #[.string (a ++ ⟨#[46]⟩ ++ b)] w fun e w' => e = .returned (.bool (Plain.scan true (a ++ ⟨#[46]⟩ ++ b).data.toList)) ∧ w' = w := fun w => keyScan_any _ w (by unfold maxLen; omega)
        have hva : ∀ w : World, w.cell? ⟨0, 0, none⟩ = some (.int .i64 m) → Calls Tryd.prog 6 #[.string a] w fun e w' => e = .returned (.bool (Plain.scan true a.data.toList)) ∧ w' = w.alloc (splitBlock a) := fun w h => validKey_any a m w (by omega) h
        have hvb : ∀ w : World, w.cell? ⟨0, 0, none⟩ = some (.int .i64 m) → Calls Tryd.prog 6 #[.string b] w fun e w' => e = .returned (.bool (Plain.scan true b.data.toList)) ∧ w' = w.alloc (splitBlock b) := fun w h => validKey_any b m w (by omega) h
        rw [joined_data, Plain.scan_app] at hj
        simp only [joined_data, Plain.scan_app] at hk
        have Hj := hideIt hj
        have Hk := hideIt hk
        have Ha := hideIt hva
        have Hb := hideIt hvb
        clear hj hk hva hvb hjs
        cases hx : Plain.scan true a.data.toList
        · rw [hx] at Hj Hk Ha
          rw [Bool.false_and] at Hj Hk
          clear hx
          go_enter Tryd.func4, Tryd.ntmps4
          go_wp2_with (go_at_call 8; refine h8.out.mono ?_; rintro e w' ⟨rfl, hw⟩; subst hw)
          refine Hj.out.mono ?_
          rintro e w1 ⟨rfl, hw1⟩
          have hm1 : w1.cell? ⟨0, 0, none⟩ = some (.int .i64 m) := by rw [hw1, World.cell?_alloc_lt _ _ _ hl]; exact hm
          have hb1 := hideIt (show Below _ _ w1 by rw [hw1]; exact (Below.refl _ _).alloc (Nat.le_refl _) _)
          clear hw1
          go_wp2_with fail
          refine (Ha.out _ hm1).mono ?_
          rintro e w2 ⟨rfl, hw2⟩
          have hb2 := hideIt (show Below _ _ w2 by rw [hw2]; exact hb1.out.alloc hb1.out.size _)
          clear hw2
          go_wp2_with fail
          refine (Hk.out _).mono ?_
          rintro e w3 ⟨rfl, hw3⟩
          subst hw3
          go_wp2
          go_ret
          exact ⟨rfl, hb2.out⟩
        · rw [hx] at Hj Hk Ha
          rw [Bool.true_and] at Hj Hk
          clear hx
          generalize Plain.scan true b.data.toList = y at *
          go_enter Tryd.func4, Tryd.ntmps4
          go_wp2_with (go_at_call 8; refine h8.out.mono ?_; rintro e w' ⟨rfl, hw⟩; subst hw)
          refine Hj.out.mono ?_
          rintro e w1 ⟨rfl, hw1⟩
          have hm1 : w1.cell? ⟨0, 0, none⟩ = some (.int .i64 m) := by rw [hw1, World.cell?_alloc_lt _ _ _ hl]; exact hm
          have hb1 := hideIt (show Below _ _ w1 by rw [hw1]; exact (Below.refl _ _).alloc (Nat.le_refl _) _)
          clear hw1
          go_wp2_with fail
          refine (Ha.out _ hm1).mono ?_
          rintro e w2 ⟨rfl, hw2⟩
          have hm2 : w2.cell? ⟨0, 0, none⟩ = some (.int .i64 m) := by rw [hw2, World.cell?_alloc_lt _ _ _ (by have := hb1.out.size; simp; omega)]; exact hm1
          have hb2 := hideIt (show Below _ _ w2 by rw [hw2]; exact hb1.out.alloc hb1.out.size _)
          clear hw2
          go_wp2_with fail
          refine (Hb.out _ hm2).mono ?_
          rintro e w3 ⟨rfl, hw3⟩
          have hb3 := hideIt (show Below _ _ w3 by rw [hw3]; exact hb2.out.alloc hb2.out.size _)
          clear hw3
          cases y
          all_goals
            go_wp2_with fail
            refine (Hk.out _).mono ?_
            rintro e w4 ⟨rfl, hw4⟩
            subst hw4
            go_wp2
            go_ret
            exact ⟨rfl, hb3.out⟩
end Go.Proofs.Qxb6605512aDoor
