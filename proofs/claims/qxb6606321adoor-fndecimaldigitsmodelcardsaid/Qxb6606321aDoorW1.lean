/-
  THE WALKS of seat b6606321aD, first part: isDecimalDigit, the guard on lengths, numberLiteral.
-/
import Derived.Test.Qxb6606321aDoorRows
import Derived.Test.Qxb6606321aDoorPlain
import Derived.WalkKit
import Derived.WalkSpells
import Derived.WalkLawsBesides
namespace Go.Proofs.Qxb6606321aDoor
open Go.RowKit

theorem hideIt {p : Prop} (h : p) : Hid p := h

theorem dig_eq (c : UInt8) : Plain.dig c = (decide (48 ≤ (c.toNat : Int)) && decide ((c.toNat : Int) ≤ 57)) := by
  unfold Plain.dig
  rw [Bool.eq_iff_iff]
  simp
  omega
theorem dig_any (c : UInt8) (w : World) :
    Calls Tryd.prog 14 #[.int .u8 c.toNat] w fun e w' => e = .returned (.bool (Plain.dig c)) ∧ w' = w := by
  have HK := hideIt (dig_eq c)
  by_cases h3 : 48 ≤ (c.toNat : Int) <;> by_cases h4 : (c.toNat : Int) ≤ 57
  all_goals
    go_enter Tryd.func14, Tryd.ntmps14
    go_wp2
    go_ret
    refine ⟨?_, rfl⟩
    rw [HK.out]
    simp [h3, h4]

theorem bytes8 (s : ByteArray) (w : World) (hs : s.size ≤ maxLen) :
    Calls Tryd.prog 8 #[.string s] w fun e w' => e = .returned (.bool (decide (s.size ≤ 1048576))) ∧ w' = w := by
  unfold maxLen at hs
  by_cases h : s.size ≤ 1048576
  all_goals
    have HK := hideIt h
    go_enter Tryd.func8, Tryd.ntmps8
    go_wp2
    go_ret
    exact ⟨by simp [HK.out], rfl⟩

/-- Bytes i .. j are digits. -/
def Digs (s : ByteArray) (i j : Nat) : Prop := ∀ m (h : m < s.size), i ≤ m → m < j → Plain.dig s[m] = true
theorem Digs.zero (s : ByteArray) (i : Nat) : Digs s i i := fun m _ h1 h2 => by omega
theorem Digs.succ {s : ByteArray} {i k : Nat} (h : Digs s i k) (hk : k < s.size) (hd : Plain.dig s[k] = true) : Digs s i (k + 1) := fun m hm h1 h2 => by
  by_cases e : m = k
  · subst e; exact hd
  · exact h m hm h1 (by omega)

theorem digs_all {s : ByteArray} {i j : Nat} (h : Digs s i j) (hj : j ≤ s.size) : ((s.data.toList.take j).drop i).all Plain.dig = true := by
  rw [List.all_eq_true]
  intro x hx
  obtain ⟨m, hm, rfl⟩ := List.mem_iff_getElem.1 hx
  have hl : s.data.toList.length = s.size := by simp
  rw [List.length_drop, List.length_take] at hm
  rw [List.getElem_drop, List.getElem_take]
  exact h (i + m) (by omega) (by omega) (by omega)
theorem drop_cons (s : ByteArray) (k : Nat) (h : k < s.size) : s.data.toList.drop k = s[k] :: s.data.toList.drop (k + 1) := by
  rw [List.drop_eq_getElem_cons (by simpa using h)]
  rfl
theorem byte_eq {c : UInt8} {n : Nat} (hn : n < 256) (h : (c.toNat : Int) = n) : c = UInt8.ofNat n := by
  apply UInt8.toNat_inj.1
  rw [UInt8.toNat_ofNat']
  omega
theorem seg_cons (s : ByteArray) (k j : Nat) (h : k < j) (hj : j ≤ s.size) : s.data.toList.take j = s.data.toList.take k ++ (s[k]'(by omega) :: (s.data.toList.take j).drop (k + 1)) := by
  have hl : s.data.toList.length = s.size := by simp
  have h1 := (List.take_append_drop k (s.data.toList.take j)).symm
  rw [List.take_take, Nat.min_eq_left (by omega), List.drop_eq_getElem_cons (by rw [List.length_take]; omega), List.getElem_take] at h1
  exact h1

/-- The first j bytes are a mantissa. -/
def Mant (s : ByteArray) (j : Nat) : Prop := ∃ W Pt F : List UInt8, s.data.toList.take j = W ++ (Pt ++ F) ∧ W.all Plain.dig = true ∧ ((Pt = [] ∧ F = []) ∨ Pt = [46]) ∧ F.all Plain.dig = true
theorem mant1 {s : ByteArray} {k : Nat} (h : Digs s 0 k) (hk : k ≤ s.size) : Mant s k :=
  ⟨s.data.toList.take k, [], [], by simp, by simpa using digs_all h hk, .inl ⟨rfl, rfl⟩, rfl⟩
theorem mant2 {s : ByteArray} {k j : Nat} (h : Digs s 0 k) (hk : k < s.size) (hd : (s[k].toNat : Int) = 46) (h2 : Digs s (k + 1) j) (hj : k < j) (hjs : j ≤ s.size) : Mant s j :=
  ⟨s.data.toList.take k, [46], (s.data.toList.take j).drop (k + 1), by
    have := seg_cons s k j hj hjs
    rw [byte_eq (n := 46) (by decide) hd] at this
    exact this, by simpa using digs_all h (by omega), .inr rfl, digs_all h2 hjs⟩
theorem lit_of {s : ByteArray} {j : Nat} (h : Mant s j) {X : List UInt8} (hX : s.data.toList.drop j = X) (hx : X = [] ∨ Plain.IsExp X) : ∃ W Pt F X, Plain.IsLit s.data.toList W Pt F X := by
  obtain ⟨W, Pt, F, h1, h2, h3, h4⟩ := h
  refine ⟨W, Pt, F, X, ?_, h2, h3, h4, hx⟩
  have := (List.take_append_drop j s.data.toList).symm
  rw [h1, hX] at this
  simpa using this
theorem lit_end {s : ByteArray} {j : Nat} (h : Mant s j) (hj : j = s.size) : ∃ W Pt F X, Plain.IsLit s.data.toList W Pt F X :=
  lit_of h (X := []) (List.drop_of_length_le (by simp; omega)) (.inl rfl)
theorem digs_end {s : ByteArray} {c : Nat} (h : Digs s c s.size) : (s.data.toList.drop c).all Plain.dig = true := by
  have := digs_all h (Nat.le_refl _)
  rwa [List.take_of_length_le (by simp)] at this
theorem lit_exp {s : ByteArray} {j : Nat} (h : Mant s j) (hj : j + 1 < s.size) (he : (s[j].toNat : Int) = 101 ∨ (s[j].toNat : Int) = 69) (hd : Digs s (j + 1) s.size) : ∃ W Pt F X, Plain.IsLit s.data.toList W Pt F X := by
  refine lit_of h (drop_cons s j (by omega)) (.inr ⟨s[j], [], s.data.toList.drop (j + 1), rfl, ?_, .inl rfl, ?_, digs_end hd⟩)
  · rcases he with he | he
    · exact .inl (byte_eq (n := 101) (by decide) he)
    · exact .inr (byte_eq (n := 69) (by decide) he)
  · rw [drop_cons s (j + 1) hj]; exact List.cons_ne_nil _ _
theorem lit_sgn {s : ByteArray} {j : Nat} (h : Mant s j) (hj : j + 2 < s.size) (he : (s[j].toNat : Int) = 101 ∨ (s[j].toNat : Int) = 69) (hg : (s[j + 1].toNat : Int) = 43 ∨ (s[j + 1].toNat : Int) = 45) (hd : Digs s (j + 2) s.size) : ∃ W Pt F X, Plain.IsLit s.data.toList W Pt F X := by
  refine lit_of h (drop_cons s j (by omega)) (.inr ⟨s[j], [s[j + 1]], s.data.toList.drop (j + 2), ?_, ?_, .inr ?_, ?_, digs_end hd⟩)
  · rw [drop_cons s (j + 1) (by omega)]; rfl
  · rcases he with he | he
    · exact .inl (byte_eq (n := 101) (by decide) he)
    · exact .inr (byte_eq (n := 69) (by decide) he)
  · rcases hg with hg | hg
    · exact .inl (by rw [byte_eq (n := 43) (by decide) hg]; rfl)
    · exact .inr (by rw [byte_eq (n := 45) (by decide) hg]; rfl)
  · rw [drop_cons s (j + 2) hj]; exact List.cons_ne_nil _ _

/-- What numberLiteral answers. -/
def LitOut (s : ByteArray) (e : Ending) : Prop := ∃ r, e = .returned (.bool r) ∧ (r = true → ∃ W Pt F X, Plain.IsLit s.data.toList W Pt F X)
theorem LitOut.of {s : ByteArray} {r : Bool} (h : r = true → ∃ W Pt F X, Plain.IsLit s.data.toList W Pt F X) : LitOut s (.returned (.bool r)) := ⟨r, rfl, h⟩

set_option maxRecDepth 100000 in
set_option maxHeartbeats 8000000 in
theorem lit_any (s : ByteArray) (w : World) (hs : s.size ≤ 1048576) :
    Calls Tryd.prog 9 #[.string s] w fun e w' => LitOut s e ∧ w' = w := by
  go_enter Tryd.func9, Tryd.ntmps9
  go_wp2
  go_loop [3, 5] (fun i d => ∃ k : Nat, k ≤ s.size ∧ i = .int .i64 k ∧ d = .int .i64 k ∧ Hid (Digs s 0 k)) (fun i _ => s.size - (intOf i).toNat)
  case atStart => exact ⟨0, Nat.zero_le _, rfl, rfl, Digs.zero s 0⟩
  case round =>
    obtain ⟨k, hk, rfl, rfl, hD⟩ := hrel
    by_cases hlt : k < s.size
    · cases hb : Plain.dig s[k] with
      | true =>
        have H := hideIt (hD.out.succ hlt hb)
        have hb' := hideIt hb
        clear hb hD
        go_wp2_with (go_at_call 14; refine (dig_any _ _).mono ?_; rintro e w' ⟨rfl, rfl⟩; rw [hb'.out])
        go_round
        case rel => exact ⟨k + 1, by omega, by go_num, by go_num, H⟩
        case measure => simp [intOf]; omega
      | false =>
        have hb' := hideIt hb
        clear hb
        by_cases hp : (s[k].toNat : Int) = 46
        · have hp' : ((s[k].toNat : Int) == 46) = true := beq_iff_eq.2 hp
          have HP := hideIt hp
          clear hp
          go_wp2_with (go_at_call 14; refine (dig_any _ _).mono ?_; rintro e w' ⟨rfl, rfl⟩; rw [hb'.out])
          go_loop [3, 5] (fun i d => ∃ j : Nat, k + 1 ≤ j ∧ j ≤ s.size ∧ i = .int .i64 j ∧ d = .int .i64 ((j : Int) - 1) ∧ Hid (Digs s (k + 1) j)) (fun i _ => s.size - (intOf i).toNat)
          case atStart => exact ⟨k + 1, Nat.le_refl _, by omega, by go_num, by go_num, Digs.zero s _⟩
          case round =>
            obtain ⟨j, hj1, hj2, rfl, rfl, hD2⟩ := hrel
            clear hb' hp'
            by_cases hjlt : j < s.size
            · cases hb : Plain.dig s[j] with
              | true =>
                have H := hideIt (hD2.out.succ hjlt hb)
                have hb' := hideIt hb
                clear hb hD2
                go_wp2_with (go_at_call 14; refine (dig_any _ _).mono ?_; rintro e w' ⟨rfl, rfl⟩; rw [hb'.out])
                go_round
                case rel => exact ⟨j + 1, by omega, by omega, by go_num, by go_num, H⟩
                case measure => simp [intOf]; omega
              | false =>
                have hb' := hideIt hb
                clear hb
                by_cases hj0 : j = 1
                · subst hj0
                  go_wp2_with (go_at_call 14; refine (dig_any _ _).mono ?_; rintro e w' ⟨rfl, rfl⟩; rw [hb'.out])
                  go_ret
                  exact ⟨LitOut.of (fun h => by first | (cases h; done) | (exfalso; simp at h; omega)), rfl⟩
                · have hz : (((j : Int) - 1) == 0) = false := beq_eq_false_iff_ne.2 (by omega)
                  have HM := hideIt (mant2 hD.out hlt HP.out hD2.out (by omega) hj2)
                  clear hD hD2 HP
                  by_cases he : (s[j].toNat : Int) = 101 ∨ (s[j].toNat : Int) = 69
                  · have HE := hideIt he
                    have he' : ((s[j].toNat : Int) == 101) = true ∨ (((s[j].toNat : Int) == 101) = false ∧ ((s[j].toNat : Int) == 69) = true) := by
                      simp only [beq_iff_eq, beq_eq_false_iff_ne]; omega
                    clear he
                    by_cases hend : j + 1 < s.size
                    · by_cases hg : (s[j + 1].toNat : Int) = 43 ∨ (s[j + 1].toNat : Int) = 45
                      · have HG := hideIt hg
                        have hg' : ((s[j + 1].toNat : Int) == 43) = true ∨ (((s[j + 1].toNat : Int) == 43) = false ∧ ((s[j + 1].toNat : Int) == 45) = true) := by
                          simp only [beq_iff_eq, beq_eq_false_iff_ne]; omega
                        clear hg
                        rcases he' with he1 | ⟨he1, he2⟩
                        all_goals
                          rcases hg' with hg1 | ⟨hg1, hg2⟩
                          all_goals
                            go_wp2_with (go_at_call 14; refine (dig_any _ _).mono ?_; rintro e w' ⟨rfl, rfl⟩; rw [hb'.out])
                            go_loop [3, 6] (fun i d => ∃ m : Nat, j + 2 ≤ m ∧ m ≤ s.size ∧ i = .int .i64 m ∧ d = .int .i64 ((m : Int) - (j + 2 : Nat)) ∧ Hid (Digs s (j + 2) m)) (fun i _ => s.size - (intOf i).toNat)
                            case atStart => exact ⟨j + 2, Nat.le_refl _, by omega, by go_num, by simp, Digs.zero s _⟩
                            case round =>
                              obtain ⟨m, hm1, hm2, rfl, rfl, hD3⟩ := hrel
                              by_cases hmlt : m < s.size
                              · cases hb : Plain.dig s[m] with
                                | true =>
                                  have H := hideIt (hD3.out.succ hmlt hb)
                                  have hb' := hideIt hb
                                  clear hb hD3
                                  go_wp2_with (go_at_call 14; refine (dig_any _ _).mono ?_; rintro e w' ⟨rfl, rfl⟩; rw [hb'.out])
                                  go_round
                                  case rel => exact ⟨m + 1, by omega, by omega, by go_num, by go_num, H⟩
                                  case measure => simp [intOf]; omega
                                | false =>
                                  have hb' := hideIt hb
                                  clear hb hD3
                                  go_wp2_with (go_at_call 14; refine (dig_any _ _).mono ?_; rintro e w' ⟨rfl, rfl⟩; rw [hb'.out])
                                  all_goals
                                    go_ret
                                    exact ⟨LitOut.of (fun h => by first | (cases h; done) | (exfalso; simp at h; omega)), rfl⟩
                              · obtain rfl : m = s.size := by omega
                                by_cases hmc : s.size = j + 2
                                · clear hD3
                                  have hmz : (((s.size : Int) - (j + 2 : Nat)) == 0) = true := beq_iff_eq.2 (by omega)
                                  go_wp2
                                  go_ret
                                  exact ⟨LitOut.of (fun h => by first | (cases h; done) | (exfalso; simp at h; omega)), rfl⟩
                                · have H := hideIt (lit_sgn HM.out (by omega) HE.out HG.out hD3.out)
                                  clear hD3
                                  have hmz : (((s.size : Int) - (j + 2 : Nat)) == 0) = false := beq_eq_false_iff_ne.2 (by omega)
                                  go_wp2
                                  go_ret
                                  exact ⟨LitOut.of (fun _ => H.out), rfl⟩
                      · have hg1 : ((s[j + 1].toNat : Int) == 43) = false := beq_eq_false_iff_ne.2 (fun h => hg (.inl h))
                        have hg2 : ((s[j + 1].toNat : Int) == 45) = false := beq_eq_false_iff_ne.2 (fun h => hg (.inr h))
                        clear hg
                        rcases he' with he1 | ⟨he1, he2⟩
                        all_goals
                          go_wp2_with (go_at_call 14; refine (dig_any _ _).mono ?_; rintro e w' ⟨rfl, rfl⟩; rw [hb'.out])
                          go_loop [3, 6] (fun i d => ∃ m : Nat, j + 1 ≤ m ∧ m ≤ s.size ∧ i = .int .i64 m ∧ d = .int .i64 ((m : Int) - (j + 1 : Nat)) ∧ Hid (Digs s (j + 1) m)) (fun i _ => s.size - (intOf i).toNat)
                          case atStart => exact ⟨j + 1, Nat.le_refl _, by omega, by go_num, by simp, Digs.zero s _⟩
                          case round =>
                            obtain ⟨m, hm1, hm2, rfl, rfl, hD3⟩ := hrel
                            by_cases hmlt : m < s.size
                            · cases hb : Plain.dig s[m] with
                              | true =>
                                have H := hideIt (hD3.out.succ hmlt hb)
                                have hb' := hideIt hb
                                clear hb hD3
                                go_wp2_with (go_at_call 14; refine (dig_any _ _).mono ?_; rintro e w' ⟨rfl, rfl⟩; rw [hb'.out])
                                go_round
                                case rel => exact ⟨m + 1, by omega, by omega, by go_num, by go_num, H⟩
                                case measure => simp [intOf]; omega
                              | false =>
                                have hb' := hideIt hb
                                clear hb hD3
                                go_wp2_with (go_at_call 14; refine (dig_any _ _).mono ?_; rintro e w' ⟨rfl, rfl⟩; rw [hb'.out])
                                all_goals
                                  go_ret
                                  exact ⟨LitOut.of (fun h => by first | (cases h; done) | (exfalso; simp at h; omega)), rfl⟩
                            · obtain rfl : m = s.size := by omega
                              by_cases hmc : s.size = j + 1
                              · clear hD3
                                have hmz : (((s.size : Int) - (j + 1 : Nat)) == 0) = true := beq_iff_eq.2 (by omega)
                                go_wp2
                                go_ret
                                exact ⟨LitOut.of (fun h => by first | (cases h; done) | (exfalso; simp at h; omega)), rfl⟩
                              · have H := hideIt (lit_exp HM.out (by omega) HE.out hD3.out)
                                clear hD3
                                have hmz : (((s.size : Int) - (j + 1 : Nat)) == 0) = false := beq_eq_false_iff_ne.2 (by omega)
                                go_wp2
                                go_ret
                                exact ⟨LitOut.of (fun _ => H.out), rfl⟩
                    · rcases he' with he1 | ⟨he1, he2⟩
                      all_goals
                        go_wp2_with (go_at_call 14; refine (dig_any _ _).mono ?_; rintro e w' ⟨rfl, rfl⟩; rw [hb'.out])
                        go_loop [3, 6] (fun i d => i = .int .i64 ((j + 1 : Nat) : Int) ∧ d = .int .i64 0) (fun _ _ => 0)
                        case atStart => exact ⟨by go_num, rfl⟩
                        case round =>
                          obtain ⟨rfl, rfl⟩ := hrel
                          have hcs : ¬ (((j + 1 : Nat) : Int) < s.size) := by omega
                          go_wp2
                          go_ret
                          exact ⟨LitOut.of (fun h => by first | (cases h; done) | (exfalso; simp at h; omega)), rfl⟩
                  · have he1 : ((s[j].toNat : Int) == 101) = false := beq_eq_false_iff_ne.2 (fun h => he (.inl h))
                    have he2 : ((s[j].toNat : Int) == 69) = false := beq_eq_false_iff_ne.2 (fun h => he (.inr h))
                    clear he
                    go_wp2_with (go_at_call 14; refine (dig_any _ _).mono ?_; rintro e w' ⟨rfl, rfl⟩; rw [hb'.out])
                    go_ret
                    exact ⟨LitOut.of (fun h => by first | (cases h; done) | (exfalso; simp at h; omega)), rfl⟩
            · have hM := hideIt (lit_end (mant2 hD.out hlt HP.out hD2.out (by omega) hj2) (by omega))
              obtain rfl : j = s.size := by omega
              clear hD hD2 HP
              by_cases hj0 : s.size = 1
              · have hz : (((s.size : Int) - 1) == 0) = true := beq_iff_eq.2 (by omega)
                go_wp2
                go_ret
                exact ⟨LitOut.of (fun h => by first | (cases h; done) | (exfalso; simp at h; omega)), rfl⟩
              · have hz : (((s.size : Int) - 1) == 0) = false := beq_eq_false_iff_ne.2 (by omega)
                go_wp2
                go_ret
                exact ⟨LitOut.of (fun _ => hM.out), rfl⟩
        · have hp' : ((s[k].toNat : Int) == 46) = false := beq_eq_false_iff_ne.2 hp
          clear hp
          by_cases hk0 : k = 0
          · subst hk0
            go_wp2_with (go_at_call 14; refine (dig_any _ _).mono ?_; rintro e w' ⟨rfl, rfl⟩; rw [hb'.out])
            go_ret
            exact ⟨LitOut.of (fun h => by first | (cases h; done) | (exfalso; simp at h; omega)), rfl⟩
          · have hz : ((k : Int) == 0) = false := beq_eq_false_iff_ne.2 (by omega)
            have HM := hideIt (mant1 hD.out hk)
            clear hD
            by_cases he : (s[k].toNat : Int) = 101 ∨ (s[k].toNat : Int) = 69
            · have HE := hideIt he
              have he' : ((s[k].toNat : Int) == 101) = true ∨ (((s[k].toNat : Int) == 101) = false ∧ ((s[k].toNat : Int) == 69) = true) := by
                simp only [beq_iff_eq, beq_eq_false_iff_ne]; omega
              clear he
              by_cases hend : k + 1 < s.size
              · by_cases hg : (s[k + 1].toNat : Int) = 43 ∨ (s[k + 1].toNat : Int) = 45
                · have HG := hideIt hg
                  have hg' : ((s[k + 1].toNat : Int) == 43) = true ∨ (((s[k + 1].toNat : Int) == 43) = false ∧ ((s[k + 1].toNat : Int) == 45) = true) := by
                    simp only [beq_iff_eq, beq_eq_false_iff_ne]; omega
                  clear hg
                  rcases he' with he1 | ⟨he1, he2⟩
                  all_goals
                    rcases hg' with hg1 | ⟨hg1, hg2⟩
                    all_goals
                      go_wp2_with (go_at_call 14; refine (dig_any _ _).mono ?_; rintro e w' ⟨rfl, rfl⟩; rw [hb'.out])
                      go_loop [3, 6] (fun i d => ∃ m : Nat, k + 2 ≤ m ∧ m ≤ s.size ∧ i = .int .i64 m ∧ d = .int .i64 ((m : Int) - (k + 2 : Nat)) ∧ Hid (Digs s (k + 2) m)) (fun i _ => s.size - (intOf i).toNat)
                      case atStart => exact ⟨k + 2, Nat.le_refl _, by omega, by go_num, by simp, Digs.zero s _⟩
                      case round =>
                        obtain ⟨m, hm1, hm2, rfl, rfl, hD3⟩ := hrel
                        by_cases hmlt : m < s.size
                        · cases hb : Plain.dig s[m] with
                          | true =>
                            have H := hideIt (hD3.out.succ hmlt hb)
                            have hb' := hideIt hb
                            clear hb hD3
                            go_wp2_with (go_at_call 14; refine (dig_any _ _).mono ?_; rintro e w' ⟨rfl, rfl⟩; rw [hb'.out])
                            go_round
                            case rel => exact ⟨m + 1, by omega, by omega, by go_num, by go_num, H⟩
                            case measure => simp [intOf]; omega
                          | false =>
                            have hb' := hideIt hb
                            clear hb hD3
                            go_wp2_with (go_at_call 14; refine (dig_any _ _).mono ?_; rintro e w' ⟨rfl, rfl⟩; rw [hb'.out])
                            all_goals
                              go_ret
                              exact ⟨LitOut.of (fun h => by first | (cases h; done) | (exfalso; simp at h; omega)), rfl⟩
                        · obtain rfl : m = s.size := by omega
                          by_cases hmc : s.size = k + 2
                          · clear hD3
                            have hmz : (((s.size : Int) - (k + 2 : Nat)) == 0) = true := beq_iff_eq.2 (by omega)
                            go_wp2
                            go_ret
                            exact ⟨LitOut.of (fun h => by first | (cases h; done) | (exfalso; simp at h; omega)), rfl⟩
                          · have H := hideIt (lit_sgn HM.out (by omega) HE.out HG.out hD3.out)
                            clear hD3
                            have hmz : (((s.size : Int) - (k + 2 : Nat)) == 0) = false := beq_eq_false_iff_ne.2 (by omega)
                            go_wp2
                            go_ret
                            exact ⟨LitOut.of (fun _ => H.out), rfl⟩
                · have hg1 : ((s[k + 1].toNat : Int) == 43) = false := beq_eq_false_iff_ne.2 (fun h => hg (.inl h))
                  have hg2 : ((s[k + 1].toNat : Int) == 45) = false := beq_eq_false_iff_ne.2 (fun h => hg (.inr h))
                  clear hg
                  rcases he' with he1 | ⟨he1, he2⟩
                  all_goals
                    go_wp2_with (go_at_call 14; refine (dig_any _ _).mono ?_; rintro e w' ⟨rfl, rfl⟩; rw [hb'.out])
                    go_loop [3, 6] (fun i d => ∃ m : Nat, k + 1 ≤ m ∧ m ≤ s.size ∧ i = .int .i64 m ∧ d = .int .i64 ((m : Int) - (k + 1 : Nat)) ∧ Hid (Digs s (k + 1) m)) (fun i _ => s.size - (intOf i).toNat)
                    case atStart => exact ⟨k + 1, Nat.le_refl _, by omega, by go_num, by simp, Digs.zero s _⟩
                    case round =>
                      obtain ⟨m, hm1, hm2, rfl, rfl, hD3⟩ := hrel
                      by_cases hmlt : m < s.size
                      · cases hb : Plain.dig s[m] with
                        | true =>
                          have H := hideIt (hD3.out.succ hmlt hb)
                          have hb' := hideIt hb
                          clear hb hD3
                          go_wp2_with (go_at_call 14; refine (dig_any _ _).mono ?_; rintro e w' ⟨rfl, rfl⟩; rw [hb'.out])
                          go_round
                          case rel => exact ⟨m + 1, by omega, by omega, by go_num, by go_num, H⟩
                          case measure => simp [intOf]; omega
                        | false =>
                          have hb' := hideIt hb
                          clear hb hD3
                          go_wp2_with (go_at_call 14; refine (dig_any _ _).mono ?_; rintro e w' ⟨rfl, rfl⟩; rw [hb'.out])
                          all_goals
                            go_ret
                            exact ⟨LitOut.of (fun h => by first | (cases h; done) | (exfalso; simp at h; omega)), rfl⟩
                      · obtain rfl : m = s.size := by omega
                        by_cases hmc : s.size = k + 1
                        · clear hD3
                          have hmz : (((s.size : Int) - (k + 1 : Nat)) == 0) = true := beq_iff_eq.2 (by omega)
                          go_wp2
                          go_ret
                          exact ⟨LitOut.of (fun h => by first | (cases h; done) | (exfalso; simp at h; omega)), rfl⟩
                        · have H := hideIt (lit_exp HM.out (by omega) HE.out hD3.out)
                          clear hD3
                          have hmz : (((s.size : Int) - (k + 1 : Nat)) == 0) = false := beq_eq_false_iff_ne.2 (by omega)
                          go_wp2
                          go_ret
                          exact ⟨LitOut.of (fun _ => H.out), rfl⟩
              · rcases he' with he1 | ⟨he1, he2⟩
                all_goals
                  go_wp2_with (go_at_call 14; refine (dig_any _ _).mono ?_; rintro e w' ⟨rfl, rfl⟩; rw [hb'.out])
                  go_loop [3, 6] (fun i d => i = .int .i64 ((k + 1 : Nat) : Int) ∧ d = .int .i64 0) (fun _ _ => 0)
                  case atStart => exact ⟨by go_num, rfl⟩
                  case round =>
                    obtain ⟨rfl, rfl⟩ := hrel
                    have hcs : ¬ (((k + 1 : Nat) : Int) < s.size) := by omega
                    go_wp2
                    go_ret
                    exact ⟨LitOut.of (fun h => by first | (cases h; done) | (exfalso; simp at h; omega)), rfl⟩
            · have he1 : ((s[k].toNat : Int) == 101) = false := beq_eq_false_iff_ne.2 (fun h => he (.inl h))
              have he2 : ((s[k].toNat : Int) == 69) = false := beq_eq_false_iff_ne.2 (fun h => he (.inr h))
              clear he
              go_wp2_with (go_at_call 14; refine (dig_any _ _).mono ?_; rintro e w' ⟨rfl, rfl⟩; rw [hb'.out])
              go_ret
              exact ⟨LitOut.of (fun h => by first | (cases h; done) | (exfalso; simp at h; omega)), rfl⟩
    · have hM := hideIt (lit_end (mant1 hD.out hk) (by omega))
      obtain rfl : k = s.size := by omega
      clear hD
      by_cases hz : s.size = 0
      · have hz' : ((s.size : Int) == 0) = true := beq_iff_eq.2 (by omega)
        go_wp2
        go_ret
        exact ⟨LitOut.of (fun h => by first | (cases h; done) | (exfalso; simp at h; omega)), rfl⟩
      · have hz' : ((s.size : Int) == 0) = false := beq_eq_false_iff_ne.2 (by omega)
        go_wp2
        go_ret
        exact ⟨LitOut.of (fun _ => hM.out), rfl⟩
end Go.Proofs.Qxb6606321aDoor
