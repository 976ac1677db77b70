/-
  THE PLAIN LAW of seat b6605512aD: no Go in sight. A property key is valid (every part between dots is not empty and holds only a-z, 0-9, underscore) just when one scan from left to right accepts it; the scan of a joined key is the two scans.
-/
import Derived.Lib.SplitLaws
namespace Go.Proofs.Qxb6605512aDoor.Plain
open Go.Lib

def kb (c : UInt8) : Bool := (decide (97 ≤ c.toNat) && decide (c.toNat ≤ 122)) || (decide (48 ≤ c.toNat) && decide (c.toNat ≤ 57)) || (c.toNat == 95)
def partOk (l : List UInt8) : Bool := !l.isEmpty && l.all kb
def scan : Bool → List UInt8 → Bool
  | ad, [] => !ad
  | ad, c :: l => if c == 46 then (if ad then false else scan true l) else if kb c then scan false l else false

theorem scan_app (b : List UInt8) : ∀ (a : List UInt8) (ad : Bool), scan ad (a ++ 46 :: b) = (scan ad a && scan true b)
  | [], ad => by cases ad <;> simp [scan]
  | c :: a, ad => by
    rw [List.cons_append, scan, scan, scan_app b a, scan_app b a]
    cases c == 46 <;> cases ad <;> cases kb c <;> simp

theorem scan_nodot : ∀ (l : List UInt8) (ad : Bool), (46 : UInt8) ∉ l → scan ad l = ((!ad || !l.isEmpty) && l.all kb)
  | [], ad, _ => by simp [scan]
  | c :: l, ad, h => by
    have hc : (c == 46) = false := by
      cases e : c == 46 with
      | false => rfl
      | true => exact absurd (List.mem_cons.2 (Or.inl (beq_iff_eq.1 e).symm)) h
    rw [scan, hc, scan_nodot l false (fun hm => h (List.mem_cons_of_mem _ hm))]
    cases hk : kb c <;> simp [hk]

theorem idx_cases : ∀ l : List UInt8, (index l [46] = -1 ∧ (46 : UInt8) ∉ l) ∨ ∃ a b, l = a ++ 46 :: b ∧ (46 : UInt8) ∉ a ∧ index l [46] = (a.length : Int)
  | [] => Or.inl ⟨by simp [index], by simp⟩
  | c :: l => by
    by_cases hc : c = 46
    · subst hc
      exact Or.inr ⟨[], l, rfl, by simp, by simp [index, List.isPrefixOf]⟩
    · have hp : ([46] : List UInt8).isPrefixOf (c :: l) = false := by simp [List.isPrefixOf, Ne.symm hc]
      have hix : index (c :: l) [46] = if index l [46] == -1 then -1 else index l [46] + 1 := by rw [index, hp]; simp
      rcases idx_cases l with ⟨h1, h2⟩ | ⟨a, b, h1, h2, h3⟩
      · refine Or.inl ⟨by rw [hix, h1]; rfl, fun hm => ?_⟩
        rcases List.mem_cons.1 hm with e | hm
        · exact hc e.symm
        · exact h2 hm
      · refine Or.inr ⟨c :: a, b, by rw [h1]; rfl, fun hm => ?_, ?_⟩
        · rcases List.mem_cons.1 hm with e | hm
          · exact hc e.symm
          · exact h2 hm
        · rw [hix, h3, if_neg (by rw [beq_iff_eq]; omega)]
          simp

theorem split_scan : ∀ (k : Nat) (l : List UInt8), count l [46] = k → (splitK [46] 0 k l).all partOk = scan true l
  | k, l, hk => by
    rcases idx_cases l with ⟨h1, h2⟩ | ⟨a, b, h1, h2, h3⟩
    · have hk0 : k = 0 := by rw [← hk]; exact count_miss h1
      subst hk0
      rw [scan_nodot l true h2]
      simp [splitK, partOk]
    · have hh := count_hit (sub := [46]) (by simp) h3
      have hd : l.drop (a.length + 1) = b := by rw [h1]; simp
      cases k with
      | zero => omega
      | succ k =>
        have hb : count b [46] = k := by
          have : l.drop (a.length + ([46] : List UInt8).length) = b := hd
          rw [this] at hh; omega
        have ih := split_scan k b hb
        have ht : l.take a.length = a := by rw [h1]; simp
        rw [splitK, if_neg (by rw [h3, beq_iff_eq]; omega), h3]
        simp only [Int.toNat_natCast, Nat.add_zero, List.length_cons, List.length_nil, Nat.zero_add, List.all_cons]
        rw [ht, hd, ih]
        conv => rhs; rw [h1]
        rw [scan_app, scan_nodot a true h2]
        simp [partOk]

/-- Are all of the pieces good from place n on? -/
def restOk (ps : List ByteArray) (n : Nat) : Bool := (ps.drop n).all fun p => partOk p.data.toList

theorem restOk_all (s : ByteArray) : restOk (splitB ⟨#[46]⟩ 0 (countB s ⟨#[46]⟩) s) 0 = scan true s.data.toList := by
  rw [← split_scan (count s.data.toList [46]) s.data.toList rfl]
  have := splitB_data ⟨#[46]⟩ 0 (countB s ⟨#[46]⟩) s
  show ((splitB ⟨#[46]⟩ 0 (countB s ⟨#[46]⟩) s).all fun p => partOk p.data.toList) = (splitK [46] 0 (count s.data.toList [46]) s.data.toList).all partOk
  rw [show splitK [46] 0 (count s.data.toList [46]) s.data.toList = (splitB ⟨#[46]⟩ 0 (countB s ⟨#[46]⟩) s).map (·.data.toList) from this.symm, List.all_map]
  rfl

end Go.Proofs.Qxb6605512aDoor.Plain
