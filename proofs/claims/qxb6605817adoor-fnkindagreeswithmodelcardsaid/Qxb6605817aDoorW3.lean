/-
  THE WALKS of seat b6605817aD, third part: find and Kind at the empty path; the law FnYoungestCountsRevisions.
-/
import Derived.Test.Qxb6605817aDoorW2
namespace Go.Proofs.Qxb6605817aDoor
open Go.RowKit

set_option maxHeartbeats 400000 in
theorem find_root (x : Nat) (w : World) :
    Calls Tryd.prog 27 #[ptr x, .string ⟨#[]⟩] w fun e w' => e = .returned (ptr x) ∧ Below w.heap.size w w' := by
  unfold ptr
  go_enter Tryd.func27, Tryd.ntmps27
  go_wp2
  refine bodyPost_ret (v := .pointer (some ⟨x, 0, none⟩)) (by simp [results, Tryd.results27, go_sem]) rfl ⟨rfl, ?_⟩
  exact ((Below.refl _ _).alloc (Nat.le_refl _) _).alloc (by simp) _

/-- What Kind answers at the empty path. -/
theorem kind_root (rb n root : Nat) (rev : Int) (B : Nat) (w : World) (hn : n ≤ 65536) (hR : IsRepo B w rb n root) (hroot : 2 ≤ n → w.cell? ⟨root, 1, none⟩ = some (.bool true)) :
    Calls Tryd.prog 11 #[ptr rb, .int .i64 rev, .string ⟨#[]⟩] w fun e w' => e = .returned (.string (if 0 ≤ rev ∧ rev < n then dirS else ⟨#[]⟩)) ∧ Below w.heap.size w w' := by
  obtain ⟨g, c, ps, hl, hc, hps, hk⟩ := hR
  unfold ptr
  by_cases h0 : rev < 0
  · rw [if_neg (by omega)]
    go_enter Tryd.func11, Tryd.ntmps11
    go_wp2
    go_ret
    exact ⟨rfl, Below.refl _ _⟩
  · have hy := hideIt (youngest_any rb g n c w (by omega) hc)
    by_cases h1 : (n : Int) ≤ rev
    · rw [if_neg (by omega)]
      go_enter Tryd.func11, Tryd.ntmps11
      go_wp2_with (go_at_call 10; refine hy.out.mono ?_; rintro e w' ⟨rfl, hw⟩; subst hw)
      go_ret
      exact ⟨rfl, Below.refl _ _⟩
    · rw [if_pos (by omega)]
      obtain ⟨i, rfl⟩ := Int.eq_ofNat_of_zero_le (by omega : 0 ≤ rev)
      have hi : i < ps.length := by omega
      have hci := hps i hi
      have hd : w.cell? ⟨ps[i], 1, none⟩ = some (.bool true) := by
        have := hk i hi
        split at this
        · rename_i hc2
          rw [this]; exact hroot hc2.2
        · obtain ⟨_, r, m, _, hx, _⟩ := this
          simp [World.cell?, hx, dirCells]
      have hlt : ps[i] < w.heap.size := World.block_lt_of_cell? w _ hd
      generalize ps[i] = x at *
      have hci' : w.cell? ⟨g, i, none⟩ = some (.pointer (some ⟨x, 0, none⟩)) := hci
      have hf := hideIt (find_root x w)
      clear hps hk hci
      unfold ptr at hf
      go_enter Tryd.func11, Tryd.ntmps11
      go_wp2_with (go_at_call 10; refine hy.out.mono ?_; rintro e w' ⟨rfl, hw⟩; subst hw)
      refine hf.out.mono ?_
      rintro e w1 ⟨rfl, hb⟩
      have hd1 := (hb.cell (p := ⟨x, 1, none⟩) hlt).trans hd
      go_wp2_with (go_at_call 28; refine (kind_any x true w1 hd1).mono ?_; rintro e w' ⟨rfl, hw⟩; subst hw)
      go_ret
      exact ⟨rfl, hb⟩

set_option maxHeartbeats 1000000 in
theorem law_youngest (n rev : Int) (w : World) (hn : (Lit.int .i64 n).wf = true) :
    Calls Tryd.prog 3 #[.int .i64 n, .int .i64 rev] w fun e w' => e = .returned (.bool true) ∧ Below w.heap.size w w' := by
  by_cases h1 : n < 1
  · go_enter Tryd.func3, Tryd.ntmps3
    go_wp2
    go_ret
    exact ⟨rfl, Below.refl _ _⟩
  by_cases h2 : 65536 < n
  · go_enter Tryd.func3, Tryd.ntmps3
    go_wp2
    go_ret
    exact ⟨rfl, Below.refl _ _⟩
  obtain ⟨n, rfl⟩ := Int.eq_ofNat_of_zero_le (by omega : 0 ≤ n)
  have hn1 : 1 ≤ n := by omega
  have hn2 : n ≤ 65536 := by omega
  clear hn h1 h2
  have hcase : ((0 ≤ rev ∧ rev < n) ∧ Hid ((if 0 ≤ rev ∧ rev < n then dirS else ⟨#[]⟩) = ⟨#[100, 105, 114]⟩)) ∨ (rev < 0 ∧ Hid ((if 0 ≤ rev ∧ rev < n then dirS else ⟨#[]⟩) = ⟨#[]⟩)) ∨ ((0 ≤ rev ∧ n ≤ rev) ∧ Hid ((if 0 ≤ rev ∧ rev < n then dirS else ⟨#[]⟩) = ⟨#[]⟩)) := by
    by_cases h1 : rev < 0
    · exact .inr (.inl ⟨h1, if_neg (by omega)⟩)
    · by_cases h2 : rev < n
      · exact .inl ⟨by omega, if_pos (by omega)⟩
      · exact .inr (.inr ⟨by omega, if_neg (by omega)⟩)
  rcases hcase with ⟨⟨hr0, hr1⟩, hif⟩ | ⟨hr0, hif⟩ | ⟨⟨hr0, hr1⟩, hif⟩
  all_goals
    go_enter Tryd.func3, Tryd.ntmps3
    go_wp2_with fail
    refine (newDir_any _ _).mono ?_
    rintro e w1 ⟨rfl, hw1⟩
    have hw1' := hideIt hw1
    have hs1 : w1.heap.size = w.heap.size + 2 := by rw [hw1]; simp
    clear hw1
    go_wp2_with fail
    refine (repo_any n (w.heap.size + 2) 1 1 (w.heap.size + 1) _ hn1 hn2 (by omega) (by simp [hs1]) (World.cell?_alloc_at _ _ _ _ (by rw [hs1]))).mono ?_
    rintro e w2 ⟨rb, rfl, hR, hb2⟩
    have hroot : w2.cell? ⟨w.heap.size + 1, 1, none⟩ = some (.bool true) := by
      rw [hb2.cell (by simp [hs1]), World.cell?_alloc_past _ _ _ (by omega), hw1'.out, World.cell?_alloc_at _ _ _ _ (by simp)]
      rfl
    have hbw : Hid (Below w.heap.size w w2) := by
      have h1 : Below w.heap.size w w1 := by rw [hw1'.out]; exact ((Below.refl _ _).alloc (Nat.le_refl _) _).alloc (by simp) _
      exact (h1.alloc h1.size _).trans (hb2.mono (by simp [hs1]; omega))
    have hK := hideIt (kind_root rb n _ rev _ w2 hn2 hR (fun _ => hroot))
    obtain ⟨g, c, ps, hl, hc, _⟩ := hR
    have hY := hideIt (youngest_any rb g n c w2 (by omega) hc)
    clear hb2 hw1' hc hl
    unfold ptr at *
    go_wp2_with fail
    refine hY.out.mono ?_
    rintro e w3 ⟨rfl, hw3⟩
    subst hw3
    go_wp2_with fail
    refine hK.out.mono ?_
    rintro e w4 ⟨rfl, hb4⟩
    rw [hif.out]
    go_wp2_with fail
    refine (new_any _).mono ?_
    rintro e w5 ⟨nb, rfl, hb5, g5, c5, hc5⟩
    go_wp2_with fail
    refine (youngest_any _ _ _ _ _ (by omega) hc5).mono ?_
    rintro e w6 ⟨rfl, hw6⟩
    subst hw6
    go_wp2
    go_ret
    refine ⟨rfl, ?_⟩
    exact (hbw.out.trans (hb4.mono hbw.out.size)).trans (hb5.mono (Nat.le_trans hbw.out.size hb4.size))
end Go.Proofs.Qxb6605817aDoor
