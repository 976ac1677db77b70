/-
  THE LAW FnDecimalDigitsModel of seat b6606321aD, walked.
-/
import Derived.Test.Qxb6606321aDoorW3
import Derived.Test.Qxb6606321aDoorW4
namespace Go.Proofs.Qxb6606321aDoor
open Go.RowKit

theorem at_of {s : ByteArray} {A B : List UInt8} {c : UInt8} (h : s.data.toList = A ++ c :: B) : ∃ h : A.length < s.size, s[A.length] = c := by
  have hl := size_list s
  have h2 := congrArg List.length h
  rw [hl, List.length_append, List.length_cons] at h2
  refine ⟨by omega, ?_⟩
  have h3 : s.data.toList[A.length]? = some c := by rw [h]; simp
  rw [List.getElem?_eq_getElem (by omega)] at h3
  exact Option.some.inj h3
theorem len_of {s : ByteArray} {A E B : List UInt8} (h : s.data.toList = A ++ (E ++ B)) : A.length + E.length + B.length = s.size := by
  have hl := size_list s
  have h2 := congrArg List.length h
  rw [hl, List.length_append, List.length_append] at h2
  omega
theorem seg_of {s : ByteArray} {A E B : List UInt8} (h : s.data.toList = A ++ (E ++ B)) : Seg s A.length (A.length + E.length) = E := by
  unfold Seg
  rw [h, ← List.append_assoc, List.take_left' (by simp), List.drop_left]
theorem digs_of {s : ByteArray} {A E B : List UInt8} (h : s.data.toList = A ++ (E ++ B)) (hd : E.all Plain.dig = true) : Digs s A.length (A.length + E.length) := by
  intro m hm h1 h2
  have h3 : s.data.toList[m]? = E[m - A.length]? := by
    rw [h, List.getElem?_append_right h1, List.getElem?_append_left (by omega)]
  rw [List.getElem?_eq_getElem (by rw [size_list]; exact hm), List.getElem?_eq_getElem (by omega)] at h3
  have h4 : s[m] = E[m - A.length] := Option.some.inj h3
  rw [h4]
  exact List.all_eq_true.1 hd _ (List.getElem_mem _)

theorem expAt_of {s : ByteArray} {M X : List UInt8} (h : s.data.toList = M ++ X) (hx : X = [] ∨ Plain.IsExp X) : ExpAt s M.length (Plain.expo X) := by
  rcases hx with rfl | ⟨e, sg, E, rfl, he, hsg, hne, hd⟩
  · refine .inl ⟨?_, rfl⟩
    have := congrArg List.length h
    rw [size_list] at this
    simpa using this.symm
  · have hE : 0 < E.length := List.length_pos_iff.2 hne
    obtain ⟨hlt, hat⟩ := at_of h
    have hee : (s[M.length].toNat : Int) = 101 ∨ (s[M.length].toNat : Int) = 69 := by
      rw [hat]
      rcases he with rfl | rfl
      · exact .inl rfl
      · exact .inr rfl
    rcases hsg with rfl | rfl | rfl
    · have h1 : s.data.toList = (M ++ [e]) ++ (E ++ []) := by rw [h]; simp
      have hn := len_of h1
      rw [List.length_append, List.length_singleton, List.length_nil] at hn
      have hg := seg_of h1
      have hds := digs_of h1 hd
      rw [List.length_append, List.length_singleton, show M.length + 1 + E.length = s.size by omega] at hg hds
      refine .inr ⟨by omega, hee, .inl ⟨hds, ?_⟩⟩
      rw [hg]
      cases E with
      | nil => exact absurd rfl hne
      | cons c r =>
        have hc := Plain.head_dig hd
        have h43 : c ≠ 43 := fun e => by subst e; exact absurd hc.1 (by decide)
        have h45 : c ≠ 45 := fun e => by subst e; exact absurd hc.1 (by decide)
        show Plain.expo (e :: c :: r) = _
        rw [Plain.expo_cons, if_neg h45, if_neg h43]
    · have h1 : s.data.toList = (M ++ [e, 43]) ++ (E ++ []) := by rw [h]; simp
      have h2 : s.data.toList = (M ++ [e]) ++ 43 :: E := by rw [h]; simp
      have hn := len_of h1
      have hg := seg_of h1
      have hds := digs_of h1 hd
      have hl : (M ++ [e, (43 : UInt8)]).length = M.length + 2 := by simp
      rw [hl] at hn hg hds
      rw [List.length_nil] at hn
      rw [show M.length + 2 + E.length = s.size by omega] at hg hds
      obtain ⟨hlt2, hat2⟩ := at_of h2
      have hl2 : (M ++ [e]).length = M.length + 1 := by simp
      simp only [hl2] at hat2 hlt2
      refine .inr ⟨by omega, hee, .inr ⟨by omega, hds, .inl ⟨by rw [hat2]; rfl, ?_⟩⟩⟩
      rw [hg]
      show Plain.expo (e :: 43 :: E) = _
      rw [Plain.expo_cons, if_neg (by decide), if_pos rfl]
    · have h1 : s.data.toList = (M ++ [e, 45]) ++ (E ++ []) := by rw [h]; simp
      have h2 : s.data.toList = (M ++ [e]) ++ 45 :: E := by rw [h]; simp
      have hn := len_of h1
      have hg := seg_of h1
      have hds := digs_of h1 hd
      have hl : (M ++ [e, (45 : UInt8)]).length = M.length + 2 := by simp
      rw [hl] at hn hg hds
      rw [List.length_nil] at hn
      rw [show M.length + 2 + E.length = s.size by omega] at hg hds
      obtain ⟨hlt2, hat2⟩ := at_of h2
      have hl2 : (M ++ [e]).length = M.length + 1 := by simp
      simp only [hl2] at hat2 hlt2
      refine .inr ⟨by omega, hee, .inr ⟨by omega, hds, .inr ⟨by rw [hat2]; rfl, ?_⟩⟩⟩
      rw [hg]
      show -Plain.expo (e :: 45 :: E) = _
      rw [Plain.expo_cons, if_pos rfl, Int.neg_neg]

theorem before_t {W F : List UInt8} {x : Int} (h : Plain.nz (W ++ F) = true) : Plain.before W F x = max ((W.length : Int) + x - Plain.lz (W ++ F)) 0 := if_pos h
theorem before_n {W F : List UInt8} {x : Int} (h : Plain.nz (W ++ F) = false) : Plain.before W F x = 0 := if_neg (by rw [h]; decide)

theorem model_lit (s : ByteArray) (w : World) (hs : s.size ≤ 1048576) (W Pt F X : List UInt8) (h : Plain.IsLit s.data.toList W Pt F X) :
    Calls Tryd.prog 11 #[.string s] w fun e w' => e = .returned (.tuple #[.int .i64 (Plain.before W F (Plain.expo X)), .int .i64 (Plain.after F (Plain.expo X))]) ∧ w' = w := by
  obtain ⟨hx1, hx2⟩ := Plain.expo_bounds X
  have hw : s.data.toList = [] ++ (W ++ (Pt ++ (F ++ X))) := h.eq
  have hdw := digs_of hw h.w
  have hsw := seg_of hw
  rw [List.length_nil, Nat.zero_add] at hdw hsw
  rcases h.p with ⟨rfl, rfl⟩ | rfl
  · have heq : s.data.toList = W ++ X := h.eq
    have hl := congrArg List.length heq
    rw [size_list, List.length_append] at hl
    refine model_np s w hs W.length (Plain.expo X) _ _ (by omega) hdw (expAt_of heq h.x) hx1 hx2 ?_ ?_ ?_
    · rw [hsw]; intro hn; rw [before_t (by rw [List.append_nil]; exact hn), List.append_nil]
    · rw [hsw]; intro hn; exact before_n (by rw [List.append_nil]; exact hn)
    · rfl
  · have h1 : s.data.toList = W ++ 46 :: (F ++ X) := h.eq
    have h2 : s.data.toList = (W ++ [46]) ++ (F ++ X) := by rw [h1]; simp
    have h3 : s.data.toList = ((W ++ [46]) ++ F) ++ X := by rw [h1]; simp
    obtain ⟨hlt, hat⟩ := at_of h1
    have hn := len_of h2
    have hdf := digs_of h2 h.f
    have hsf := seg_of h2
    have hx := expAt_of h3 h.x
    have hl : (W ++ [(46 : UInt8)]).length = W.length + 1 := by simp
    rw [hl] at hn hdf hsf
    rw [List.length_append, hl] at hx
    refine model_pt s w hs W.length (W.length + 1 + F.length) (Plain.expo X) _ _ hlt (by show (s[W.length].toNat : Int) = 46; rw [hat]; rfl) (by omega) (by omega) hdw hdf hx hx1 hx2 ?_ ?_ ?_
    · rw [hsw, hsf]; exact before_t
    · rw [hsw, hsf]; exact before_n
    · show max ((F.length : Int) - Plain.expo X) 0 = _
      congr 1
      omega

theorem digits_lit (s : ByteArray) (w : World) (hs : s.size ≤ 1048576) (W Pt F X : List UInt8) (h : Plain.IsLit s.data.toList W Pt F X) (m : Int) (hm : w.cell? ⟨0, 0, none⟩ = some (.int .i64 m)) (tp : TypeId) (pv : Value) (hvar : ∀ W : World, Below w.heap.size w W → W.var? Tryd.prog "strconv.ErrRange" = some #[.iface tp pv]) :
    Calls Tryd.prog 15 #[.string s] w fun e w' => e = .returned (.tuple #[.int .i64 (Plain.before W F (Plain.expo X)), .int .i64 (Plain.after F (Plain.expo X))]) ∧ Below w.heap.size w w' := by
  rcases h.x with rfl | hx
  · exact digits_none s w hs W Pt F h m hm
  · obtain ⟨e, r, rfl, he, hP⟩ := Plain.parsed_exp hx
    exact digits_exp s w hs W Pt F r e he h _ hP m hm tp pv hvar

theorem zz_of {s : ByteArray} {w : World} {x y : Int} (h : Calls Tryd.prog 15 #[.string s] w fun e w' => e = .returned (.tuple #[.int .i64 x, .int .i64 y]) ∧ Below w.heap.size w w') :
    Calls Tryd.prog 10 #[.string s] w fun e w' => e = .returned (.tuple #[.int .i64 x, .int .i64 y]) ∧ Below w.heap.size w w' := by
  have H := hideIt h
  clear h
  go_enter Tryd.func10, Tryd.ntmps10
  go_wp2_with (go_at_call 15; refine H.out.mono ?_; rintro e w' ⟨rfl, hb⟩)
  go_ret2
  exact ⟨rfl, hb⟩

set_option maxHeartbeats 1000000 in
theorem law (s : ByteArray) (w : World) (hs : s.size ≤ maxLen) (m : Int) (hm : w.cell? ⟨0, 0, none⟩ = some (.int .i64 m)) (tp : TypeId) (pv : Value) (hvar : ∀ W : World, Below w.heap.size w W → W.var? Tryd.prog "strconv.ErrRange" = some #[.iface tp pv]) :
    Calls Tryd.prog 4 #[.string s] w fun e w' => e = .returned (.bool true) ∧ Below w.heap.size w w' := by
  have h8 := hideIt (bytes8 s w hs)
  by_cases hsz : s.size ≤ 1048576
  · rw [decide_eq_true hsz] at h8
    have h9 := hideIt (lit_any s w hsz)
    go_enter Tryd.func4, Tryd.ntmps4
    go_wp2_with fail
    refine h8.out.mono ?_
    rintro e w' ⟨rfl, hw⟩
    subst hw
    go_wp2_with fail
    refine h9.out.mono ?_
    rintro e w0 ⟨⟨r, rfl, hr⟩, hw⟩
    subst hw
    cases r with
    | false =>
      clear hr
      go_wp2
      go_ret
      exact ⟨rfl, Below.refl _ _⟩
    | true =>
      obtain ⟨W, Pt, F, X, hl⟩ := hr rfl
      have h10 := hideIt (zz_of (digits_lit s w0 hsz W Pt F X hl m hm tp pv hvar))
      have h11 := hideIt (fun w => model_lit s w hsz W Pt F X hl)
      clear hr hl
      generalize Plain.before W F (Plain.expo X) = x at *
      generalize Plain.after F (Plain.expo X) = y at *
      go_wp2_with fail
      refine h10.out.mono ?_
      rintro e w1 ⟨rfl, hb⟩
      go_wp2_with fail
      refine (h11.out w1).mono ?_
      rintro e w' ⟨rfl, hw⟩
      subst hw
      go_wp2
      go_ret
      exact ⟨rfl, hb⟩
  · rw [decide_eq_false hsz] at h8
    go_enter Tryd.func4, Tryd.ntmps4
    go_wp2_with fail
    refine h8.out.mono ?_
    rintro e w' ⟨rfl, hw⟩
    subst hw
    go_wp2
    go_ret
    exact ⟨rfl, Below.refl _ _⟩
end Go.Proofs.Qxb6606321aDoor
