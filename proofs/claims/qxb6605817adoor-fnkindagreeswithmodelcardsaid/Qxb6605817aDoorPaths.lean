/-
  THE WALKS of seat b6605817aD: zzPathsRb1: every node's path written out.
-/
import Derived.Test.Qxb6605817aDoorTree
import Derived.RegionTactic
namespace Go.Proofs.Qxb6605817aDoor
open Go.RowKit

theorem ent_take (es : List Ent) (i : Nat) (h : i < es.length) : nameSum (es.take (i + 1)) = nameSum (es.take i) + (ent es i).name.size := by
  rw [nameSum_step es i h, ent_eq es i h]
theorem nameSum_mono (es : List Ent) {a b : Nat} (h : a ≤ b) (hb : b ≤ es.length) : nameSum (es.take a) ≤ nameSum (es.take b) := by
  induction b with
  | zero => obtain rfl : a = 0 := by omega
            exact Nat.le_refl _
  | succ b ih =>
    by_cases e : a = b + 1
    · subst e; exact Nat.le_refl _
    · have := ih (by omega) (by omega)
      rw [ent_take es b (by omega)]; omega

/-- A path is no longer than all names and as many slashes. -/
theorem path_len {es : List Ent} {I D : Nat → Bool} (G : Good es I D) : ∀ k, k ≤ es.length → I k = true → (joinN (chain es k)).length ≤ nameSum (es.take k) + k := by
  intro k
  induction k using Nat.strongRecOn with
  | _ k ih =>
    intro hk hI
    cases k with
    | zero => exact Nat.zero_le _
    | succ i =>
      obtain ⟨q, hq, hqi, hqI, _⟩ := G.up i (by omega) hI
      have h1 := ih q (by omega) (by omega) hqI
      have h2 := nameSum_mono es hqi (by omega)
      have h3 := ent_take es i (by omega)
      have hsz : (ent es i).name.data.toList.length = (ent es i).name.size := by simp
      rw [chain_succ G (by omega) hq hqi hqI]
      by_cases hc : chain es q = []
      · rw [hc]
        show (ent es i).name.data.toList.length ≤ _
        omega
      · rw [joinN_snoc _ _ hc, List.length_append, List.length_cons]
        omega

/-- Node k's path when i entries have been looked at. -/
def pathL (es : List Ent) (I : Nat → Bool) (i k : Nat) : List UInt8 := if k ≤ i ∧ I k = true then joinN (chain es k) else []

/-- A row of small numbers. -/
structure SmallRow (w : World) (b n : Nat) : Prop where
  cell : ∀ k, k < n → ∃ v : Nat, v ≤ 4194304 ∧ w.cell? ⟨b, k, none⟩ = some (.int .i64 v)
  fro : ∀ k, w.frozen? ⟨b, k, none⟩ = false
theorem SmallRow.set {w : World} {b n : Nat} (h : SmallRow w b n) (k v : Nat) (hv : v ≤ 4194304) : SmallRow (w.setCell ⟨b, k, none⟩ (.int .i64 v)) b n := by
  refine ⟨fun j hj => ?_, fun j => by rw [World.frozen?_setCell]; exact h.fro j⟩
  obtain ⟨u, hu, hc⟩ := h.cell j hj
  by_cases e : j = k
  · subst e; exact ⟨v, hv, set_eq _ hc⟩
  · exact ⟨u, hu, (set_ne _ e).trans hc⟩
/-- The row of paths. -/
structure PathRow (w : World) (b n : Nat) (f : Nat → List UInt8) : Prop where
  cell : ∀ k, k < n → ∃ s : ByteArray, s.data.toList = f k ∧ w.cell? ⟨b, k, none⟩ = some (.string s)
  fro : ∀ k, w.frozen? ⟨b, k, none⟩ = false
theorem PathRow.set {w : World} {b n : Nat} {f g : Nat → List UInt8} (h : PathRow w b n f) (k : Nat) (s : ByteArray) (hs : s.data.toList = g k) (hg : ∀ j, j < n → j ≠ k → g j = f j) : PathRow (w.setCell ⟨b, k, none⟩ (.string s)) b n g := by
  refine ⟨fun j hj => ?_, fun j => by rw [World.frozen?_setCell]; exact h.fro j⟩
  obtain ⟨u, hu, hc⟩ := h.cell j hj
  by_cases e : j = k
  · subst e; exact ⟨s, hs, set_eq _ hc⟩
  · exact ⟨u, by rw [hg j hj e]; exact hu, (set_ne _ e).trans hc⟩
theorem PathRow.congr {w : World} {b n : Nat} {f g : Nat → List UInt8} (h : PathRow w b n f) (hg : ∀ j, j < n → g j = f j) : PathRow w b n g :=
  ⟨fun j hj => by obtain ⟨u, hu, hc⟩ := h.cell j hj; exact ⟨u, by rw [hg j hj]; exact hu, hc⟩, h.fro⟩
theorem PathRow.keep {w w' : World} {b n : Nat} {f : Nat → List UInt8} (h : PathRow w b n f) (hk : w'.heap[b]? = w.heap[b]?) : PathRow w' b n f :=
  ⟨fun j hj => by obtain ⟨u, hu, hc⟩ := h.cell j hj; exact ⟨u, hu, (keep_cell hk).trans hc⟩, fun k => (keep_frozen hk).trans (h.fro k)⟩

theorem pathL_skip {es : List Ent} {I : Nat → Bool} {i : Nat} (h : I (i + 1) = false) (j : Nat) : pathL es I (i + 1) j = pathL es I i j := by
  unfold pathL
  by_cases e : j = i + 1
  · subst e; rw [h, if_neg (by simp), if_neg (by simp)]
  · by_cases hj : j ≤ i
    · simp [hj, Nat.le_succ_of_le hj]
    · rw [if_neg (fun hc => by omega), if_neg (fun hc => hj hc.1)]
theorem pathL_other {es : List Ent} {I : Nat → Bool} {i j : Nat} (h : j ≠ i + 1) : pathL es I (i + 1) j = pathL es I i j := by
  unfold pathL
  by_cases hj : j ≤ i
  · simp [hj, Nat.le_succ_of_le hj]
  · rw [if_neg (fun hc => by omega), if_neg (fun hc => hj hc.1)]
theorem pathL_root {es : List Ent} {I D : Nat → Bool} (G : Good es I D) {i : Nat} (hi : i < es.length) (hI : I (i + 1) = true) (hp : (ent es i).par = 0) : pathL es I (i + 1) (i + 1) = (ent es i).name.data.toList := by
  unfold pathL
  rw [if_pos ⟨Nat.le_refl _, hI⟩, chain_succ G hi (q := 0) hp (Nat.zero_le _) G.root]
  rfl
theorem pathL_deep {es : List Ent} {I D : Nat → Bool} (G : Good es I D) {i q : Nat} (hi : i < es.length) (hI : I (i + 1) = true) (hp : (ent es i).par = (q : Int)) (hq0 : q ≠ 0) (hqi : q ≤ i) (hqI : I q = true) :
    pathL es I (i + 1) (i + 1) = pathL es I i q ++ 47 :: (ent es i).name.data.toList := by
  unfold pathL
  rw [if_pos ⟨Nat.le_refl _, hI⟩, if_pos ⟨hqi, hqI⟩, chain_succ G hi hp hqi hqI, joinN_snoc _ _ (fun e => hq0 ((chain_nil G (by omega) hqI).1 e))]
theorem pathL_len {es : List Ent} {I D : Nat → Bool} (G : Good es I D) {i k : Nat} (hk : k ≤ es.length) : (pathL es I i k).length ≤ nameSum es + es.length := by
  unfold pathL
  split
  · rename_i h
    have h1 := path_len G k hk h.2
    have h2 := nameSum_mono es hk (Nat.le_refl _)
    rw [List.take_of_length_le (Nat.le_refl _)] at h2
    omega
  · exact Nat.zero_le _

/-- What zzPathsRb1 leaves: a refusal, or the row of paths. -/
def PathsOut (w : World) (es : List Ent) (I : Nat → Bool) (e : Ending) (w' : World) : Prop :=
  Below w.heap.size w w' ∧ ((e = .returned (.tuple #[.slice none 0 0, .bool false])) ∨
    e = .returned (.tuple #[.slice (some ⟨w.heap.size + 1, 0, none⟩) (es.length + 1) (es.length + 1), .bool true]) ∧ PathRow w' (w.heap.size + 1) (es.length + 1) (pathL es I es.length))

theorem info3 : (Tryd.prog.info? 3).map (fun i => (i.zero, i.size, i.bytes)) = some (some (.int .i64 0), 1, 8) := by kernel_rfl
theorem info9 : (Tryd.prog.info? 9).map (fun i => (i.zero, i.size, i.bytes)) = some (some (.string ⟨#[]⟩), 1, 16) := by kernel_rfl

set_option maxRecDepth 100000 in
set_option maxHeartbeats 4000000 in
theorem paths_any (a : Option Addr) (len cap ib : Nat) (es : List Ent) (I D : Nat → Bool) (b off : Nat) (w : World) (hlen : es.length = len) (hmax : 32 * len + nameSum es ≤ 1048576) (hE : Ents w a es b off)
    (hI : BoolRow w ib (len + 1) I) (G : Good es I D) :
    Calls Tryd.prog 21 #[.slice a len cap, .slice (some ⟨ib, 0, none⟩) (len + 1) (len + 1)] w (PathsOut w es I) := by
  have hmk : ∀ W : World, (Instr.makeSlice 64 (.int .i64 ((len : Int) + 1)) (.int .i64 ((len : Int) + 1))).run Tryd.prog W = .ok (.slice (some ⟨W.heap.size, 0, none⟩) (len + 1) (len + 1)) (W.alloc (.cells (madeCells #[.int .i64 0] (len + 1)) 3)) := fun W => by
    have := run_make_row' (P := Tryd.prog) 64 3 (.int .i64 0) 8 Tryd.underlying64 info3 rfl .i64 .i64 (len + 1) (by omega) (by omega) W
    rw [show ((len + 1 : Nat) : Int) = (len : Int) + 1 from by omega] at this
    exact this
  have hmk2 : ∀ W : World, (Instr.makeSlice 42 (.int .i64 ((len : Int) + 1)) (.int .i64 ((len : Int) + 1))).run Tryd.prog W = .ok (.slice (some ⟨W.heap.size, 0, none⟩) (len + 1) (len + 1)) (W.alloc (.cells (madeCells #[.string ⟨#[]⟩] (len + 1)) 9)) := fun W => by
    have := run_make_row' (P := Tryd.prog) 42 9 (.string ⟨#[]⟩) 16 Tryd.underlying42 info9 rfl .i64 .i64 (len + 1) (by omega) (by omega) W
    rw [show ((len + 1 : Nat) : Int) = (len : Int) + 1 from by omega] at this
    exact this
  have hlen4 : len ≤ 32768 := by omega
  have hnm : ∀ i, i < es.length → (ent es i).name.size ≤ 1048576 := fun i hi => by
    have h1 := ent_take es i hi
    have h2 := nameSum_mono es (show i + 1 ≤ es.length from hi) (Nat.le_refl _)
    rw [List.take_of_length_le (Nat.le_refl _)] at h2
    omega
  have hib : ib < w.heap.size := lt_of_heap_cell (hI.cell 0 (by omega))
  have HM := hideIt hnm
  have HX := hideIt hmax
  clear hnm hmax
  go_enter Tryd.func21, Tryd.ntmps21
  go_wp2
  have hS0 : Hid (SmallRow (w.alloc (Obj.cells (madeCells #[Value.int IntKind.i64 0] (len + 1)) 3)) w.heap.size (len + 1)) :=
    ⟨fun k hk => ⟨0, by omega, by
      rw [World.cell?_alloc_new, Array.getElem?_eq_getElem (by rw [size_madeCells]; exact hk)]
      simp [madeCells, Nat.mod_one]⟩, fun k => World.frozen?_alloc_new _ _ _ _⟩
  have hB0 : Hid (Below w.heap.size w (w.alloc (Obj.cells (madeCells #[Value.int IntKind.i64 0] (len + 1)) 3))) := (Below.refl _ _).alloc (Nat.le_refl _) _
  go_loopw [8, 9] (fun tot si wr => ∃ (t i : Nat), t ≤ 4194304 ∧ i ≤ len ∧ tot = .int .i64 t ∧ si = .int .i64 i ∧ SmallRow wr w.heap.size (len + 1) ∧ Below w.heap.size w wr ∧ wr.heap.size = w.heap.size + 1) (fun _ si _ => len - (intOf si).toNat)
  case atStart => exact ⟨0, 0, by omega, Nat.zero_le _, rfl, rfl, hS0.out, hB0.out, by simp⟩
  case round =>
    clear hS0 hB0 hmk
    obtain ⟨t, i, ht, hi, rfl, rfl, hS, hb, hsz⟩ := hrel
    by_cases hlt : i < len
    · clear hmk2
      have hi' : i < es.length := by omega
      have hEr := hE.later hb
      obtain rfl := hE.base (by omega)
      have c0 := hEr.par i hi'
      have c1 := hEr.name i hi'
      rw [← ent_eq es i hi'] at c0 c1
      have hz := HM.out i hi'
      have r1 := (hI.keep (hb.block ib hib)).cell (i + 1) (by omega)
      obtain ⟨v1, hv1, s1⟩ := hS.cell (i + 1) (by omega)
      have f1 := hS.fro (i + 1)
      have HZ := hideIt hsz
      clear hsz
      cases hIi : I (i + 1) with
      | false =>
        rw [hIi] at r1
        clear hIi
        go_wp2
        go_roundw
        case rel => exact ⟨t, i + 1, ht, by omega, rfl, by go_num, hS, hb, HZ.out⟩
        case measure => simp [intOf]; omega
      | true =>
      rw [hIi] at r1
      obtain ⟨q, hq, hqi, hqI, hqD⟩ := G.up i hi' hIi
      rw [hq] at c0
      clear hIi
      generalize (ent es i).name = nm at *
      by_cases hq0 : q = 0
      · subst hq0
        have hset := hideIt (fun hv => hS.set (i + 1) nm.size hv)
        have hbs := hideIt (hb.setCell (p := ⟨w.heap.size, i + 1, none⟩) (Nat.le_refl _) (.int .i64 nm.size))
        by_cases hsum : 4194304 < t + nm.size
        · go_wp2
          go_ret2
          exact ⟨hbs.out, .inl rfl⟩
        · go_wp2
          go_roundw
          case rel => exact ⟨t + nm.size, i + 1, by omega, by omega, by go_num, by go_num, hset.out (by omega), hbs.out, by rw [World.size_setCell]; exact HZ.out⟩
          case measure => simp [intOf]; omega
      · obtain ⟨v, hv, s2⟩ := hS.cell q (by omega)
        have hqp : (0 : Int) < (q : Int) := by omega
        have hset := hideIt (fun hv => hS.set (i + 1) (nm.size + (v + 1)) hv)
        have hbs := hideIt (hb.setCell (p := ⟨w.heap.size, i + 1, none⟩) (Nat.le_refl _) (.int .i64 ((nm.size + (v + 1) : Nat) : Int)))
        have hc : ((nm.size + (v + 1) : Nat) : Int) = (nm.size : Int) + ((v : Int) + 1) := by omega
        rw [hc] at hset hbs
        by_cases hsum : (4194304 : Int) < (t : Int) + ((nm.size : Int) + ((v : Int) + 1))
        · clear hc
          go_wp2
          go_ret2
          exact ⟨hbs.out, .inl rfl⟩
        · have hle : Hid (nm.size + (v + 1) ≤ 4194304) := by show _ ≤ _; omega
          have hle2 : Hid (t + (nm.size + (v + 1)) ≤ 4194304) := by show _ ≤ _; omega
          clear hc
          go_wp2
          go_roundw
          case rel => exact ⟨t + (nm.size + (v + 1)), i + 1, hle2.out, by omega, by go_num, by go_num, hset.out hle.out, hbs.out, by rw [World.size_setCell]; exact HZ.out⟩
          case measure => simp [intOf]; omega
    · go_wp2
      have hP0 : Hid (PathRow (wr.alloc (Obj.cells (madeCells #[Value.string { data := #[] }] (len + 1)) 9)) (w.heap.size + 1) (len + 1) (pathL es I 0)) := by
        refine ⟨fun k hk => ⟨⟨#[]⟩, ?_, ?_⟩, fun k => ?_⟩
        · unfold pathL
          by_cases h0 : k = 0
          · subst h0; rw [if_pos ⟨Nat.le_refl _, G.root⟩]; rfl
          · rw [if_neg (fun hc => h0 (by omega))]
        · rw [← hsz, World.cell?_alloc_new, Array.getElem?_eq_getElem (by rw [size_madeCells]; exact hk)]
          simp [madeCells, Nat.mod_one]
        · rw [← hsz]; exact World.frozen?_alloc_new _ _ _ _
      have hB1 : Hid (Below w.heap.size w (wr.alloc (Obj.cells (madeCells #[Value.string { data := #[] }] (len + 1)) 9))) := hb.alloc hb.size _
      clear hS hmk2 hb
      generalize wr.alloc (Obj.cells (madeCells #[Value.string { data := #[] }] (len + 1)) 9) = wz at *
      clear hsz
      go_loopw [13] (fun si wx => ∃ i : Nat, i ≤ len ∧ si = .int .i64 i ∧ PathRow wx (w.heap.size + 1) (len + 1) (pathL es I i) ∧ Below w.heap.size w wx) (fun si _ => len - (intOf si).toNat)
      case atStart => exact ⟨0, Nat.zero_le _, rfl, hP0.out, hB1.out⟩
      case round =>
        clear hP0 hB1
        obtain ⟨i, hi, rfl, hP, hb⟩ := hrel
        by_cases hlt : i < len
        · have hi' : i < es.length := by omega
          have hEr := hE.later hb
          obtain rfl := hE.base (by omega)
          have c0 := hEr.par i hi'
          have c1 := hEr.name i hi'
          rw [← ent_eq es i hi'] at c0 c1
          have hz := HM.out i hi'
          have r1 := (hI.keep (hb.block ib hib)).cell (i + 1) (by omega)
          obtain ⟨v1, hv1, s1⟩ := hP.cell (i + 1) (by omega)
          have f1 := hP.fro (i + 1)
          clear hv1
          cases hIi : I (i + 1) with
          | false =>
            rw [hIi] at r1
            have hN := hideIt (hP.congr (fun j _ => pathL_skip hIi j))
            clear hIi
            go_wp2
            go_roundw
            case rel => exact ⟨i + 1, by omega, by go_num, hN.out, hb⟩
            case measure => simp [intOf]; omega
          | true =>
          rw [hIi] at r1
          obtain ⟨q, hq, hqi, hqI, hqD⟩ := G.up i hi' hIi
          rw [hq] at c0
          by_cases hq0 : q = 0
          · subst hq0
            have hN := hideIt (hP.set (g := pathL es I (i + 1)) (i + 1) (ent es i).name (pathL_root G hi' hIi hq).symm (fun j _ hne => pathL_other hne))
            have hbs := hideIt (hb.setCell (p := ⟨w.heap.size + 1, i + 1, none⟩) (Nat.le_succ _) (.string (ent es i).name))
            clear hIi hq
            go_wp2
            go_roundw
            case rel => exact ⟨i + 1, by omega, by go_num, hN.out, hbs.out⟩
            case measure => simp [intOf]; omega
          · obtain ⟨sq, hsq, s2⟩ := hP.cell q (by omega)
            have hlq : sq.size ≤ 1048576 := by
              have h1 := pathL_len G (i := i) (show q ≤ es.length by omega)
              rw [← hsq] at h1
              have h2 : sq.data.toList.length = sq.size := by simp
              have h3 := HX.out
              omega
            have hqe : ((q : Int) == 0) = false := by rw [beq_eq_false_iff_ne]; omega
            have hN := hideIt (fun W (hW : PathRow W (w.heap.size + 1) (len + 1) (pathL es I i)) => hW.set (g := pathL es I (i + 1)) (i + 1) (sq ++ ⟨#[47]⟩ ++ (ent es i).name) (by rw [pathL_deep G hi' hIi hq hq0 hqi hqI, ← hsq]; simp) (fun j _ hne => pathL_other hne))
            clear hIi hq hsq
            generalize (ent es i).name = nm at *
            go_wp2
            go_region
            all_goals
              go_wp2
              go_roundw
              case rel => exact ⟨i + 1, by omega, by go_num, (hN.out wr hP).keep rfl, (hb.setCell (p := ⟨w.heap.size + 1, i + 1, none⟩) (Nat.le_succ _) _).drew⟩
              case measure => simp [intOf]; omega
        · have hie : i = len := by omega
          subst hie
          go_wp2
          go_ret2
          refine ⟨hb, .inr ⟨?_, ?_⟩⟩
          · rw [hlen]; rfl
          · rw [hlen]; exact hP
end Go.Proofs.Qxb6605817aDoor
