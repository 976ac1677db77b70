/-
  THE ROW AND THE TIED CARD of 'FnDecimalDigitsModel'.
-/
import Derived.Test.Qxb6606321aDoorTie
import Derived.Test.Qxb6606321aDoorCards
import Derived.Test.Qxb6606321aDoorW5
import Derived.Test.Qxb6606321aDoorWrap
import Derived.ProofKit
import Derived.OpenShut
import Derived.ShutString
import Derived.ChangeOld
import Derived.Below
import Derived.LaidMore
import Derived.Lay
import Derived.SevenTiedAt
import Derived.Stop.Joined
import Derived.Stop.LaidErr
namespace Go.Proofs.Qxb6606321aDoor.fnDecimalDigitsModelP
open Go.ChangeShapes Go.WideShapes Go.ChangeAt Go.RowKit
open Go.ChangeMaps (open_string shut_string)

theorem own : ownKnob Tryd.prog.godebug = none := by kernel_rfl
theorem maxLen_cell {W : World} (h : W.ShapedOpen Tryd.prog) : ∃ m, W.cell? ⟨0, 0, none⟩ = some (.int .i64 m) :=
  cell_of_shapedOpen_int (t := 3) (zero := #[.int .i64 0]) h (of_decide_eq_true (by kernel_rfl)) (by kernel_rfl) rfl (by kernel_rfl) (by kernel_rfl) Tryd.underlying3
theorem gR : Tryd.prog.globalNamed "strconv.ErrRange" = some 4 := by kernel_rfl
theorem gRType : (Tryd.prog.globals[4]?).map (·.type) = some 36 := by kernel_rfl
theorem cells89 : Tryd.prog.cellsOf 89 = 1 := by kernel_rfl
theorem cells9 : Tryd.prog.cellsOf 9 = 1 := by kernel_rfl
theorem star : "*" ++ "errors.errorString" = "*errors.errorString" := by decide
theorem row87 (u : TypeId) (h : Tryd.prog.typeName? 3 u = some "*errors.errorString") : u = 87 :=
  typeName_ptr_named (nm := "errors.errorString") (by rw [star]; kernel_rfl) (by kernel_rfl) (by decide) u (by rw [star]; exact h)
theorem var_later {W W' : World} {v : Value} (h : W.var? Tryd.prog "strconv.ErrRange" = some #[v]) (hb : Below W.heap.size W W') : W'.var? Tryd.prog "strconv.ErrRange" = some #[v] := by
  unfold World.var? at h ⊢
  rw [gR] at h ⊢
  simp only [Option.bind_some] at h ⊢
  have hlt : 4 < W.heap.size := by
    rcases Nat.lt_or_ge 4 W.heap.size with h' | h'
    · exact h'
    · simp [Array.getElem?_eq_none h'] at h
  rw [hb.block 4 hlt]
  exact h

set_option maxRecDepth 100000 in
theorem lifted (os : Os) (started : os.Started) (H : Type) (enc : TypeId × Value → H) :
    ReturnsInHanded {} Tryd.checked os 4 .any (fun w args => (Rows.fnDecimalDigitsModelSpec.pre enc Tryd.prog Tryd.f4 Rows.fnDecimalDigitsModelRow.domain false w args ∧ laidMetH Tryd.prog Rows.fnDecimalDigitsModelRow.laid w) ∧ sizedMet enc Tryd.prog Tryd.f4 (OpenSpec.ofChange Rows.fnDecimalDigitsModelSpec) false w args)
      (Rows.fnDecimalDigitsModelSpec.post enc Tryd.prog Tryd.f4 false true false false) := by
  refine returnsInHanded_of_change_and_shaped (C := Tryd.checked) (X := fun w _ => laidMetH Tryd.prog Rows.fnDecimalDigitsModelRow.laid w) (fun _ _ _ hh h => h.of_heap hh) own started (by kernel_rfl) Tryd.func4
    (ChangeSpec.witness_shaped (enc := enc) (C := Tryd.checked) (os := os) (X := fun w _ => laidMetH Tryd.prog Rows.fnDecimalDigitsModelRow.laid w) false (World.laidAll Tryd.prog os Rows.fnDecimalDigitsModelRow.laid) #[.string ByteArray.empty] 8 (World.laidAll_os _ _ _)
      (World.shaped_of_ZipB (by kernel_rfl) (by kernel_rfl)) (by kernel_rfl) (by kernel_rfl) (by kernel_rfl)
      (by rw [MakeChecks.laidMetH_plain _ _ _ (by kernel_rfl)]; exact laidMet_laidAll _ (by kernel_rfl) (by kernel_rfl))) ?_
  intro W base args ds gs before hval0 hW _ hX hsh
  have hL : laidMet Tryd.prog Rows.fnDecimalDigitsModelRow.laid W := by
    have := hX
    rwa [MakeChecks.laidMetH_plain _ _ _ (by kernel_rfl)] at this
  obtain ⟨ae, _, hve, _, _, _⟩ := laid_sentinel hL.tail.tail.tail.tail gR gRType Tryd.underlying36 row87 Tryd.underlying87 Tryd.underlying89 rfl rfl Tryd.underlying9 cells89 cells9
  have hval : ∀ (j : Nat) t v, Tryd.f4.params[j]? = some t → args[j]? = some v → Value.okWide Tryd.prog W .any base t v := hval0
  have hW' := hW
  obtain ⟨p, q, hA0, hV, rfl, _, _⟩ := hW
  have hA : DataW.TrodAll enc Tryd.prog W 0 (fun _ => true) true Tryd.f4.params.toList args.toList ds p := hA0
  rw [Tryd.params4] at hA hval
  obtain ⟨v0, vs0, d0, ds0, p0, q0, hargs, rfl, rfl, h0, r0⟩ := trodAll_cons hA
  obtain ⟨rfl, rfl, rfl⟩ := trodAll_nil r0
  obtain rfl : args = #[v0] := by cases args; simp_all
  obtain ⟨rfl, rfl⟩ := trodVars_none hV
  obtain ⟨a0, rfl, rfl, rfl, w0⟩ := open_string Tryd.underlying9 (hval 0 9 v0 rfl rfl) h0
  obtain ⟨m, hm⟩ := maxLen_cell hsh
  clear hA0 hval0 hL hX
  refine (law a0 W w0 m hm _ _ (fun W' hb => var_later hve hb)).mono fun e W' ⟨he, bel⟩ => ?_
  subst he
  exact ⟨_, rfl, _, _, _, [], _, [], hW', trodAll_mk1 (shut_bool Tryd.underlying4 _), (trodAll_cons_mk (shut_string Tryd.underlying9 w0) trodAll_mk0), rfl, bel.frame _, fun h => by cases h⟩

theorem holds : Rows.FnDecimalDigitsModelSaid :=
  OpenClaim.holds_of_wide 4 Tryd.f4 rfl rfl rfl rfl rfl rfl rfl ⟨rfl, rfl, rfl, rfl, rfl⟩ rfl rfl rfl rfl rfl (by kernel_rfl) Tryd.func4 (by kernel_rfl)
    (of_decide_eq_true (by kernel_rfl)) (by unfold Func.isWrapper; first | (rw [if_pos (by decide +kernel)]; kernel_rfl) | (rw [if_neg (by decide +kernel)]; exact ⟨rfl, rfl⟩))
    (fun os started H enc _ => lifted os started H enc)
end Go.Proofs.Qxb6606321aDoor.fnDecimalDigitsModelP
namespace Go.Proofs.Qxb6606321aDoor
open Go
theorem fnDecimalDigitsModel_card : Rows.FnDecimalDigitsModelCardSaid :=
  Claim7.holds_tied_plain_at .later [] [.data, .data, .data, .data, .sentinel, .sentinel, .pinned] true (true, "41d0b1562b6b76a92d73b1b57967ad0d65946b6de7e4d6b45ed1d5ad96d223b8") true fnDecimalDigitsModelP.holds (fun _ h => by cases h) (by kernel_rfl) (fun _ h => by cases h) fnDecimalDigitsModel_row_tie rfl ⟨rfl, rfl⟩ (by kernel_rfl) rfl
    (fun f fn hf hfn => by
      obtain rfl : f = 4 := Option.some.inj ((show Tryd.prog.funcNamed Rows.fnDecimalDigitsModelRow.func = some 4 by kernel_rfl).symm.trans hf) |>.symm
      obtain rfl : fn = Tryd.f4 := (Option.some.inj (Tryd.func4.symm.trans hfn)).symm
      exact ⟨by kernel_rfl, fun j t ht => by
        rw [Tryd.params4] at ht
        have hm : t ∈ [9] := by simpa using Array.mem_of_getElem? ht
        have hall : ([9].all fun u => !Tryd.prog.wantsStandIn u) = true := by kernel_rfl
        exact (show Tryd.prog.wantsStandIn t = false by simpa using List.all_eq_true.1 hall t hm)⟩)
    (by kernel_rfl)
#print axioms fnDecimalDigitsModel_card
end Go.Proofs.Qxb6606321aDoor
