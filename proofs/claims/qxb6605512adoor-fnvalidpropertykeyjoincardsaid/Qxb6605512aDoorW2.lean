/-
  THE WALKS of seat b6605512aD, second part: ValidPropertyKey, over strings.Split by its contract (a hypothesis here).
-/
import Derived.Test.Qxb6605512aDoorW1
namespace Go.Proofs.Qxb6605512aDoor
open Go.RowKit Go.Lib

def parts (s : ByteArray) : List ByteArray := Lib.splitB ⟨#[46]⟩ 0 (Lib.countB s ⟨#[46]⟩) s
theorem parts_length (s : ByteArray) : (parts s).length = Lib.countB s ⟨#[46]⟩ + 1 := Lib.splitB_all ⟨#[46]⟩ (by decide) 0 _ s rfl
def splitBlock (s : ByteArray) : Obj := .cells ((parts s).map Value.string).toArray 9

def SplitSaid (s : ByteArray) (w : World) : Prop :=
  Calls Tryd.prog 9 #[.string s, .string ⟨#[46]⟩] w fun e w' =>
    e = .returned (.slice (some ⟨w.heap.size, 0, none⟩) (parts s).length (parts s).length) ∧ w' = w.alloc (splitBlock s)

theorem cell_split (s : ByteArray) (w : World) (n : Nat) (h : n < (parts s).length) : (w.alloc (splitBlock s)).cell? ⟨w.heap.size, n, none⟩ = some (.string (parts s)[n]) := by
  unfold splitBlock
  rw [World.cell?_alloc_new]
  simp [h]

theorem restOk_step (ps : List ByteArray) (n : Nat) (h : n < ps.length) : Plain.restOk ps n = (Plain.partOk ps[n].data.toList && Plain.restOk ps (n + 1)) := by
  unfold Plain.restOk
  rw [List.drop_eq_getElem_cons h, List.all_cons]
theorem restOk_end (ps : List ByteArray) (n : Nat) (h : ps.length ≤ n) : Plain.restOk ps n = true := by
  unfold Plain.restOk
  rw [List.drop_of_length_le h]; rfl
theorem all_step (p : ByteArray) (k : Nat) (h : k < p.size) : (p.data.toList.drop k).all Plain.kb = (Plain.kb p[k] && (p.data.toList.drop (k + 1)).all Plain.kb) := by
  rw [drop_cons p k h, List.all_cons]
theorem toList_is (p : ByteArray) : p.toList = p.data.toList := Lib.toList_data p
theorem all_done (p : ByteArray) (k : Nat) (h : p.size ≤ k) (x : Bool) : ((p.data.toList.drop k).all Plain.kb && x) = x := by
  rw [List.drop_of_length_le (by simpa using h)]; rfl
theorem part_full (p : ByteArray) (h : p.toList.isEmpty = false) : Plain.partOk p.data.toList = (p.data.toList.drop 0).all Plain.kb := by
  rw [toList_is] at h; unfold Plain.partOk; rw [h]; rfl
theorem part_empty (p : ByteArray) (h : p.toList.isEmpty = true) : Plain.partOk p.data.toList = false := by
  rw [toList_is] at h; unfold Plain.partOk; rw [h]; rfl

set_option maxHeartbeats 1000000 in
theorem validKey_of (s : ByteArray) (w : World) (hlen : (parts s).length ≤ 1099511627776) (hsz : ∀ p ∈ parts s, p.size ≤ maxLen) (hsp : SplitSaid s w) :
    Calls Tryd.prog 6 #[.string s] w fun e w' => e = .returned (.bool (Plain.scan true s.data.toList)) ∧ w' = w.alloc (splitBlock s) := by
  unfold SplitSaid at hsp
  have HV : Hid (Plain.restOk (parts s) 0 = Plain.scan true s.data.toList) := Plain.restOk_all s
  have HC : Hid (∀ n (h : n < (parts s).length), (w.alloc (splitBlock s)).cell? ⟨w.heap.size, n, none⟩ = some (.string (parts s)[n])) := cell_split s w
  have HZ : Hid (∀ p ∈ parts s, p.size ≤ maxLen) := hsz
  clear hsz
  generalize parts s = ps at *
  generalize Plain.scan true s.data.toList = want at *
  generalize w.alloc (splitBlock s) = w1 at *
  have HS := hideIt hsp
  clear hsp
  go_enter Tryd.func6, Tryd.ntmps6
  go_wp2_with (go_at_call 9; refine HS.out.mono ?_; rintro e w' ⟨rfl, rfl⟩)
  go_loop [10] (fun ix => ∃ n : Nat, n ≤ ps.length ∧ ix = .int .i64 n ∧ Hid (Plain.restOk ps n = want)) (fun ix => ps.length - (intOf ix).toNat)
  case atStart => exact ⟨0, Nat.zero_le _, rfl, HV⟩
  case round =>
    obtain ⟨n, hn, rfl, hv⟩ := hrel
    by_cases hlt : n < ps.length
    · have hc := HC.out n hlt
      have hst := hideIt (restOk_step ps n hlt)
      have hpz := HZ.out ps[n] (List.getElem_mem hlt)
      generalize ps[n] = p at *
      unfold maxLen at hpz
      cases he : p.toList.isEmpty with
      | true =>
        have H : Hid (want = false) := by rw [← hv.out, hst.out, part_empty p he]; rfl
        clear hv hst
        go_wp2
        go_ret
        exact ⟨ret_bool H.out.symm, rfl⟩
      | false =>
        have hst2 : Hid (want = ((p.data.toList.drop 0).all Plain.kb && Plain.restOk ps (n + 1))) := by rw [← hv.out, hst.out, part_full p he]; rfl
        clear hv hst
        go_wp2
        go_loop [5] (fun i => ∃ k : Nat, k ≤ p.size ∧ i = .int .i64 k ∧ Hid (want = ((p.data.toList.drop k).all Plain.kb && Plain.restOk ps (n + 1)))) (fun i => p.size - (intOf i).toNat)
        case atStart => exact ⟨0, Nat.zero_le _, rfl, hst2⟩
        case round =>
          obtain ⟨k, hk, rfl, hv⟩ := hrel
          by_cases hlt2 : k < p.size
          · have HA := hideIt (hv.out.trans (by rw [all_step p k hlt2]))
            have HK := kb_eq p[k]
            clear hv
            cases hb : Plain.kb p[k] with
            | true =>
              have hcs : (97 ≤ (p[k].toNat : Int) ∧ (p[k].toNat : Int) ≤ 122) ∨ (48 ≤ (p[k].toNat : Int) ∧ (p[k].toNat : Int) ≤ 57) ∨ (p[k].toNat : Int) = 95 := by
                rw [hb] at HK; have := HK.symm; simp at this; omega
              have H : Hid (want = ((p.data.toList.drop (k + 1)).all Plain.kb && Plain.restOk ps (n + 1))) := by rw [HA.out, hb]; rfl
              clear HA HK hb
              rcases hcs with ⟨h1, h2⟩ | ⟨h1, h2⟩ | h1
              · go_wp2
                go_round
                case rel => exact ⟨k + 1, by omega, by go_num, H⟩
                case measure => simp [intOf]; omega
              · go_wp2
                go_round
                case rel => exact ⟨k + 1, by omega, by go_num, H⟩
                case measure => simp [intOf]; omega
              · have h3 : ((p[k].toNat : Int) != 95) = false := by simp [h1]
                have h4 : ¬ (97 ≤ (p[k].toNat : Int)) := by omega
                have h5 : ¬ ((p[k].toNat : Int) ≤ 57) := by omega
                have h6 : ¬ ((p[k].toNat : Int) < 48) := by omega
                clear h1
                go_wp2
                go_round
                case rel => exact ⟨k + 1, by omega, by go_num, H⟩
                case measure => simp [intOf]; omega
            | false =>
              have hcs : (p[k].toNat : Int) < 48 ∨ (57 < (p[k].toNat : Int) ∧ (p[k].toNat : Int) < 97 ∧ (p[k].toNat : Int) ≠ 95) ∨ 122 < (p[k].toNat : Int) := by
                rw [hb] at HK; have := HK.symm; simp at this; omega
              have H : Hid (want = false) := by rw [HA.out, hb]; rfl
              have h3 : ((p[k].toNat : Int) != 95) = true := by rw [bne_iff_ne]; omega
              clear HA HK hb
              rcases hcs with h1 | ⟨h1, h2, _⟩ | h1
              · go_wp2
                go_ret
                exact ⟨ret_bool H.out.symm, rfl⟩
              · go_wp2
                go_ret
                exact ⟨ret_bool H.out.symm, rfl⟩
              · go_wp2
                go_ret
                exact ⟨ret_bool H.out.symm, rfl⟩
          · have H : Hid (Plain.restOk ps (n + 1) = want) := by rw [hv.out, all_done p k (by omega)]; rfl
            clear hv
            go_wp2
            go_round
            case rel => exact ⟨n + 1, by omega, by go_num, H⟩
            case measure => simp [intOf]; omega
    · go_wp2
      go_ret
      exact ⟨ret_bool (by rw [← hv.out, restOk_end ps n (by omega)]), rfl⟩
end Go.Proofs.Qxb6605512aDoor
