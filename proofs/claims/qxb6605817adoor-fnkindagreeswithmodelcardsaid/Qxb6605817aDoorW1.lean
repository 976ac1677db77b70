/-
  THE WALKS of seat b6605817aD, first part: the small makers of nodes and repositories.
-/
import Derived.Test.Qxb6605817aDoorRows
import Derived.WalkKit
import Derived.WalkSpells
import Derived.WalkLawsBesides
namespace Go.Proofs.Qxb6605817aDoor
open Go.RowKit

theorem hideIt {p : Prop} (h : p) : Hid p := h
theorem ret_bool {a b : Bool} (h : a = b) : Ending.returned (.bool a) = .returned (.bool b) := by rw [h]

/-- A directory's struct as it lies: its revision, its map. -/
def dirCells (r : Int) (m : Nat) : Array Value := #[.int .i64 r, .bool true, .map (some m), .map none, .pointer none]
def fileCells (r : Int) (t : Nat) : Array Value := #[.int .i64 r, .bool false, .map none, .map none, .pointer (some ⟨t, 0, none⟩)]

set_option maxHeartbeats 400000 in
theorem newDir_any (r : Int) (w : World) :
    Calls Tryd.prog 9 #[.int .i64 r] w fun e w' => e = .returned (.pointer (some ⟨w.heap.size + 1, 0, none⟩)) ∧ w' = (w.alloc (.map #[] 0)).alloc (.cells (dirCells r w.heap.size) 54) := by
  have hmm := @run_makeMap Tryd.prog
  go_enter Tryd.func9, Tryd.ntmps9
  go_wp2
  go_ret
  exact ⟨rfl, rfl⟩

set_option maxHeartbeats 400000 in
theorem newRepo_any (g n c : Nat) (b : Bool) (w : World) :
    Calls Tryd.prog 26 #[.slice (some ⟨g, 0, none⟩) n c, .bool b] w fun e w' => e = .returned (.pointer (some ⟨w.heap.size + 1, 0, none⟩)) ∧ w' = (w.alloc (.map #[] 0)).alloc (.cells #[.slice (some ⟨g, 0, none⟩) n c, .bool b, .map (some w.heap.size)] 57) := by
  have hmm := @run_makeMap Tryd.prog
  go_enter Tryd.func26, Tryd.ntmps26
  go_wp2
  go_ret
  exact ⟨rfl, rfl⟩

set_option maxHeartbeats 400000 in
theorem newFile_any (r : Int) (w : World) :
    Calls Tryd.prog 30 #[.int .i64 r] w fun e w' => e = .returned (.pointer (some ⟨w.heap.size + 1, 0, none⟩)) ∧ ∃ o, w' = (w.alloc o).alloc (.cells (fileCells r w.heap.size) 54) := by
  go_enter Tryd.func30, Tryd.ntmps30
  go_wp2
  go_ret
  exact ⟨rfl, _, rfl⟩

set_option maxHeartbeats 400000 in
theorem youngest_any (b g n c : Nat) (w : World) (hn : n ≤ 1048576) (h : w.cell? ⟨b, 0, none⟩ = some (.slice (some ⟨g, 0, none⟩) n c)) :
    Calls Tryd.prog 10 #[.pointer (some ⟨b, 0, none⟩)] w fun e w' => e = .returned (.int .i64 ((n : Int) - 1)) ∧ w' = w := by
  go_enter Tryd.func10, Tryd.ntmps10
  go_wp2
  go_ret
  exact ⟨rfl, rfl⟩

set_option maxHeartbeats 400000 in
theorem new_any (w : World) :
    Calls Tryd.prog 12 #[] w fun e w' => ∃ b, e = .returned (.pointer (some ⟨b, 0, none⟩)) ∧ Below w.heap.size w w' ∧ ∃ g c, w'.cell? ⟨b, 0, none⟩ = some (.slice (some ⟨g, 0, none⟩) 1 c) := by
  have hmm := @run_makeMap Tryd.prog
  go_enter Tryd.func12, Tryd.ntmps12
  go_wp2
  go_ret
  refine ⟨_, rfl, ?_, _, _, (World.cell?_alloc_at _ _ _ _ (by simp)).trans rfl⟩
  exact (((((Below.refl _ _).alloc (Nat.le_refl _) _).alloc (by simp) _).alloc (by simp; omega) _).alloc (by simp; omega) _).alloc (by simp; omega) _

def dirS : ByteArray := ⟨#[100, 105, 114]⟩
def fileS : ByteArray := ⟨#[102, 105, 108, 101]⟩
def word (d : Bool) : ByteArray := if d then dirS else fileS
set_option maxHeartbeats 400000 in
theorem kind_any (x : Nat) (d : Bool) (w : World) (h : w.cell? ⟨x, 1, none⟩ = some (.bool d)) :
    Calls Tryd.prog 28 #[.pointer (some ⟨x, 0, none⟩)] w fun e w' => e = .returned (.string (word d)) ∧ w' = w := by
  cases d
  all_goals
    go_enter Tryd.func28, Tryd.ntmps28
    go_wp2
    go_ret
    exact ⟨rfl, rfl⟩

/-- A pointer to a block's first cell. -/
def ptr (x : Nat) : Value := .pointer (some ⟨x, 0, none⟩)
/-- Block x holds a directory's struct whose map holds nothing; both lie beyond block B. -/
def EmptyDir (B : Nat) (w : World) (x : Nat) : Prop := B < x ∧ ∃ r m, B < m ∧ w.heap[x]? = some (.cells (dirCells r m) 54) ∧ w.heap[m]? = some (.map #[] 0)

theorem lt_of_heap {w : World} {b : Nat} {o : Obj} (h : w.heap[b]? = some o) : b < w.heap.size := (Array.getElem?_eq_some_iff.1 h).1
theorem EmptyDir.kept {B : Nat} {w w' : World} {x : Nat} (h : EmptyDir B w x) (hh : ∀ b, b < w.heap.size → b ≠ B → w'.heap[b]? = w.heap[b]?) : EmptyDir B w' x := by
  obtain ⟨h0, r, m, h1, h2, h3⟩ := h
  exact ⟨h0, r, m, h1, (hh x (lt_of_heap h2) (by omega)).trans h2, (hh m (lt_of_heap h3) (by omega)).trans h3⟩
theorem heap_new (w : World) (o : Obj) : (w.alloc o).heap[w.heap.size]? = some o := heap_alloc_new w o
theorem EmptyDir.made (w : World) (B : Nat) (r : Int) (hB : B < w.heap.size) : EmptyDir B ((w.alloc (.map #[] 0)).alloc (.cells (dirCells r w.heap.size) 54)) (w.heap.size + 1) := by
  refine ⟨by omega, r, w.heap.size, hB, ?_, ?_⟩
  · have := heap_new (w.alloc (.map #[] 0)) (.cells (dirCells r w.heap.size) 54)
    simpa using this
  · rw [Below.heap_alloc _ _ _ (by simp), heap_new]
end Go.Proofs.Qxb6605817aDoor
