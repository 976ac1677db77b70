/-
  THE PLAIN LAYER of seat b6606321aD: what a number literal is, and the two counts. No Go in sight.
-/
import Derived.Lib.ParseIntB
import Derived.Lib.IndexAny
import Derived.Lib.IndexMore
import Derived.Lib.TrimByte
namespace Go.Proofs.Qxb6606321aDoor.Plain

/-- A decimal digit. -/
def dig (c : UInt8) : Bool := decide (48 ≤ c.toNat) && decide (c.toNat ≤ 57)
/-- What digits spell. -/
def val (l : List UInt8) : Nat := l.foldl (fun a c => a * 10 + (c.toNat - 48)) 0
/-- The leading zeros of a row. -/
def lz (l : List UInt8) : Nat := (l.takeWhile (· == 48)).length
/-- Is there a digit that is not 0? -/
def nz (l : List UInt8) : Bool := l.any (· != 48)
/-- The clamp. -/
def big : Nat := 4611686018427387904

/-- The part from e or E on. -/
def IsExp (X : List UInt8) : Prop := ∃ e sg E, X = e :: (sg ++ E) ∧ (e = 101 ∨ e = 69) ∧ (sg = [] ∨ sg = [43] ∨ sg = [45]) ∧ E ≠ [] ∧ E.all dig = true
/-- A number literal in its parts. -/
structure IsLit (t W Pt F X : List UInt8) : Prop where
  eq : t = W ++ (Pt ++ (F ++ X))
  w : W.all dig = true
  p : (Pt = [] ∧ F = []) ∨ Pt = [46]
  f : F.all dig = true
  x : X = [] ∨ IsExp X

/-- The exponent, clamped. -/
def expo : List UInt8 → Int
  | [] => 0
  | _ :: r => match r with
    | [] => 0
    | c :: r' => if c = 45 then -((min (val r') big : Nat) : Int) else if c = 43 then ((min (val r') big : Nat) : Int) else ((min (val (c :: r')) big : Nat) : Int)
/-- The two counts. -/
def before (W F : List UInt8) (x : Int) : Int := if nz (W ++ F) = true then max ((W.length : Int) + x - lz (W ++ F)) 0 else 0
def after (F : List UInt8) (x : Int) : Int := max ((F.length : Int) - x) 0

theorem val_snoc (l : List UInt8) (c : UInt8) : val (l ++ [c]) = val l * 10 + (c.toNat - 48) := by
  unfold val; rw [List.foldl_append]; rfl
theorem lz_snoc_nz {l : List UInt8} (c : UInt8) (h : nz l = true) : lz (l ++ [c]) = lz l := by
  induction l with
  | nil => simp [nz] at h
  | cons a l ih =>
    unfold lz nz at *
    by_cases ha : a = 48
    · subst ha
      simp at h ih ⊢
      obtain ⟨y, hy, hy2⟩ := h; exact ih y hy hy2
    · have : (a == 48) = false := by simp [ha]
      simp [this]
theorem lz_all {l : List UInt8} (h : nz l = false) : lz l = l.length := by
  induction l with
  | nil => rfl
  | cons a l ih =>
    unfold lz nz at *
    simp at h ih ⊢
    rw [h.1]
    simp
    exact ih h.2
theorem nz_append (a b : List UInt8) : nz (a ++ b) = (nz a || nz b) := by unfold nz; simp
theorem lz_append_nz {a : List UInt8} (b : List UInt8) (h : nz a = true) : lz (a ++ b) = lz a := by
  induction a with
  | nil => simp [nz] at h
  | cons x l ih =>
    unfold lz nz at *
    by_cases ha : x = 48
    · subst ha
      simp at h ih ⊢
      obtain ⟨y, hy, hy2⟩ := h; exact ih y hy hy2
    · have : (x == 48) = false := by simp [ha]
      simp [this]
theorem lz_append_zero {a : List UInt8} (b : List UInt8) (h : nz a = false) : lz (a ++ b) = a.length + lz b := by
  induction a with
  | nil => simp
  | cons x l ih =>
    unfold lz nz at *
    simp at h ih ⊢
    rw [h.1]
    simp
    have := ih h.2
    omega
theorem nz_one (c : UInt8) : nz [c] = (c != 48) := by unfold nz; simp
theorem lz_one (c : UInt8) : lz [c] = if c = 48 then 1 else 0 := by
  unfold lz
  by_cases h : c = 48
  · subst h; rfl
  · have : (c == 48) = false := by simp [h]
    simp [this, h]
theorem trim_len (l : List UInt8) : (Lib.trimLeftB l 48).length = l.length - lz l := by
  unfold Lib.trimLeftB lz
  have := congrArg List.length (List.takeWhile_append_dropWhile (p := (· == (48 : UInt8))) (l := l))
  rw [List.length_append] at this
  omega
theorem lz_le (l : List UInt8) : lz l ≤ l.length := by
  unfold lz
  exact (List.takeWhile_sublist _).length_le
theorem nz_iff (l : List UInt8) : nz l = true ↔ lz l < l.length := by
  constructor
  · intro h
    induction l with
    | nil => simp [nz] at h
    | cons x l ih =>
      unfold lz nz at *
      by_cases ha : x = 48
      · subst ha
        simp at h ih ⊢
        obtain ⟨y, hy, hy2⟩ := h; exact ih y hy hy2
      · have : (x == 48) = false := by simp [ha]
        simp [this]
  · intro h
    cases hn : nz l with
    | true => rfl
    | false => rw [lz_all hn] at h; omega

/-- One round of the model's reading of the exponent. -/
def stepS (a : Nat) (c : UInt8) : Nat := if 461168601842738790 < a then big else if big < a * 10 + (c.toNat - 48) then big else a * 10 + (c.toNat - 48)
theorem step_val (l : List UInt8) (c : UInt8) : stepS (min (val l) big) c = min (val (l ++ [c])) big := by
  rw [val_snoc]
  unfold stepS big
  split
  · omega
  · split
    · omega
    · omega
end Go.Proofs.Qxb6606321aDoor.Plain
