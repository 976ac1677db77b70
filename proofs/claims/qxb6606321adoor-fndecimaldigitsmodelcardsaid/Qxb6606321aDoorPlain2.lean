/-
  THE PLAIN LAYER of seat b6606321aD, second part: what the library's functions answer at a number literal.
-/
import Derived.Test.Qxb6606321aDoorPlain
import Derived.Lib.IndexBytes
namespace Go.Proofs.Qxb6606321aDoor.Plain
open Go.Lib

def valF (a : Nat) (l : List UInt8) : Nat := l.foldl (fun a c => a * 10 + (c.toNat - 48)) a
theorem valF_ge (l : List UInt8) : ∀ a, a ≤ valF a l := by
  induction l with
  | nil => intro a; exact Nat.le_refl _
  | cons c l ih =>
    intro a
    have := ih (a * 10 + (c.toNat - 48))
    show a ≤ valF (a * 10 + (c.toNat - 48)) l
    omega
theorem uint_dig (l : List UInt8) : ∀ a, a ≤ 18446744073709551615 → l.all dig = true → parseUintM 18446744073709551615 a l = if valF a l ≤ 18446744073709551615 then .ok (valF a l) else .range := by
  induction l with
  | nil =>
    intro a ha _
    show NumEnd.ok a = if a ≤ _ then .ok a else .range
    rw [if_pos ha]
  | cons c l ih =>
    intro a ha hd
    rw [List.all_cons, Bool.and_eq_true] at hd
    have hc : 48 ≤ c.toNat ∧ c.toNat ≤ 57 := by
      have := hd.1
      unfold dig at this
      simpa using this
    have hge := valF_ge l (a * 10 + (c.toNat - 48))
    have hv : valF a (c :: l) = valF (a * 10 + (c.toNat - 48)) l := rfl
    unfold parseUintM
    rw [if_pos hc, hv]
    split
    · rw [if_neg (by omega)]
    · split
      · rw [if_neg (by omega)]
      · exact ih _ (by omega) hd.2

/-- The clamp of an exponent, up or down. -/
def clamp (y : Int) : Int := min (max y (-4611686018427387904)) 4611686018427387904

theorem expo_bounds (X : List UInt8) : -4611686018427387904 ≤ expo X ∧ expo X ≤ 4611686018427387904 := by
  unfold expo big
  split
  · omega
  · split
    · omega
    · split
      · omega
      · split <;> omega

theorem uint_ne {E : List UInt8} (h : E ≠ []) (hd : E.all dig = true) : parseUintB 64 E = if val E ≤ 18446744073709551615 then .ok (val E) else .range := by
  unfold parseUintB
  rw [if_neg h]
  exact uint_dig E 0 (by omega) hd

theorem head_dig {c : UInt8} {E : List UInt8} (hd : (c :: E).all dig = true) : 48 ≤ c.toNat ∧ c.toNat ≤ 57 := by
  rw [List.all_cons, Bool.and_eq_true] at hd
  have := hd.1
  unfold dig at this
  simpa using this

theorem expo_cons (e c : UInt8) (r : List UInt8) : expo (e :: c :: r) = if c = 45 then -((min (val r) big : Nat) : Int) else if c = 43 then ((min (val r) big : Nat) : Int) else ((min (val (c :: r)) big : Nat) : Int) := rfl
/-- ParseInt behind its reading of the digits. -/
def signed (neg : Prop) [Decidable neg] : NumEnd Nat → NumEnd Int
  | .ok u => if ¬ neg ∧ 9223372036854775808 ≤ u then .range else if neg ∧ 9223372036854775808 < u then .range else .ok (if neg then -(u : Int) else u)
  | .range => .range
  | _ => parseIntB 64 []
theorem parse_cons (c : UInt8) (r : List UInt8) : parseIntB 64 (c :: r) = signed (c.toNat = 45) (parseUintB 64 (if c.toNat = 43 ∨ c.toNat = 45 then r else c :: r)) := by
  unfold parseIntB
  simp only
  cases parseUintB 64 (if c.toNat = 43 ∨ c.toNat = 45 then r else c :: r) <;> rfl

/-- What ParseInt says of the exponent's text, and what the clamp makes of it. -/
def Parsed (l : List UInt8) (x : Int) : Prop := ∃ y : Int, (parseIntB 64 l = .ok y ∨ (parseIntB 64 l = .range ∧ intSat 64 l = y)) ∧ clamp y = x ∧ -9223372036854775808 ≤ y ∧ y ≤ 9223372036854775807
theorem parsed_plain {e : UInt8} {E : List UInt8} (h : E ≠ []) (hd : E.all dig = true) : Parsed E (expo (e :: E)) := by
  cases E with
  | nil => exact absurd rfl h
  | cons c r =>
    have hc := head_dig hd
    have h43 : c ≠ 43 := fun e => by subst e; exact absurd hc.1 (by decide)
    have h45 : c ≠ 45 := fun e => by subst e; exact absurd hc.1 (by decide)
    have hx : expo (e :: c :: r) = ((min (val (c :: r)) big : Nat) : Int) := by rw [expo_cons, if_neg h45, if_neg h43]
    have hp : parseIntB 64 (c :: r) = if val (c :: r) < 9223372036854775808 then .ok ((val (c :: r) : Nat) : Int) else .range := by
      rw [parse_cons, if_neg (show ¬ (c.toNat = 43 ∨ c.toNat = 45) by omega), uint_ne h hd]
      unfold signed
      by_cases hu : val (c :: r) ≤ 18446744073709551615
      · rw [if_pos hu]
        simp only
        by_cases hv : val (c :: r) < 9223372036854775808
        · rw [if_pos hv, if_neg (by omega), if_neg (by omega), if_neg (by omega)]
        · rw [if_neg hv, if_pos (by omega)]
      · rw [if_neg hu, if_neg (show ¬ val (c :: r) < 9223372036854775808 by omega)]
    have hs : intSat 64 (c :: r) = 9223372036854775807 := by
      unfold intSat
      rw [if_neg (by simp; omega)]
      rfl
    rw [hx]
    by_cases hv : val (c :: r) < 9223372036854775808
    · rw [if_pos hv] at hp
      exact ⟨_, .inl hp, by unfold clamp big; omega, by omega, by omega⟩
    · rw [if_neg hv] at hp
      exact ⟨_, .inr ⟨hp, hs⟩, by unfold clamp big; omega, by omega, by omega⟩
theorem parsed_plus {e : UInt8} {E : List UInt8} (h : E ≠ []) (hd : E.all dig = true) : Parsed (43 :: E) (expo (e :: 43 :: E)) := by
  have hx : expo (e :: 43 :: E) = ((min (val E) big : Nat) : Int) := by rw [expo_cons, if_neg (by decide), if_pos rfl]
  have hp : parseIntB 64 (43 :: E) = if val E < 9223372036854775808 then .ok ((val E : Nat) : Int) else .range := by
    rw [parse_cons, if_pos (show (43 : UInt8).toNat = 43 ∨ (43 : UInt8).toNat = 45 by decide), uint_ne h hd]
    unfold signed
    have h0 : ¬ ((43 : UInt8).toNat = 45) := by decide
    by_cases hu : val E ≤ 18446744073709551615
    · rw [if_pos hu]
      simp only
      by_cases hv : val E < 9223372036854775808
      · rw [if_pos hv, if_neg (by omega), if_neg (by omega), if_neg h0]
      · rw [if_neg hv, if_pos ⟨h0, by omega⟩]
    · rw [if_neg hu, if_neg (by omega)]
  have hs : intSat 64 (43 :: E) = 9223372036854775807 := by
    unfold intSat
    rw [if_neg (by simp)]
    rfl
  rw [hx]
  by_cases hv : val E < 9223372036854775808
  · rw [if_pos hv] at hp
    exact ⟨_, .inl hp, by unfold clamp big; omega, by omega, by omega⟩
  · rw [if_neg hv] at hp
    exact ⟨_, .inr ⟨hp, hs⟩, by unfold clamp big; omega, by omega, by omega⟩
theorem parsed_minus {e : UInt8} {E : List UInt8} (h : E ≠ []) (hd : E.all dig = true) : Parsed (45 :: E) (expo (e :: 45 :: E)) := by
  have hx : expo (e :: 45 :: E) = -((min (val E) big : Nat) : Int) := by rw [expo_cons, if_pos rfl]
  have hp : parseIntB 64 (45 :: E) = if val E ≤ 9223372036854775808 then .ok (-((val E : Nat) : Int)) else .range := by
    rw [parse_cons, if_pos (show (45 : UInt8).toNat = 43 ∨ (45 : UInt8).toNat = 45 by decide), uint_ne h hd]
    unfold signed
    have h0 : ((45 : UInt8).toNat = 45) := by decide
    by_cases hu : val E ≤ 18446744073709551615
    · rw [if_pos hu]
      simp only
      by_cases hv : val E ≤ 9223372036854775808
      · rw [if_pos hv, if_neg (by omega), if_neg (by omega), if_pos h0]
      · rw [if_neg hv, if_neg (by omega), if_pos ⟨h0, by omega⟩]
    · rw [if_neg hu, if_neg (by omega)]
  have hs : intSat 64 (45 :: E) = -9223372036854775808 := by
    unfold intSat
    rw [if_pos (by simp)]
    rfl
  rw [hx]
  by_cases hv : val E ≤ 9223372036854775808
  · rw [if_pos hv] at hp
    exact ⟨_, .inl hp, by unfold clamp big; omega, by omega, by omega⟩
  · rw [if_neg hv] at hp
    exact ⟨_, .inr ⟨hp, hs⟩, by unfold clamp big; omega, by omega, by omega⟩

theorem parsed_exp {X : List UInt8} (h : IsExp X) : ∃ e r, X = e :: r ∧ (e = 101 ∨ e = 69) ∧ Parsed r (expo X) := by
  obtain ⟨e, sg, E, rfl, he, hsg, hne, hd⟩ := h
  rcases hsg with rfl | rfl | rfl
  · exact ⟨e, E, rfl, he, parsed_plain hne hd⟩
  · exact ⟨e, 43 :: E, rfl, he, parsed_plus hne hd⟩
  · exact ⟨e, 45 :: E, rfl, he, parsed_minus hne hd⟩

theorem index_at {A B : List UInt8} {c : UInt8} (h : c ∉ A) : indexByte (A ++ c :: B) c = A.length := by
  induction A with
  | nil => simp [indexByte]
  | cons a A ih =>
    have h1 : a ≠ c := fun e => h (by rw [e]; exact List.mem_cons_self)
    have h2 : c ∉ A := fun e => h (List.mem_cons_of_mem _ e)
    have := ih h2
    simp [indexByte, h1, this]
theorem index_no {A : List UInt8} {c : UInt8} (h : c ∉ A) : indexByte A c = -1 := by
  induction A with
  | nil => rfl
  | cons a A ih =>
    have h1 : a ≠ c := fun e => h (by rw [e]; exact List.mem_cons_self)
    have h2 : c ∉ A := fun e => h (List.mem_cons_of_mem _ e)
    have := ih h2
    simp [indexByte, h1, this]
theorem any_at {A B : List UInt8} {e : UInt8} (h : ∀ c ∈ A, c ≠ 101 ∧ c ≠ 69) (he : e = 101 ∨ e = 69) : indexAny (A ++ e :: B) [101, 69] = A.length := by
  refine indexAny_hit (x := e) (fun j b hj hb => ?_) (by simp) (by rcases he with rfl | rfl <;> decide)
  rw [List.getElem?_append_left hj] at hb
  have := h b (List.mem_of_getElem? hb)
  simp [this.1, this.2]
theorem any_no {A : List UInt8} (h : ∀ c ∈ A, c ≠ 101 ∧ c ≠ 69) : indexAny A [101, 69] = -1 := by
  refine indexAny_none (fun j b hj hb => ?_)
  have := h b (List.mem_of_getElem? hb)
  simp [this.1, this.2]
theorem dig_ne {l : List UInt8} (h : l.all dig = true) (c : UInt8) (hc : c ∈ l) : 48 ≤ c.toNat ∧ c.toNat ≤ 57 := by
  have := List.all_eq_true.1 h c hc
  unfold dig at this
  simpa using this
theorem dot_no {l : List UInt8} (h : l.all dig = true) : (46 : UInt8) ∉ l := fun hc => absurd (dig_ne h 46 hc).1 (by decide)

theorem IsLit.mant {t W Pt F X : List UInt8} (h : IsLit t W Pt F X) : ∀ c ∈ W ++ (Pt ++ F), c ≠ 101 ∧ c ≠ 69 := by
  intro c hc
  rw [List.mem_append, List.mem_append] at hc
  have hd : ∀ l : List UInt8, l.all dig = true → c ∈ l → c ≠ 101 ∧ c ≠ 69 := fun l hl hm => by
    have := dig_ne hl c hm
    constructor
    · intro e; subst e; exact absurd this.2 (by decide)
    · intro e; subst e; exact absurd this.2 (by decide)
  rcases hc with hc | hc | hc
  · exact hd W h.w hc
  · rcases h.p with ⟨rfl, _⟩ | rfl
    · cases hc
    · rw [List.mem_singleton] at hc; subst hc; decide
  · exact hd F h.f hc
theorem IsLit.ascii {t W Pt F X : List UInt8} (h : IsLit t W Pt F X) : ∀ c ∈ t, c.toNat < 128 := by
  intro c hc
  rw [h.eq, List.mem_append, List.mem_append, List.mem_append] at hc
  rcases hc with hc | hc | hc | hc
  · have := dig_ne h.w c hc; omega
  · rcases h.p with ⟨rfl, _⟩ | rfl
    · cases hc
    · rw [List.mem_singleton] at hc; subst hc; decide
  · have := dig_ne h.f c hc; omega
  · rcases h.x with rfl | ⟨e, sg, E, rfl, he, hsg, _, hE⟩
    · cases hc
    · rw [List.mem_cons, List.mem_append] at hc
      rcases hc with rfl | hc | hc
      · rcases he with rfl | rfl <;> decide
      · rcases hsg with rfl | rfl | rfl
        · cases hc
        · rw [List.mem_singleton] at hc; subst hc; decide
        · rw [List.mem_singleton] at hc; subst hc; decide
      · have := dig_ne hE c hc; omega
theorem IsLit.cut {t W Pt F X : List UInt8} (h : IsLit t W Pt F X) : (Lib.cut (W ++ (Pt ++ F)) [46]).1 = W ∧ (Lib.cut (W ++ (Pt ++ F)) [46]).2.1 = F := by
  have hn := dot_no h.w
  unfold Lib.cut
  rcases h.p with ⟨rfl, rfl⟩ | rfl
  · have : Lib.index (W ++ ([] ++ [])) [46] = -1 := by rw [index_one]; simpa using index_no hn
    rw [this]
    simp
  · have : Lib.index (W ++ ([46] ++ F)) [46] = W.length := by rw [index_one]; exact index_at hn
    rw [this]
    simp
theorem before_w {W F : List UInt8} {x : Int} (h : (trimLeftB W 48).length ≠ 0) : before W F x = max (((trimLeftB W 48).length : Int) + x) 0 := by
  have h1 := trim_len W
  have h2 := lz_le W
  have h3 : nz W = true := (nz_iff W).2 (by omega)
  unfold before
  rw [if_pos (by rw [nz_append, h3]; rfl), lz_append_nz _ h3]
  congr 1
  omega
theorem before_f {W F : List UInt8} {x : Int} (h : (trimLeftB W 48).length = 0) : before W F x = if (trimLeftB F 48).length = 0 then 0 else max (((trimLeftB F 48).length : Int) - F.length + x) 0 := by
  have h1 := trim_len W
  have h2 := lz_le W
  have h1' := trim_len F
  have h2' := lz_le F
  have h3 : nz W = false := by
    cases hn : nz W with
    | false => rfl
    | true => have := (nz_iff W).1 hn; omega
  unfold before
  rw [nz_append, h3, lz_append_zero _ h3]
  by_cases hf : (trimLeftB F 48).length = 0
  · have h4 : nz F = false := by
      cases hn : nz F with
      | false => rfl
      | true => have := (nz_iff F).1 hn; omega
    rw [if_pos hf, h4]
    rfl
  · have h4 : nz F = true := (nz_iff F).2 (by omega)
    rw [if_neg hf, h4, if_pos (show (false || true) = true from rfl)]
    congr 1
    omega
end Go.Proofs.Qxb6606321aDoor.Plain
