/-
  THE PLAIN LAW of seat b6605817aD (no Go in sight): a tree told by entries; the walk from the root by names; paths written out, taken apart, and spelt from their end.
-/
import Derived.Test.Qxb6605817aDoorShape
import Derived.Test.Qxb6605817aDoorFind
import Derived.Lib.SplitLaws
namespace Go.Proofs.Qxb6605817aDoor

/-! ### What the shape says -/
theorem upd_ne {f : Nat → Bool} {k j : Nat} {v : Bool} (h : j ≠ k) : upd f k v j = f j := if_neg h
theorem shapeTo_big (es : List Ent) : ∀ i k, i < k → (shapeTo es i).1 k = false ∧ (shapeTo es i).2 k = false
  | 0, k, h => by
    have : (k == 0) = false := by simp; omega
    exact ⟨this, this⟩
  | i + 1, k, h => by
    have ih := shapeTo_big es i k (by omega)
    cases ho : okAt es (shapeTo es i).1 (shapeTo es i).2 i with
    | false => rw [shapeTo_no ho]; exact ih
    | true =>
      rw [shapeTo_yes ho]
      exact ⟨(upd_ne (by omega)).trans ih.1, (upd_ne (by omega)).trans ih.2⟩
theorem shapeTo_step (es : List Ent) (i k : Nat) (h : k ≤ i) : (shapeTo es (i + 1)).1 k = (shapeTo es i).1 k ∧ (shapeTo es (i + 1)).2 k = (shapeTo es i).2 k := by
  cases ho : okAt es (shapeTo es i).1 (shapeTo es i).2 i with
  | false => rw [shapeTo_no ho]; exact ⟨rfl, rfl⟩
  | true =>
    rw [shapeTo_yes ho]
    exact ⟨upd_ne (by omega), upd_ne (by omega)⟩
theorem shapeTo_stable (es : List Ent) (i k : Nat) (h : k ≤ i) : ∀ d, (shapeTo es (i + d)).1 k = (shapeTo es i).1 k ∧ (shapeTo es (i + d)).2 k = (shapeTo es i).2 k
  | 0 => ⟨rfl, rfl⟩
  | d + 1 => by
    have h1 := shapeTo_step es (i + d) k (by omega)
    have h2 := shapeTo_stable es i k h d
    exact ⟨h1.1.trans h2.1, h1.2.trans h2.2⟩

theorem dupTo_false {es : List Ent} {I : Nat → Bool} {par : Int} {name : List UInt8} : ∀ {j : Nat}, dupTo es I par name j = false → ∀ j', j' < j → I (j' + 1) = true → (ent es j').par = par → (ent es j').name.data.toList ≠ name
  | 0, _, j', h, _, _ => by omega
  | j + 1, hd, j', h, hI, hp => by
    rw [dupTo, Bool.or_eq_false_iff] at hd
    by_cases e : j' = j
    · subst e
      intro hn
      have := hd.2
      rw [hI, hp, hn] at this
      simp at this
    · exact dupTo_false hd.1 j' (by omega) hI hp
theorem dupTo_congr {es : List Ent} {I I' : Nat → Bool} {par : Int} {name : List UInt8} : ∀ {j : Nat}, (∀ k, k ≤ j → I k = I' k) → dupTo es I par name j = dupTo es I' par name j
  | 0, _ => rfl
  | j + 1, h => by rw [dupTo, dupTo, dupTo_congr (fun k hk => h k (by omega)), h (j + 1) (Nat.le_refl _)]

/-- A tree told by entries. -/
structure Good (es : List Ent) (I D : Nat → Bool) : Prop where
  root : I 0 = true
  rootD : D 0 = true
  up : ∀ i, i < es.length → I (i + 1) = true → ∃ q : Nat, (ent es i).par = (q : Int) ∧ q ≤ i ∧ I q = true ∧ D q = true
  nm : ∀ i, i < es.length → I (i + 1) = true → validName (ent es i).name.data.toList = true
  uniq : ∀ i j, i < es.length → j < i → I (i + 1) = true → I (j + 1) = true → (ent es j).par = (ent es i).par → (ent es j).name.data.toList ≠ (ent es i).name.data.toList

theorem good_shape (es : List Ent) : Good es (shapeTo es es.length).1 (shapeTo es es.length).2 := by
  have st : ∀ k i, k ≤ i → i ≤ es.length → (shapeTo es es.length).1 k = (shapeTo es i).1 k ∧ (shapeTo es es.length).2 k = (shapeTo es i).2 k := fun k i hk hi => by
    have := shapeTo_stable es i k hk (es.length - i)
    rwa [show i + (es.length - i) = es.length by omega] at this
  have key : ∀ i, i < es.length → (shapeTo es es.length).1 (i + 1) = true → okAt es (shapeTo es i).1 (shapeTo es i).2 i = true := fun i hi hI => by
    rw [(st (i + 1) (i + 1) (Nat.le_refl _) hi).1] at hI
    cases ho : okAt es (shapeTo es i).1 (shapeTo es i).2 i with
    | true => rfl
    | false => rw [shapeTo_no ho, (shapeTo_big es i (i + 1) (Nat.lt_succ_self _)).1] at hI; cases hI
  have open_ : ∀ i, i < es.length → (shapeTo es es.length).1 (i + 1) = true → ∃ q : Nat, (ent es i).par = (q : Int) ∧ q ≤ i ∧ (shapeTo es i).1 q = true ∧ (shapeTo es i).2 q = true ∧ validName (ent es i).name.data.toList = true ∧ dupTo es (shapeTo es i).1 (ent es i).par (ent es i).name.data.toList i = false := fun i hi hI => by
    have h := key i hi hI
    unfold okAt at h
    simp only [Bool.and_eq_true, decide_eq_true_eq, Bool.not_eq_true'] at h
    obtain ⟨h1, h2, h3, h4, h5, h6⟩ := h
    obtain ⟨q, hq⟩ := Int.eq_ofNat_of_zero_le h1
    rw [hq, Int.toNat_natCast] at h3 h4
    exact ⟨q, hq, by omega, h3, h4, h5, h6⟩
  refine ⟨?_, ?_, fun i hi hI => ?_, fun i hi hI => ?_, fun i j hi hj hI hJ hp => ?_⟩
  · rw [(st 0 0 (Nat.le_refl _) (Nat.zero_le _)).1]; rfl
  · rw [(st 0 0 (Nat.le_refl _) (Nat.zero_le _)).2]; rfl
  · obtain ⟨q, h1, h2, h3, h4, _⟩ := open_ i hi hI
    exact ⟨q, h1, h2, by rw [(st q i h2 (by omega)).1]; exact h3, by rw [(st q i h2 (by omega)).2]; exact h4⟩
  · obtain ⟨q, _, _, _, _, h5, _⟩ := open_ i hi hI
    exact h5
  · obtain ⟨q, _, _, _, _, _, h6⟩ := open_ i hi hI
    exact dupTo_false h6 j hj (by rw [← (st (j + 1) i (by omega) (by omega)).1]; exact hJ) hp

/-! ### The walk by names, and the chain of names of a node -/
/-- The kid of node k among the first i entries, as a node's number. -/
def kidIdx (es : List Ent) (I : Nat → Bool) (k : Nat) : Nat → List UInt8 → Option Nat
  | 0, _ => none
  | i + 1, s => if I (i + 1) = true ∧ (ent es i).par = (k : Int) ∧ s = (ent es i).name.data.toList then some (i + 1) else kidIdx es I k i s
/-- One step: a directory's kid. -/
def stepIdx (es : List Ent) (I D : Nat → Bool) (k : Nat) (s : List UInt8) : Option Nat := if D k then kidIdx es I k es.length s else none
theorem walkL_one (look : Nat → List UInt8 → Option Nat) (x : Nat) (s : List UInt8) : walkL look x [s] = look x s := by
  rw [walkL]
  cases look x s <;> rfl

/-- The chain of names from the root down to node k. -/
def chainF (es : List Ent) : Nat → Nat → List (List UInt8)
  | 0, _ => []
  | _ + 1, 0 => []
  | f + 1, i + 1 => chainF es f (ent es i).par.toNat ++ [(ent es i).name.data.toList]
def chain (es : List Ent) (k : Nat) : List (List UInt8) := chainF es k k

theorem kidIdx_some {es : List Ent} {I : Nat → Bool} {k : Nat} {s : List UInt8} : ∀ {i j : Nat}, kidIdx es I k i s = some j → ∃ i', i' < i ∧ j = i' + 1 ∧ I (i' + 1) = true ∧ (ent es i').par = (k : Int) ∧ s = (ent es i').name.data.toList
  | 0, j, h => by simp [kidIdx] at h
  | i + 1, j, h => by
    rw [kidIdx] at h
    split at h
    · rename_i hc
      cases h
      exact ⟨i, Nat.lt_succ_self _, rfl, hc⟩
    · obtain ⟨i', h1, h2⟩ := kidIdx_some h
      exact ⟨i', by omega, h2⟩

theorem chainF_stable {es : List Ent} {I D : Nat → Bool} (G : Good es I D) : ∀ (k f f' : Nat), k ≤ es.length → I k = true → k ≤ f → k ≤ f' → chainF es f k = chainF es f' k := by
  intro k
  induction k using Nat.strongRecOn with
  | _ k ih =>
    intro f f' hk hI hf hf'
    cases k with
    | zero => cases f <;> cases f' <;> rfl
    | succ i =>
      obtain ⟨q, hq, hqi, hqI, _⟩ := G.up i (by omega) hI
      obtain ⟨g, rfl⟩ : ∃ g, f = g + 1 := ⟨f - 1, by omega⟩
      obtain ⟨g', rfl⟩ : ∃ g', f' = g' + 1 := ⟨f' - 1, by omega⟩
      rw [chainF, chainF, hq, Int.toNat_natCast, ih q (by omega) g g' (by omega) hqI (by omega) (by omega)]

theorem chain_zero (es : List Ent) : chain es 0 = [] := rfl
theorem chain_succ {es : List Ent} {I D : Nat → Bool} (G : Good es I D) {i q : Nat} (hi : i < es.length) (hq : (ent es i).par = (q : Int)) (hqi : q ≤ i) (hqI : I q = true) :
    chain es (i + 1) = chain es q ++ [(ent es i).name.data.toList] := by
  unfold chain
  rw [chainF, hq, Int.toNat_natCast, chainF_stable G q i q (by omega) hqI hqi (Nat.le_refl _)]

theorem kidIdx_hit {es : List Ent} {I D : Nat → Bool} (G : Good es I D) {k i : Nat} (hi : i < es.length) (hI : I (i + 1) = true) (hp : (ent es i).par = (k : Int)) :
    ∀ n, i < n → n ≤ es.length → kidIdx es I k n (ent es i).name.data.toList = some (i + 1) := by
  intro n
  induction n with
  | zero => intro h; omega
  | succ n ih =>
    intro h hn
    rw [kidIdx]
    by_cases e : n = i
    · subst e
      rw [if_pos ⟨hI, hp, rfl⟩]
    · rw [if_neg (fun hc => G.uniq n i (by omega) (by omega) hc.1 hI (hp.trans hc.2.1.symm) hc.2.2), ih (by omega) (by omega)]

/-- The chain of a standing node leads to it. -/
theorem walk_chain {es : List Ent} {I D : Nat → Bool} (G : Good es I D) : ∀ k, k ≤ es.length → I k = true → walkL (stepIdx es I D) 0 (chain es k) = some k := by
  intro k
  induction k using Nat.strongRecOn with
  | _ k ih =>
    intro hk hI
    cases k with
    | zero => rfl
    | succ i =>
      obtain ⟨q, hq, hqi, hqI, hqD⟩ := G.up i (by omega) hI
      rw [chain_succ G (by omega) hq hqi hqI, walkL_append, ih q (by omega) (by omega) hqI]
      show walkL _ q [_] = _
      rw [walkL_one]
      unfold stepIdx
      rw [if_pos hqD]
      exact kidIdx_hit G (by omega) hI hq _ (by omega) (Nat.le_refl _)

/-- Whatever the walk comes to stands, and its chain is what was walked. -/
theorem chain_walk {es : List Ent} {I D : Nat → Bool} (G : Good es I D) : ∀ (n : Nat) (ns : List (List UInt8)) (k : Nat), ns.length = n → walkL (stepIdx es I D) 0 ns = some k → k ≤ es.length ∧ I k = true ∧ chain es k = ns := by
  intro n
  induction n with
  | zero =>
    intro ns k hn h
    obtain rfl : ns = [] := List.length_eq_zero_iff.1 hn
    cases h
    exact ⟨Nat.zero_le _, G.root, rfl⟩
  | succ n ih =>
    intro ns k hn h
    have hne : ns ≠ [] := fun e => by simp [e] at hn
    obtain ⟨a, s, rfl⟩ : ∃ a s, ns = a ++ [s] := ⟨ns.dropLast, ns.getLast hne, (List.dropLast_concat_getLast hne).symm⟩
    rw [walkL_append] at h
    cases hy : walkL (stepIdx es I D) 0 a with
    | none => rw [hy] at h; cases h
    | some y =>
      rw [hy] at h
      have h' : walkL (stepIdx es I D) y [s] = some k := h
      rw [walkL_one] at h'
      unfold stepIdx at h'
      split at h'
      · obtain ⟨i, hi, rfl, hI, hp, hs⟩ := kidIdx_some h'
        obtain ⟨hy1, hy2, hy3⟩ := ih a y (by simpa using hn) hy
        obtain ⟨q, hq, hqi, hqI, _⟩ := G.up i hi hI
        have : q = y := Int.ofNat.inj (hq.symm.trans hp)
        subst this
        exact ⟨hi, hI, by rw [chain_succ G hi hq hqi hqI, hy3, hs]⟩
      · cases h'

theorem chain_valid {es : List Ent} {I D : Nat → Bool} (G : Good es I D) : ∀ k, k ≤ es.length → I k = true → ∀ s ∈ chain es k, validName s = true := by
  intro k
  induction k using Nat.strongRecOn with
  | _ k ih =>
    intro hk hI s hs
    cases k with
    | zero => cases hs
    | succ i =>
      obtain ⟨q, hq, hqi, hqI, _⟩ := G.up i (by omega) hI
      rw [chain_succ G (by omega) hq hqi hqI] at hs
      rcases List.mem_append.1 hs with hs | hs
      · exact ih q (by omega) (by omega) hqI s hs
      · rw [List.mem_singleton.1 hs]; exact G.nm i (by omega) hI
theorem chain_nil {es : List Ent} {I D : Nat → Bool} (G : Good es I D) {k : Nat} (hk : k ≤ es.length) (hI : I k = true) : chain es k = [] ↔ k = 0 := by
  constructor
  · intro h
    cases k with
    | zero => rfl
    | succ i =>
      obtain ⟨q, hq, hqi, hqI, _⟩ := G.up i (by omega) hI
      rw [chain_succ G (by omega) hq hqi hqI] at h
      simp at h
  · rintro rfl; rfl

/-! ### Paths written out and taken apart -/
def joinN : List (List UInt8) → List UInt8
  | [] => []
  | [a] => a
  | a :: b :: r => a ++ 47 :: joinN (b :: r)
theorem joinN_snoc : ∀ (a : List (List UInt8)) (s : List UInt8), a ≠ [] → joinN (a ++ [s]) = joinN a ++ 47 :: s
  | [], _, h => absurd rfl h
  | [x], s, _ => rfl
  | x :: y :: r, s, _ => by
    have := joinN_snoc (y :: r) s (by simp)
    show x ++ 47 :: joinN ((y :: r) ++ [s]) = (x ++ 47 :: joinN (y :: r)) ++ 47 :: s
    rw [this]; simp

open Go.Lib in
theorem idx_cases : ∀ l : List UInt8, (index l [47] = -1 ∧ (47 : UInt8) ∉ l) ∨ ∃ a b, l = a ++ 47 :: b ∧ (47 : UInt8) ∉ a ∧ index l [47] = (a.length : Int)
  | [] => Or.inl ⟨by simp [index], by simp⟩
  | c :: l => by
    by_cases hc : c = 47
    · subst hc
      exact Or.inr ⟨[], l, rfl, by simp, by simp [index, List.isPrefixOf]⟩
    · have hp : ([47] : List UInt8).isPrefixOf (c :: l) = false := by simp [List.isPrefixOf, Ne.symm hc]
      have hix : index (c :: l) [47] = if index l [47] == -1 then -1 else index l [47] + 1 := by rw [index, hp]; simp
      rcases idx_cases l with ⟨h1, h2⟩ | ⟨a, b, h1, h2, h3⟩
      · refine Or.inl ⟨by rw [hix, h1]; rfl, fun hm => ?_⟩
        rcases List.mem_cons.1 hm with e | hm
        · exact hc e.symm
        · exact h2 hm
      · refine Or.inr ⟨c :: a, b, by rw [h1]; rfl, fun hm => ?_, ?_⟩
        · rcases List.mem_cons.1 hm with e | hm
          · exact hc e.symm
          · exact h2 hm
        · rw [hix, h3, if_neg (by rw [beq_iff_eq]; omega)]
          simp

open Go.Lib in
/-- The parts of l between slashes. -/
def sp (l : List UInt8) : List (List UInt8) := splitK [47] 0 (count l [47]) l
open Go.Lib in
theorem sp_no {l : List UInt8} (h : (47 : UInt8) ∉ l) : sp l = [l] := by
  rcases idx_cases l with ⟨h1, _⟩ | ⟨a, b, rfl, _, _⟩
  · unfold sp
    rw [count_miss h1]; rfl
  · simp at h
open Go.Lib in
theorem idx_at {a b : List UInt8} (h : (47 : UInt8) ∉ a) : index (a ++ 47 :: b) [47] = (a.length : Int) := by
  induction a with
  | nil => simp [index, List.isPrefixOf]
  | cons c a ih =>
    have hc : c ≠ 47 := fun e => h (by simp [e])
    have hp : ([47] : List UInt8).isPrefixOf (c :: (a ++ 47 :: b)) = false := by simp [List.isPrefixOf, Ne.symm hc]
    rw [List.cons_append, index, hp, ih (fun hm => h (List.mem_cons_of_mem _ hm))]
    have : ((a.length : Int) == -1) = false := by rw [beq_eq_false_iff_ne]; omega
    simp [this]
open Go.Lib in
theorem sp_cons {a b : List UInt8} (h : (47 : UInt8) ∉ a) : sp (a ++ 47 :: b) = a :: sp b := by
  have hi := idx_at (b := b) h
  have hh := count_hit (sub := [47]) (by simp) hi
  have hd : (a ++ 47 :: b).drop (a.length + ([47] : List UInt8).length) = b := by simp
  rw [hd] at hh
  unfold sp
  rw [hh, Nat.add_comm, splitK, hi, if_neg (by rw [beq_iff_eq]; omega)]
  simp only [Int.toNat_natCast, Nat.add_zero]
  rw [hd]
  simp

theorem sp_ne (l : List UInt8) : sp l ≠ [] := by
  rcases idx_cases l with ⟨_, h2⟩ | ⟨a, b, rfl, h2, _⟩
  · rw [sp_no h2]; simp
  · rw [sp_cons h2]; simp
theorem join_sp : ∀ (n : Nat) (l : List UInt8), l.length ≤ n → joinN (sp l) = l := by
  intro n
  induction n with
  | zero =>
    intro l hl
    obtain rfl : l = [] := List.length_eq_zero_iff.1 (by omega)
    rw [sp_no (by simp)]; rfl
  | succ n ih =>
    intro l hl
    rcases idx_cases l with ⟨_, h2⟩ | ⟨a, b, rfl, h2, _⟩
    · rw [sp_no h2]; rfl
    · rw [sp_cons h2]
      have hb := ih b (by simp at hl; omega)
      cases hs : sp b with
      | nil => exact absurd hs (sp_ne b)
      | cons x r => rw [joinN, ← hs, hb]
theorem sp_join : ∀ ns : List (List UInt8), ns ≠ [] → (∀ s ∈ ns, (47 : UInt8) ∉ s) → sp (joinN ns) = ns
  | [], h, _ => absurd rfl h
  | [a], _, h => sp_no (h a (by simp))
  | a :: b :: r, _, h => by
    rw [joinN, sp_cons (h a (by simp)), sp_join (b :: r) (by simp) (fun s hs => h s (List.mem_cons_of_mem _ hs))]

theorem valid_no {s : List UInt8} (h : validName s = true) : (47 : UInt8) ∉ s := by
  unfold validName at h
  rw [Bool.and_eq_true, List.all_eq_true] at h
  intro hm
  have := h.2 47 hm
  simp at this
theorem valid_ne {s : List UInt8} (h : validName s = true) : s ≠ [] := by
  intro e; subst e; simp [validName] at h
theorem joinN_ne : ∀ {ns : List (List UInt8)}, ns ≠ [] → (∀ s ∈ ns, s ≠ []) → joinN ns ≠ []
  | [], h, _ => absurd rfl h
  | [a], _, h => h a (by simp)
  | a :: b :: r, _, h => by rw [joinN]; simp

/-- The node at path p, by the walk. -/
def findP (es : List Ent) (I D : Nat → Bool) (p : List UInt8) : Option Nat := if p = [] then some 0 else walkL (stepIdx es I D) 0 (sp p)

theorem findP_iff {es : List Ent} {I D : Nat → Bool} (G : Good es I D) (p : List UInt8) (k : Nat) : findP es I D p = some k ↔ k ≤ es.length ∧ I k = true ∧ p = joinN (chain es k) := by
  unfold findP
  by_cases hp : p = []
  · subst hp
    rw [if_pos rfl]
    constructor
    · intro h; cases h; exact ⟨Nat.zero_le _, G.root, rfl⟩
    · rintro ⟨hk, hI, h⟩
      by_cases hk0 : k = 0
      · rw [hk0]
      · exact absurd h.symm (joinN_ne (fun e => hk0 ((chain_nil G hk hI).1 e)) (fun s hs => valid_ne (chain_valid G k hk hI s hs)))
  · rw [if_neg hp]
    constructor
    · intro h
      obtain ⟨h1, h2, h3⟩ := chain_walk G _ _ _ rfl h
      exact ⟨h1, h2, by rw [h3, join_sp _ p (Nat.le_refl _)]⟩
    · rintro ⟨hk, hI, h⟩
      have hne : chain es k ≠ [] := fun e => hp (by rw [h, e]; rfl)
      rw [h, sp_join _ hne (fun s hs => valid_no (chain_valid G k hk hI s hs))]
      exact walk_chain G k hk hI

/-- Nothing lies at a path that ends in a slash. -/
theorem findP_slash {es : List Ent} {I D : Nat → Bool} (G : Good es I D) (p : List UInt8) : findP es I D (p ++ [47]) = none := by
  cases h : findP es I D (p ++ [47]) with
  | none => rfl
  | some k =>
    obtain ⟨hk, hI, he⟩ := (findP_iff G _ _).1 h
    exfalso
    cases k with
    | zero => simp [chain, chainF, joinN] at he
    | succ i =>
      obtain ⟨q, hq, hqi, hqI, _⟩ := G.up i (by omega) hI
      have hv := G.nm i (by omega) hI
      have hlast : ∃ t, joinN (chain es (i + 1)) = t ++ (ent es i).name.data.toList := by
        rw [chain_succ G (by omega) hq hqi hqI]
        by_cases hc : chain es q = []
        · rw [hc]; exact ⟨[], rfl⟩
        · rw [joinN_snoc _ _ hc]; exact ⟨joinN (chain es q) ++ [47], by simp⟩
      obtain ⟨t, ht⟩ := hlast
      rw [ht] at he
      have hne := valid_ne hv
      have h1 : (p ++ [47]).getLast (by simp) = 47 := by simp
      have h2 : (t ++ (ent es i).name.data.toList).getLast (by simp [hne]) = (ent es i).name.data.toList.getLast hne := by
        rw [List.getLast_append_of_ne_nil]
      have : (47 : UInt8) = (ent es i).name.data.toList.getLast hne := by
        rw [← h2, ← h1]
        simp only [he]
      exact valid_no hv (this ▸ List.getLast_mem hne)
end Go.Proofs.Qxb6605817aDoor
