/-
  THE WALKS of seat b6605817aD: the law's entries in memory; the guards on sizes.
-/
import Derived.Test.Qxb6605817aDoorW1
namespace Go.Proofs.Qxb6605817aDoor
open Go.RowKit

/-- It returns some bool. -/
def IsBool (e : Ending) : Prop := ∃ r, e = .returned (.bool r)

structure Ent where
  par : Int
  name : ByteArray
  dir : Bool

/-- The entries as they lie: from cell 'off' of block b on, three cells each. -/
structure Ents (w : World) (a : Option Addr) (es : List Ent) (b off : Nat) : Prop where
  base : 0 < es.length → a = some ⟨b, off, none⟩
  par : ∀ i (h : i < es.length), w.cell? ⟨b, off + i * 3, none⟩ = some (.int .i64 es[i].par)
  name : ∀ i (h : i < es.length), w.cell? ⟨b, off + i * 3 + 1, none⟩ = some (.string es[i].name)
  dir : ∀ i (h : i < es.length), w.cell? ⟨b, off + i * 3 + 2, none⟩ = some (.bool es[i].dir)
  wfp : ∀ i (h : i < es.length), -9223372036854775808 ≤ es[i].par ∧ es[i].par ≤ 9223372036854775807
  wfn : ∀ i (h : i < es.length), es[i].name.size ≤ maxLen

set_option maxHeartbeats 1000000 in
theorem bytes20 (a : Option Addr) (len cap : Nat) (es : List Ent) (b off : Nat) (w : World) (hlen : es.length = len) (hmax : len ≤ maxLen) (hE : Ents w a es b off) :
    Calls Tryd.prog 20 #[.slice a len cap] w fun e w' => IsBool e ∧ w' = w := by
  unfold maxLen at *
  by_cases hb : 1048576 < len
  · go_enter Tryd.func20, Tryd.ntmps20
    go_wp2
    go_ret
    exact ⟨⟨_, rfl⟩, rfl⟩
  · go_enter Tryd.func20, Tryd.ntmps20
    go_wp2
    go_loop [3, 4] (fun zn i => ∃ (n k : Nat), n ≤ 1048576 ∧ k ≤ len ∧ zn = .int .i64 n ∧ i = .int .i64 k) (fun _ i => len - (intOf i).toNat)
    case atStart => exact ⟨len, 0, by omega, Nat.zero_le _, rfl, rfl⟩
    case round =>
      obtain ⟨n, k, hn, hk, rfl, rfl⟩ := hrel
      by_cases hlt : k < len
      · have hk' : k < es.length := by omega
        obtain rfl := hE.base (by omega)
        have hc := hE.name k hk'
        have hz := hE.wfn k hk'
        unfold maxLen at hz
        generalize es[k].name = nm at *
        by_cases hnm : 1048576 < nm.size
        · go_wp2
          go_ret
          exact ⟨⟨_, rfl⟩, rfl⟩
        · by_cases hsum : 1048576 < n + nm.size
          · go_wp2
            go_ret
            exact ⟨⟨_, rfl⟩, rfl⟩
          · go_wp2
            go_round
            case rel => exact ⟨n + nm.size, k + 1, by omega, by omega, by go_num, by go_num⟩
            case measure => simp [intOf]; omega
      · go_wp2
        go_ret
        exact ⟨⟨_, rfl⟩, rfl⟩

set_option maxHeartbeats 1000000 in
theorem bytes13 (p : ByteArray) (a : Option Addr) (len cap : Nat) (es : List Ent) (b off : Nat) (w : World) (hp : p.size ≤ maxLen) (hlen : es.length = len) (hmax : len ≤ maxLen) (hE : Ents w a es b off) :
    Calls Tryd.prog 13 #[.slice a len cap, .string p] w fun e w' => IsBool e ∧ w' = w := by
  unfold maxLen at *
  by_cases hb : 1048576 < len
  · go_enter Tryd.func13, Tryd.ntmps13
    go_wp2
    go_ret
    exact ⟨⟨_, rfl⟩, rfl⟩
  · go_enter Tryd.func13, Tryd.ntmps13
    go_wp2
    go_loop [5, 6] (fun zn i => ∃ (n k : Nat), n ≤ 1048576 ∧ k ≤ len ∧ zn = .int .i64 n ∧ i = .int .i64 k) (fun _ i => len - (intOf i).toNat)
    case atStart => exact ⟨len, 0, by omega, Nat.zero_le _, rfl, rfl⟩
    case round =>
      obtain ⟨n, k, hn, hk, rfl, rfl⟩ := hrel
      by_cases hlt : k < len
      · have hk' : k < es.length := by omega
        obtain rfl := hE.base (by omega)
        have hc := hE.name k hk'
        have hz := hE.wfn k hk'
        unfold maxLen at hz
        generalize es[k].name = nm at *
        by_cases hnm : 1048576 < nm.size
        · go_wp2
          go_ret
          exact ⟨⟨_, rfl⟩, rfl⟩
        · by_cases hsum : 1048576 < n + nm.size
          · go_wp2
            go_ret
            exact ⟨⟨_, rfl⟩, rfl⟩
          · go_wp2
            go_round
            case rel => exact ⟨n + nm.size, k + 1, by omega, by omega, by go_num, by go_num⟩
            case measure => simp [intOf]; omega
      · by_cases hp1 : 1048576 < p.size
        · go_wp2
          go_ret
          exact ⟨⟨_, rfl⟩, rfl⟩
        · by_cases hp2 : 1048576 < n + p.size
          · go_wp2
            go_ret
            exact ⟨⟨_, rfl⟩, rfl⟩
          · go_wp2
            go_ret
            exact ⟨⟨_, rfl⟩, rfl⟩

set_option maxHeartbeats 1000000 in
theorem bytes22 (x y : Int) (p : ByteArray) (a : Option Addr) (len cap : Nat) (es : List Ent) (b off : Nat) (w : World) (hp : p.size ≤ maxLen) (hlen : es.length = len) (hmax : len ≤ maxLen) (hE : Ents w a es b off) :
    Calls Tryd.prog 22 #[.int .i64 x, .slice a len cap, .int .i64 y, .string p] w fun e w' => IsBool e ∧ w' = w := by
  unfold maxLen at *
  by_cases hb : 1048576 < len
  · go_enter Tryd.func22, Tryd.ntmps22
    go_wp2
    go_ret
    exact ⟨⟨_, rfl⟩, rfl⟩
  · go_enter Tryd.func22, Tryd.ntmps22
    go_wp2
    go_loop [9, 10] (fun zn i => ∃ (n k : Nat), n ≤ 1048576 ∧ k ≤ len ∧ zn = .int .i64 n ∧ i = .int .i64 k) (fun _ i => len - (intOf i).toNat)
    case atStart => exact ⟨len, 0, by omega, Nat.zero_le _, rfl, rfl⟩
    case round =>
      obtain ⟨n, k, hn, hk, rfl, rfl⟩ := hrel
      by_cases hlt : k < len
      · have hk' : k < es.length := by omega
        obtain rfl := hE.base (by omega)
        have hc := hE.name k hk'
        have hz := hE.wfn k hk'
        unfold maxLen at hz
        generalize es[k].name = nm at *
        by_cases hnm : 1048576 < nm.size
        · go_wp2
          go_ret
          exact ⟨⟨_, rfl⟩, rfl⟩
        · by_cases hsum : 1048576 < n + nm.size
          · go_wp2
            go_ret
            exact ⟨⟨_, rfl⟩, rfl⟩
          · go_wp2
            go_round
            case rel => exact ⟨n + nm.size, k + 1, by omega, by omega, by go_num, by go_num⟩
            case measure => simp [intOf]; omega
      · by_cases hp1 : 1048576 < p.size
        · go_wp2
          go_ret
          exact ⟨⟨_, rfl⟩, rfl⟩
        · by_cases hp2 : 1048576 < n + p.size
          · go_wp2
            go_ret
            exact ⟨⟨_, rfl⟩, rfl⟩
          · go_wp2
            go_ret
            exact ⟨⟨_, rfl⟩, rfl⟩

set_option maxHeartbeats 1000000 in
theorem bytes24 (x : Int) (a : Option Addr) (len cap : Nat) (es : List Ent) (b off : Nat) (w : World) (hlen : es.length = len) (hmax : len ≤ maxLen) (hE : Ents w a es b off) :
    Calls Tryd.prog 24 #[.int .i64 x, .slice a len cap] w fun e w' => IsBool e ∧ w' = w := by
  unfold maxLen at *
  by_cases hb : 1048576 < len
  · go_enter Tryd.func24, Tryd.ntmps24
    go_wp2
    go_ret
    exact ⟨⟨_, rfl⟩, rfl⟩
  · go_enter Tryd.func24, Tryd.ntmps24
    go_wp2
    go_loop [5, 6] (fun zn i => ∃ (n k : Nat), n ≤ 1048576 ∧ k ≤ len ∧ zn = .int .i64 n ∧ i = .int .i64 k) (fun _ i => len - (intOf i).toNat)
    case atStart => exact ⟨len, 0, by omega, Nat.zero_le _, rfl, rfl⟩
    case round =>
      obtain ⟨n, k, hn, hk, rfl, rfl⟩ := hrel
      by_cases hlt : k < len
      · have hk' : k < es.length := by omega
        obtain rfl := hE.base (by omega)
        have hc := hE.name k hk'
        have hz := hE.wfn k hk'
        unfold maxLen at hz
        generalize es[k].name = nm at *
        by_cases hnm : 1048576 < nm.size
        · go_wp2
          go_ret
          exact ⟨⟨_, rfl⟩, rfl⟩
        · by_cases hsum : 1048576 < n + nm.size
          · go_wp2
            go_ret
            exact ⟨⟨_, rfl⟩, rfl⟩
          · go_wp2
            go_round
            case rel => exact ⟨n + nm.size, k + 1, by omega, by omega, by go_num, by go_num⟩
            case measure => simp [intOf]; omega
      · go_wp2
        go_ret
        exact ⟨⟨_, rfl⟩, rfl⟩

end Go.Proofs.Qxb6605817aDoor
