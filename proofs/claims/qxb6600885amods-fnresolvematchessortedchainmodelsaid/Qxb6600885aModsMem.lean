/-
  What the walks of seat b6600885aM are told of a slice of strings and of a slice of ints; walkB1Above by its contract.
-/
import Derived.Test.Qxb6600885aModsProg
import Derived.WalkKit
import Derived.WalkSpells
import Derived.WalkLawsBesides
import Derived.Deep.OwnRows
namespace Go.Proofs.Qxb6600885aMods
open Go.RowKit

/-- A slice of n strings: S(0), .., S(n-1). -/
def StrsAt (w : World) (a : Option Addr) (n : Nat) (S : Nat → ByteArray) : Prop :=
  n = 0 ∨ ∃ b off, a = some ⟨b, off, none⟩ ∧ b < w.heap.size ∧ ∀ i, i < n → w.cell? ⟨b, off + i, none⟩ = some (.string (S i))

/-- A slice of n ints: A(0), .., A(n-1). -/
def IntsAt (w : World) (a : Option Addr) (n : Nat) (A : Nat → Int) : Prop :=
  n = 0 ∨ ∃ b off, a = some ⟨b, off, none⟩ ∧ b < w.heap.size ∧ ∀ i, i < n → w.cell? ⟨b, off + i, none⟩ = some (.int .i64 (A i))

theorem StrsAt.below {w w' : World} {a : Option Addr} {n : Nat} {S : Nat → ByteArray} (h : StrsAt w a n S) (hb : Below w.heap.size w w') : StrsAt w' a n S := by
  rcases h with h | ⟨b, off, h1, h2, h3⟩
  · exact .inl h
  · exact .inr ⟨b, off, h1, by have := hb.size; omega, fun i hi => (hb.cell (p := ⟨b, off + i, none⟩) h2).trans (h3 i hi)⟩

theorem IntsAt.below {w w' : World} {a : Option Addr} {n : Nat} {A : Nat → Int} (h : IntsAt w a n A) (hb : Below w.heap.size w w') : IntsAt w' a n A := by
  rcases h with h | ⟨b, off, h1, h2, h3⟩
  · exact .inl h
  · exact .inr ⟨b, off, h1, by have := hb.size; omega, fun i hi => (hb.cell (p := ⟨b, off + i, none⟩) h2).trans (h3 i hi)⟩

theorem all_succ {P : Nat → Prop} {k : Nat} (h : ∀ j, j < k → P j) (hk : P k) : ∀ j, j < k + 1 → P j := fun j hj => by
  by_cases e : j = k
  · subst e; exact hk
  · exact h j (by omega)

/-- What 'walkB1Above' answers. -/
def abv (A : Nat → Int) (m : Nat) (k : Int) : Int := if 0 ≤ k ∧ k < m then A k.toNat else -1

theorem above_any (a : Option Addr) (m c : Nat) (A : Nat → Int) (k : Int) (w : World) (h : IntsAt w a m A) :
    Calls Trym.prog 17 #[.slice a m c, .int .i64 k] w fun e w' => e = .returned (.int .i64 (abv A m k)) ∧ w' = w := by
  by_cases h0 : 0 ≤ k
  · obtain ⟨j, rfl⟩ := Int.eq_ofNat_of_zero_le h0
    by_cases h1 : j < m
    · have e : abv A m (j : Int) = A j := by rw [abv, if_pos ⟨by omega, by omega⟩, Int.toNat_natCast]
      rcases h with h | ⟨b, off, rfl, hb, hc⟩
      · omega
      have hcj := hc j h1
      clear hc
      rw [e]
      clear e
      go_enter Trym.func17, Trym.ntmps17
      go_wp2
      go_ret
      exact ⟨rfl, rfl⟩
    · have e : abv A m (j : Int) = -1 := by rw [abv, if_neg (by omega)]
      rw [e]
      clear e h
      go_enter Trym.func17, Trym.ntmps17
      go_wp2
      go_ret
      exact ⟨rfl, rfl⟩
  · have e : abv A m k = -1 := by rw [abv, if_neg (by omega)]
    rw [e]
    clear e h
    go_enter Trym.func17, Trym.ntmps17
    go_wp2
    go_ret
    exact ⟨rfl, rfl⟩

/-- It returned a bool: which, is left open. -/
def SomeBool (e : Ending) : Prop := ∃ b, e = .returned (.bool b)

set_option maxHeartbeats 1000000 in
theorem bytes9_any (a : Option Addr) (n c : Nat) (S : Nat → ByteArray) (a' : Option Addr) (m c' : Nat) (p : ByteArray) (w : World) (h : StrsAt w a n S) (hn : n ≤ maxLen) :
    Calls Trym.prog 9 #[.slice a n c, .slice a' m c', .string p] w fun e w' => SomeBool e ∧ w' = w := by
  unfold maxLen at hn
  by_cases hn1 : n ≤ 1048576
  · go_enter Trym.func9, Trym.ntmps9
    go_wp2
    go_loop [7, 8] (fun z i => ∃ k : Nat, k ≤ n ∧ i = .int .i64 k ∧ ∃ s : Int, z = .int .i64 s) (fun _ i => n - (intOf i).toNat)
    case atStart => exact ⟨0, Nat.zero_le _, rfl, _, rfl⟩
    case round =>
      obtain ⟨k, hk, rfl, s, rfl⟩ := hrel
      by_cases hlt : k < n
      · rcases h with h0 | ⟨b, off, ha, hb, hc⟩
        · omega
        have hck := hc k hlt
        clear hc
        subst ha
        go_wp2
        all_goals first | (go_ret; exact ⟨⟨_, rfl⟩, rfl⟩) | (go_round; (case rel => exact ⟨k + 1, by omega, by go_num, _, rfl⟩); (case measure => simp [intOf]; omega))
      · go_wp2
        all_goals (go_ret; exact ⟨⟨_, rfl⟩, rfl⟩)
  · go_enter Trym.func9, Trym.ntmps9
    go_wp2
    go_ret
    exact ⟨⟨_, rfl⟩, rfl⟩

set_option maxHeartbeats 1000000 in
theorem bytes16_any (a : Option Addr) (n c : Nat) (S : Nat → ByteArray) (a' : Option Addr) (m c' : Nat) (p : ByteArray) (w : World) (h : StrsAt w a n S) (hn : n ≤ maxLen) :
    Calls Trym.prog 16 #[.slice a n c, .slice a' m c', .string p] w fun e w' => SomeBool e ∧ w' = w := by
  unfold maxLen at hn
  by_cases hn1 : n ≤ 1048576
  · go_enter Trym.func16, Trym.ntmps16
    go_wp2
    go_loop [7, 8] (fun z i => ∃ k : Nat, k ≤ n ∧ i = .int .i64 k ∧ ∃ s : Int, z = .int .i64 s) (fun _ i => n - (intOf i).toNat)
    case atStart => exact ⟨0, Nat.zero_le _, rfl, _, rfl⟩
    case round =>
      obtain ⟨k, hk, rfl, s, rfl⟩ := hrel
      by_cases hlt : k < n
      · rcases h with h0 | ⟨b, off, ha, hb, hc⟩
        · omega
        have hck := hc k hlt
        clear hc
        subst ha
        go_wp2
        all_goals first | (go_ret; exact ⟨⟨_, rfl⟩, rfl⟩) | (go_round; (case rel => exact ⟨k + 1, by omega, by go_num, _, rfl⟩); (case measure => simp [intOf]; omega))
      · go_wp2
        all_goals (go_ret; exact ⟨⟨_, rfl⟩, rfl⟩)
  · go_enter Trym.func16, Trym.ntmps16
    go_wp2
    go_ret
    exact ⟨⟨_, rfl⟩, rfl⟩

/-- What 'walkB1TableBytes' gives: an int; one of at most 1<<20 bounds all lengths. -/
def TabBytes (n m : Nat) (S : Nat → ByteArray) (p : ByteArray) (e : Ending) : Prop :=
  ∃ r : Int, e = .returned (.int .i64 r) ∧ (r ≤ 1048576 → n ≤ 1024 ∧ m ≤ 1024 ∧ p.size ≤ 1048576 ∧ ∀ i, i < n → (S i).size ≤ 1048576)

set_option maxHeartbeats 1000000 in
theorem tabBytes_any (a : Option Addr) (n c : Nat) (S : Nat → ByteArray) (a' : Option Addr) (m c' : Nat) (p : ByteArray) (w : World) (h : StrsAt w a n S) :
    Calls Trym.prog 10 #[.slice a n c, .slice a' m c', .string p] w fun e w' => TabBytes n m S p e ∧ w' = w := by
  by_cases hn : n ≤ 1024
  · by_cases hm : m ≤ 1024
    · by_cases hp : p.size ≤ 1048576
      · go_enter Trym.func10, Trym.ntmps10
        go_wp2
        go_loop [7, 8] (fun z i => ∃ k : Nat, k ≤ n ∧ i = .int .i64 k ∧ ∃ s : Int, z = .int .i64 s ∧ 0 ≤ s ∧ s ≤ 4194304 ∧ ∀ j, j < k → (S j).size ≤ 1048576) (fun _ i => n - (intOf i).toNat)
        case atStart => exact ⟨0, Nat.zero_le _, rfl, _, rfl, by omega, by omega, fun j hj => by omega⟩
        case round =>
          obtain ⟨k, hk, rfl, s, rfl, hs0, hs1, hall⟩ := hrel
          by_cases hlt : k < n
          · rcases h with h0 | ⟨b, off, ha, hb, hc⟩
            · omega
            have hck := hc k hlt
            clear hc
            subst ha
            by_cases hS : (S k).size ≤ 1048576
            · by_cases hS2 : s + (S k).size ≤ 1048576
              · go_wp2
                go_round
                case rel => exact ⟨k + 1, by omega, by go_num, _, rfl, by omega, by omega, all_succ hall hS⟩
                case measure => simp [intOf]; omega
              · go_wp2
                go_ret
                exact ⟨⟨_, rfl, fun h => by omega⟩, rfl⟩
            · go_wp2
              go_ret
              exact ⟨⟨_, rfl, fun h => by omega⟩, rfl⟩
          · go_wp2
            go_ret
            exact ⟨⟨_, rfl, fun _ => ⟨hn, hm, hp, fun i hi => hall i (by omega)⟩⟩, rfl⟩
      · go_enter Trym.func10, Trym.ntmps10
        go_wp2
        go_ret
        exact ⟨⟨_, rfl, fun h => by omega⟩, rfl⟩
    · go_enter Trym.func10, Trym.ntmps10
      go_wp2
      go_ret
      exact ⟨⟨_, rfl, fun h => by omega⟩, rfl⟩
  · go_enter Trym.func10, Trym.ntmps10
    go_wp2
    go_ret
    exact ⟨⟨_, rfl, fun h => by omega⟩, rfl⟩
end Go.Proofs.Qxb6600885aMods
