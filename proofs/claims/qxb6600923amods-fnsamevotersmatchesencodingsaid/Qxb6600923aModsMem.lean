/-
  What the walks of seat b6600923aM are told of a slice of strings; zzBytes_.., voterBytes_b1, cloneVoters_b1, sameVoters: each by a contract.
-/
import Derived.Test.Qxb6600923aModsProg
import Derived.WalkKit
import Derived.WalkSpells
import Derived.WalkLawsBesides
import Derived.Deep.OwnRows
import Derived.Lib.SliceRun
import Derived.Deep.QuietTactic
import Derived.BigQuiet
import Derived.Lib.Strings
namespace Go.Proofs.Qxb6600923aMods
open Go.RowKit

/-- A slice of n strings: S(0), .., S(n-1). -/
def StrsAt (w : World) (a : Option Addr) (n : Nat) (S : Nat → ByteArray) : Prop :=
  n = 0 ∨ ∃ b off, a = some ⟨b, off, none⟩ ∧ b < w.heap.size ∧ ∀ i, i < n → w.cell? ⟨b, off + i, none⟩ = some (.string (S i))

theorem StrsAt.below {w w' : World} {a : Option Addr} {n : Nat} {S : Nat → ByteArray} (h : StrsAt w a n S) (hb : Below w.heap.size w w') : StrsAt w' a n S := by
  rcases h with h | ⟨b, off, h1, h2, h3⟩
  · exact .inl h
  · exact .inr ⟨b, off, h1, by have := hb.size; omega, fun i hi => (hb.cell (p := ⟨b, off + i, none⟩) h2).trans (h3 i hi)⟩

theorem all_succ {P : Nat → Prop} {k : Nat} (h : ∀ j, j < k → P j) (hk : P k) : ∀ j, j < k + 1 → P j := fun j hj => by
  by_cases e : j = k
  · subst e; exact hk
  · exact h j (by omega)

/-- It returned a bool: which, is left open. -/
def SomeBool (e : Ending) : Prop := ∃ b, e = .returned (.bool b)

/-- The sum of the first k lengths. -/
def sumTo (S : Nat → ByteArray) : Nat → Nat
  | 0 => 0
  | k + 1 => sumTo S k + (S k).size

/-- What 'voterBytes_b1' gives. -/
def VBytes (n : Nat) (S : Nat → ByteArray) (e : Ending) : Prop :=
  ∃ r : Int, e = .returned (.int .i64 r) ∧ 0 ≤ r ∧ r ≤ 1048577 ∧ (r ≤ 1048576 → 16 * n + sumTo S n ≤ 1048576)

set_option maxHeartbeats 1000000 in
theorem vbytes_any (a : Option Addr) (n c : Nat) (S : Nat → ByteArray) (w : World) (h : StrsAt w a n S) (hn : n ≤ 65536) (hs : ∀ i, i < n → (S i).size ≤ 1048576) :
    Calls Trym.prog 11 #[.slice a n c] w fun e w' => VBytes n S e ∧ w' = w := by
  have HS : Hid (∀ i, i < n → (S i).size ≤ 1048576) := hs
  clear hs
  go_enter Trym.func11, Trym.ntmps11
  go_wp2
  go_loop [3, 4] (fun z i => ∃ k : Nat, k ≤ n ∧ i = .int .i64 k ∧ z = .int .i64 ((16 * n + sumTo S k : Nat) : Int) ∧ (16 * n + sumTo S k ≤ 1048576)) (fun _ i => n - (intOf i).toNat)
  case atStart => exact ⟨0, Nat.zero_le _, rfl, by go_num, by simp [sumTo]; omega⟩
  case round =>
    obtain ⟨k, hk, rfl, rfl, hs⟩ := hrel
    by_cases hlt : k < n
    · rcases h with h0 | ⟨b, off, ha, hb, hc⟩
      · omega
      have hck := hc k hlt
      have hsz := HS.out k hlt
      clear hc
      subst ha
      by_cases hS : 16 * n + sumTo S k + (S k).size ≤ 1048576
      · go_wp2
        go_round
        case rel => exact ⟨k + 1, by omega, by go_num, by simp [sumTo]; omega, by simp [sumTo]; omega⟩
        case measure => simp [intOf]; omega
      · go_wp2
        go_ret
        exact ⟨⟨_, rfl, by decide, by decide, fun h => by omega⟩, rfl⟩
    · have e : k = n := by omega
      subst e
      go_wp2
      go_ret
      exact ⟨⟨_, rfl, by omega, by omega, fun _ => hs⟩, rfl⟩

/-- What the bounds on lengths give. -/
def Small2 (n m : Nat) (S T : Nat → ByteArray) (e : Ending) : Prop :=
  ∃ b, e = .returned (.bool b) ∧ (b = true → (∀ i, i < n → (S i).size ≤ 1048576) ∧ (∀ i, i < m → (T i).size ≤ 1048576))
def Small3 (n m l : Nat) (S T U : Nat → ByteArray) (e : Ending) : Prop :=
  ∃ b, e = .returned (.bool b) ∧ (b = true → (∀ i, i < n → (S i).size ≤ 1048576) ∧ (∀ i, i < m → (T i).size ≤ 1048576) ∧ (∀ i, i < l → (U i).size ≤ 1048576))

set_option maxHeartbeats 2000000 in
theorem bytes10_any (a : Option Addr) (n c : Nat) (S : Nat → ByteArray) (a' : Option Addr) (m c' : Nat) (T : Nat → ByteArray) (w : World) (h : StrsAt w a n S) (h' : StrsAt w a' m T) (hn : n ≤ 9223372036854775807) (hm : m ≤ 9223372036854775807) :
    Calls Trym.prog 10 #[.slice a n c, .slice a' m c'] w fun e w' => Small2 n m S T e ∧ w' = w := by
  by_cases hn1 : n ≤ 1048576
  · go_enter Trym.func10, Trym.ntmps10
    go_wp2
    go_loop [5, 6] (fun z i => ∃ k : Nat, k ≤ n ∧ i = .int .i64 k ∧ (∃ s : Int, z = .int .i64 s) ∧ ∀ j, j < k → (S j).size ≤ 1048576) (fun _ i => n - (intOf i).toNat)
    case atStart => exact ⟨0, Nat.zero_le _, rfl, ⟨_, rfl⟩, fun j hj => by omega⟩
    case round =>
      obtain ⟨k, hk, rfl, ⟨s, rfl⟩, hall⟩ := hrel
      have HA : Hid (∀ j, j < k → (S j).size ≤ 1048576) := hall
      clear hall
      by_cases hlt : k < n
      · rcases h with h0 | ⟨b, off, ha, hb, hc⟩
        · omega
        have hck := hc k hlt
        clear hc
        subst ha
        by_cases hS : (S k).size ≤ 1048576
        · by_cases hs2 : wrap64 (s + (S k).size) ≤ 1048576
          · go_wp2
            go_round
            case rel => exact ⟨k + 1, by omega, by go_num, ⟨_, rfl⟩, all_succ HA.out hS⟩
            case measure => simp [intOf]; omega
          · go_wp2
            go_ret
            exact ⟨⟨_, rfl, fun h => by cases h⟩, rfl⟩
        · go_wp2
          go_ret
          exact ⟨⟨_, rfl, fun h => by cases h⟩, rfl⟩
      · have ek : k = n := by omega
        subst ek
        by_cases hm1 : m ≤ 1048576
        · by_cases hs3 : wrap64 (s + m) ≤ 1048576
          · go_wp2
            go_loop [5, 7] (fun z i => ∃ k : Nat, k ≤ m ∧ i = .int .i64 k ∧ (∃ s : Int, z = .int .i64 s) ∧ ∀ j, j < k → (T j).size ≤ 1048576) (fun _ i => m - (intOf i).toNat)
            case atStart => exact ⟨0, Nat.zero_le _, rfl, ⟨_, rfl⟩, fun j hj => by omega⟩
            case round =>
              obtain ⟨k2, hk2, rfl, ⟨s2, rfl⟩, hall⟩ := hrel
              have HB : Hid (∀ j, j < k2 → (T j).size ≤ 1048576) := hall
              clear hall
              by_cases hlt2 : k2 < m
              · rcases h' with h0 | ⟨b, off, ha, hb, hc⟩
                · omega
                have hck := hc k2 hlt2
                clear hc
                subst ha
                by_cases hS : (T k2).size ≤ 1048576
                · by_cases hs4 : wrap64 (s2 + (T k2).size) ≤ 1048576
                  · go_wp2
                    go_round
                    case rel => exact ⟨k2 + 1, by omega, by go_num, ⟨_, rfl⟩, all_succ HB.out hS⟩
                    case measure => simp [intOf]; omega
                  · go_wp2
                    go_ret
                    exact ⟨⟨_, rfl, fun h => by cases h⟩, rfl⟩
                · go_wp2
                  go_ret
                  exact ⟨⟨_, rfl, fun h => by cases h⟩, rfl⟩
              · have ek2 : k2 = m := by omega
                subst ek2
                go_wp2
                go_ret
                exact ⟨⟨_, rfl, fun _ => ⟨HA.out, HB.out⟩⟩, rfl⟩
          · go_wp2
            go_ret
            exact ⟨⟨_, rfl, fun h => by cases h⟩, rfl⟩
        · go_wp2
          go_ret
          exact ⟨⟨_, rfl, fun h => by cases h⟩, rfl⟩
  · go_enter Trym.func10, Trym.ntmps10
    go_wp2
    go_ret
    exact ⟨⟨_, rfl, fun h => by cases h⟩, rfl⟩
end Go.Proofs.Qxb6600923aMods
