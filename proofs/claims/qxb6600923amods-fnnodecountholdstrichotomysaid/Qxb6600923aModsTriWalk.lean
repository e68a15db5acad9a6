/-
  The walk of FnNodeCountHoldsTrichotomy (function 3): the Go text returns true; the world has at most new blocks.
-/
import Derived.Test.Qxb6600923aModsProg
import Derived.WalkKit
import Derived.WalkSpells
import Derived.WalkLawsBesides
namespace Go.Proofs.Qxb6600923aMods
open Go.RowKit

set_option maxHeartbeats 1000000 in
theorem tri_walk (n k : Int) (w : World) :
    Calls Trym.prog 3 #[.int .i64 n, .int .i64 k] w fun e w' => e = .returned (.bool true) ∧ Grown w w' := by
  rcases Int.lt_trichotomy k n with h | h | h
  · have b1 : (k == n) = false := by simp; omega
    have h2 : ¬ n < k := by omega
    have h3 : ¬ n ≤ k := by omega
    have h4 : k ≤ n := by omega
    go_enter Trym.func3, Trym.ntmps3
    go_wp2
    go_ret
    exact ⟨rfl, by repeat (first | exact Grown.refl _ | apply Grown.drew | apply Grown.alloc)⟩
  · subst h
    go_enter Trym.func3, Trym.ntmps3
    go_wp2
    go_ret
    exact ⟨rfl, by repeat (first | exact Grown.refl _ | apply Grown.drew | apply Grown.alloc)⟩
  · have b1 : (k == n) = false := by simp; omega
    have h2 : ¬ k < n := by omega
    have h3 : ¬ k ≤ n := by omega
    have h4 : n ≤ k := by omega
    go_enter Trym.func3, Trym.ntmps3
    go_wp2
    go_ret
    exact ⟨rfl, by repeat (first | exact Grown.refl _ | apply Grown.drew | apply Grown.alloc)⟩
end Go.Proofs.Qxb6600923aMods
