/-
  The walk of FnResolveMatchesSortedChainModel (function 3): the Go text returns true and writes nothing that was there.
-/
import Derived.Test.Qxb6600885aModsModel
namespace Go.Proofs.Qxb6600885aMods
open Go.RowKit

set_option maxHeartbeats 2000000 in
theorem match_walk (a0 : Option Addr) (n c0 : Nat) (S : Nat → ByteArray) (a1 : Option Addr) (m c1 : Nat) (A : Nat → Int) (p : ByteArray) (w : World)
    (h0 : StrsAt w a0 n S) (h1 : IntsAt w a1 m A) (hn : n ≤ maxLen) (hnil0 : a0 = none → n = 0 ∧ c0 = 0) (hnil1 : a1 = none → m = 0 ∧ c1 = 0) :
    Calls Trym.prog 3 #[.slice a0 n c0, .slice a1 m c1, .string p] w fun e w' => e = .returned (.bool true) ∧ Below w.heap.size w w' := by
  go_enter Trym.func3, Trym.ntmps3
  go_wp2_with fail
  refine (bytes9_any a0 n c0 S a1 m c1 p w h0 hn).mono ?_
  rintro e w1 ⟨⟨b, rfl⟩, rfl⟩
  cases b with
  | false =>
    go_wp2
    go_ret
    exact ⟨rfl, Below.refl _ _⟩
  | true =>
    go_wp2_with fail
    refine (tabBytes_any a0 n c0 S a1 m c1 p _ h0).mono ?_
    rintro e w2 ⟨⟨r, rfl, hr⟩, rfl⟩
    by_cases hr1 : r ≤ 1048576
    · obtain ⟨gn, gm, gp, gS⟩ := hr hr1
      clear hr
      have HS : Hid (∀ i, i < n → (S i).size ≤ 1048576) := gS
      clear gS
      go_wp2_with fail
      refine (cloneS_all a0 n c0 S _ h0 gn hnil0).mono ?_
      rintro e w1 ⟨b0, d0, rfl, k0, bel1⟩
      have h1' := h1.below bel1
      go_wp2_with fail
      refine (cloneI_all a1 m c1 A _ h1' gm hnil1).mono ?_
      rintro e w3 ⟨b1, d1, rfl, k1, bel2⟩
      have k0' := k0.below bel2
      go_wp2_with fail
      refine (table_any b0 n d0 S b1 m d1 A _ k0' k1 gn).mono ?_
      rintro e w4 ⟨bt, rfl, hrow, bel3⟩
      go_wp2_with fail
      refine (zzResolve_any bt n S (fun k => abv A m k) p _ hrow gn HS.out).mono ?_
      rintro e w5 ⟨rfl, bel4⟩
      have B3 : Below w2.heap.size w2 w3 := bel1.trans (bel2.mono bel1.size)
      have B4 : Below w2.heap.size w2 w4 := B3.trans (bel3.mono B3.size)
      have B5 : Below w2.heap.size w2 w5 := B4.trans (bel4.mono B4.size)
      have s5 : StrsAt w5 b0 n S := (k0'.below bel3).below bel4
      have i5 : IntsAt w5 b1 m A := (k1.below bel3).below bel4
      clear bel1 bel2 bel3 bel4 B3 B4 k0 k0' k1 h1' hrow h0 h1 hnil0 hnil1
      go_wp2_with fail
      refine (model_any b0 n d0 S b1 m d1 A p _ s5 i5 gn HS.out).mono ?_
      rintro e w6 ⟨rfl, bel5⟩
      have B6 : Below w2.heap.size w2 w6 := B5.trans (bel5.mono B5.size)
      generalize resFrom (okF p S) (lnF S) (fun k => abv A m k) n n (-1) = R
      go_wp2
      go_ret
      exact ⟨rfl, B6⟩
    · go_wp2
      go_ret
      exact ⟨rfl, Below.refl _ _⟩
end Go.Proofs.Qxb6600885aMods
