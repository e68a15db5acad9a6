/-
  The walks of the two laws over 'within': FnWithinSplitRejoins (function 6), FnWithinJoinRoundTrip (function 7): the Go text returns true and leaves the world as it was.
-/
import Derived.Test.Qxb6600885aModsStr
namespace Go.Proofs.Qxb6600885aMods
open Go.RowKit

theorem rest_size (p d : List UInt8) : (wRest p d).length ≤ p.length := by
  unfold wRest
  have ht : ∀ q, (Lib.trimPrefix p q).length ≤ p.length := fun q => by
    unfold Lib.trimPrefix
    split <;> simp
  repeat' split
  · simp
  · exact Nat.le_refl _
  · exact ht _
  · exact ht _

set_option maxHeartbeats 1000000 in
theorem split_walk (a0 : ByteArray) (a1 : ByteArray) (w0 : a0.size ≤ maxLen) (w1 : a1.size ≤ maxLen) (w : World) :
    Calls Trym.prog 6 #[.string a0, .string a1] w fun e w' => e = .returned (.bool true) ∧ w = w' := by
  unfold maxLen at w0 w1
  by_cases hs : a0.size + a1.size ≤ 1048576
  · have hz : a0.size ≤ 1048576 := by omega
    have hz' : a1.size ≤ 1048576 := by omega
    by_cases h1 : a0.data.toList = a1.data.toList
    · have e1 := wRest_refl a1.data.toList
      have e2 := wOk_refl a1.data.toList
      obtain rfl : a0 = a1 := by rw [← Lib.mk_data a0, ← Lib.mk_data a1, h1]
      clear h1
      go_enter Trym.func6, Trym.ntmps6
      go_wp2_with (first | (go_at_call 22; refine (zzWithin_any _ _ _ (by omega)).mono ?_; rintro e w' ⟨rfl, rfl⟩) | go_in)
      go_ret
      exact ⟨rfl, rfl⟩
    · have b1 : (a0.toList == a1.toList) = false := by simpa [Lib.toList_data] using h1
      by_cases h2 : a1.data.toList = [46]
      · have b2 : (a1.toList == [46]) = true := by simpa [Lib.toList_data] using h2
        have e1 : wRest a0.data.toList a1.data.toList = a0.data.toList := by rw [h2]; exact wRest_dot _ (by rw [← h2]; exact h1)
        have e2 : wOk a0.data.toList a1.data.toList = true := by rw [h2]; exact wOk_dot _
        clear h1 h2
        go_enter Trym.func6, Trym.ntmps6
        go_wp2_with (first | (go_at_call 22; refine (zzWithin_any _ _ _ (by omega)).mono ?_; rintro e w' ⟨rfl, rfl⟩) | go_in)
        go_ret
        exact ⟨rfl, rfl⟩
      · have b2 : (a1.toList == [46]) = false := by simpa [Lib.toList_data] using h2
        cases hk : wOk a0.data.toList a1.data.toList with
        | false =>
          have e1 := wRest_no _ _ hk
          clear h1 h2
          go_enter Trym.func6, Trym.ntmps6
          go_wp2_with (first | (go_at_call 22; refine (zzWithin_any _ _ _ (by omega)).mono ?_; rintro e w' ⟨rfl, rfl⟩) | go_in)
          go_ret
          exact ⟨rfl, rfl⟩
        | true =>
          have e1 := jn_rest _ _ hk h1 h2
          have e3 : (wRest a0.data.toList a1.data.toList).length ≤ 1048576 := Nat.le_trans (rest_size _ _) (by rw [← Lib.size_eq]; exact hz)
          clear h1 h2
          go_enter Trym.func6, Trym.ntmps6
          go_wp2_with (first | (go_at_call 22; refine (zzWithin_any _ _ _ (by omega)).mono ?_; rintro e w' ⟨rfl, rfl⟩) | (go_at_call 23; refine (join_any _ _ _ (by omega) (by rw [Lib.size_eq]; simp; omega)).mono ?_; rintro e w' ⟨rfl, rfl⟩) | go_in)
          go_ret
          exact ⟨rfl, rfl⟩
  · by_cases hz : a0.size ≤ 1048576
    · by_cases hz' : a1.size ≤ 1048576
      · go_enter Trym.func6, Trym.ntmps6
        go_wp2
        go_ret
        exact ⟨rfl, rfl⟩
      · go_enter Trym.func6, Trym.ntmps6
        go_wp2
        go_ret
        exact ⟨rfl, rfl⟩
    · go_enter Trym.func6, Trym.ntmps6
      go_wp2
      go_ret
      exact ⟨rfl, rfl⟩

theorem jn_size (d r : List UInt8) : (jn d r).length ≤ d.length + r.length + 1 := by
  unfold jn
  split
  · simp
  · simp; omega

set_option maxHeartbeats 1000000 in
theorem round_walk (a0 : ByteArray) (a1 : ByteArray) (w0 : a0.size ≤ maxLen) (w1 : a1.size ≤ maxLen) (w : World) :
    Calls Trym.prog 7 #[.string a0, .string a1] w fun e w' => e = .returned (.bool true) ∧ w = w' := by
  unfold maxLen at w0 w1
  by_cases hs : a0.size + a1.size ≤ 1048576
  · have hz : a0.size ≤ 1048576 := by omega
    have hz' : a1.size ≤ 1048576 := by omega
    by_cases k1 : a0.size ≤ 524288
    · by_cases k2 : a1.size ≤ 524288
      · by_cases h2 : a0.data.toList = [46]
        · have b2 : (a0.toList == [46]) = true := by simpa [Lib.toList_data] using h2
          clear h2
          go_enter Trym.func7, Trym.ntmps7
          go_wp2
          go_ret
          exact ⟨rfl, rfl⟩
        · have b2 : (a0.toList == [46]) = false := by simpa [Lib.toList_data] using h2
          obtain ⟨e1, e2⟩ := round a0.data.toList a1.data.toList h2
          clear h2
          go_enter Trym.func7, Trym.ntmps7
          go_wp2_with (first | (go_at_call 22; refine (zzWithin_any _ _ _ (by omega)).mono ?_; rintro e w' ⟨rfl, rfl⟩) | (go_at_call 23; refine (join_any _ _ _ (by omega) (by omega)).mono ?_; rintro e w' ⟨rfl, rfl⟩) | go_in)
          go_ret
          exact ⟨rfl, rfl⟩
      · go_enter Trym.func7, Trym.ntmps7
        go_wp2
        go_ret
        exact ⟨rfl, rfl⟩
    · go_enter Trym.func7, Trym.ntmps7
      go_wp2
      go_ret
      exact ⟨rfl, rfl⟩
  · by_cases hz : a0.size ≤ 1048576
    · by_cases hz' : a1.size ≤ 1048576
      · go_enter Trym.func7, Trym.ntmps7
        go_wp2
        go_ret
        exact ⟨rfl, rfl⟩
      · go_enter Trym.func7, Trym.ntmps7
        go_wp2
        go_ret
        exact ⟨rfl, rfl⟩
    · go_enter Trym.func7, Trym.ntmps7
      go_wp2
      go_ret
      exact ⟨rfl, rfl⟩
end Go.Proofs.Qxb6600885aMods
