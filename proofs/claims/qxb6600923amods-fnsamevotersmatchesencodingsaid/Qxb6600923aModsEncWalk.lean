/-
  The walk of FnSameVotersMatchesEncoding (function 5): the Go text returns true and writes nothing that was there.
-/
import Derived.Test.Qxb6600923aModsBytesSame
namespace Go.Proofs.Qxb6600923aMods
open Go.RowKit

set_option maxHeartbeats 2000000 in
theorem enc_walk (a0 : Option Addr) (n0 c0 : Nat) (S0 : Nat → ByteArray) (a1 : Option Addr) (n1 c1 : Nat) (S1 : Nat → ByteArray) (w : World)
    (h0 : StrsAt w a0 n0 S0) (h1 : StrsAt w a1 n1 S1) (b0 : n0 ≤ maxLen) (b1 : n1 ≤ maxLen)
    (z0 : a0 = none → n0 = 0 ∧ c0 = 0) (z1 : a1 = none → n1 = 0 ∧ c1 = 0) :
    Calls Trym.prog 5 #[.slice a0 n0 c0, .slice a1 n1 c1] w fun e w' => e = .returned (.bool true) ∧ Below w.heap.size w w' := by
  unfold maxLen at b0 b1
  go_enter Trym.func5, Trym.ntmps5
  go_wp2_with fail
  refine (bytes10_any a0 n0 c0 S0 a1 n1 c1 S1 w h0 h1 b0 b1).mono ?_
  rintro e w1 ⟨⟨b, rfl, hb⟩, rfl⟩
  cases b with
  | false =>
    go_wp2
    go_ret
    exact ⟨rfl, Below.refl _ _⟩
  | true =>
    obtain ⟨g0, g1⟩ := hb rfl
    clear hb
    have G0 : Hid (∀ i, i < n0 → (S0 i).size ≤ 1048576) := g0
    have G1 : Hid (∀ i, i < n1 → (S1 i).size ≤ 1048576) := g1
    clear g0 g1
    by_cases k0 : n0 ≤ 65536
    · by_cases k1 : n1 ≤ 65536
      · go_wp2_with fail
        refine (vbytes_any a0 n0 c0 S0 _ h0 k0 G0.out).mono ?_
        rintro e w2 ⟨⟨r0, rfl, x0, y0, v0⟩, rfl⟩
        go_wp2_with fail
        refine (vbytes_any a1 n1 c1 S1 _ h1 k1 G1.out).mono ?_
        rintro e w2 ⟨⟨r1, rfl, x1, y1, v1⟩, rfl⟩
        by_cases hr : r0 + r1 ≤ 1048576
        · have t0 := v0 (by omega)
          have t1 := v1 (by omega)
          clear v0 v1
          have l0 : (encTo (bytesF S0) n0).length ≤ 1048576 := by rw [enc_length]; omega
          have l1 : (encTo (bytesF S1) n1).length ≤ 1048576 := by rw [enc_length]; omega
          have HK : Hid (sameB n0 n1 S0 S1 = sameN (encTo (bytesF S0) n0).length (encTo (bytesF S1) n1).length (nthI (encTo (bytesF S0) n0)) (nthI (encTo (bytesF S1) n1))) := tests_agree n0 n1 S0 S1 G0.out G1.out
          go_wp2_with fail
          refine (cloneS_all a0 n0 c0 S0 _ h0 k0 z0).mono ?_
          rintro e w3 ⟨p0, d0, rfl, s0, q0, _⟩
          have h1' := h1.below q0
          go_wp2_with fail
          refine (cloneS_all a1 n1 c1 S1 _ h1' k1 z1).mono ?_
          rintro e w4 ⟨p1, d1, rfl, s1, q1, _⟩
          have B4 : Below w2.heap.size w2 w4 := q0.trans (q1.mono q0.size)
          have u0 := s0.below q1
          clear h1' s0 q0 q1 h0 h1 z0 z1
          go_wp2_with fail
          refine (zzSame_any p0 n0 d0 S0 p1 n1 d1 S1 _ u0 s1 k0 k1).mono ?_
          rintro e w5 ⟨rfl, q2⟩
          have B5 := B4.trans (q2.mono B4.size)
          have u0' := u0.below q2
          have s1' := s1.below q2
          clear u0 s1 q2 B4
          go_wp2_with fail
          refine (encode_any p0 n0 d0 S0 _ u0' k0 t0).mono ?_
          rintro e w6 ⟨v, rfl, o0, q3⟩
          have B6 := B5.trans (q3.mono B5.size)
          have s1'' := s1'.below q3
          obtain ⟨e0, f0, hv0, y0⟩ := bytesAt_of o0
          rw [hv0]
          clear hv0 o0 B5 u0' s1' q3
          go_wp2_with fail
          refine (encode_any p1 n1 d1 S1 _ s1'' k1 t1).mono ?_
          rintro e w7 ⟨v', rfl, o1, q4⟩
          have B7 := B6.trans (q4.mono B6.size)
          have y0' := y0.below q4
          obtain ⟨e1, f1, hv1, y1⟩ := bytesAt_of o1
          rw [hv1]
          clear hv1 o1 B6 s1'' q4 y0
          go_wp2_with fail
          refine (bsame_any e0 _ f0 _ e1 _ f1 _ _ y0' y1 l0 l1).mono ?_
          rintro e w8 ⟨rfl, q5⟩
          have B8 := B7.trans (q5.mono B7.size)
          rw [← HK.out]
          go_wp2
          go_ret
          exact ⟨rfl, B8⟩
        · go_wp2
          go_ret
          exact ⟨rfl, Below.refl _ _⟩
      · go_wp2
        go_ret
        exact ⟨rfl, Below.refl _ _⟩
    · go_wp2
      go_ret
      exact ⟨rfl, Below.refl _ _⟩
end Go.Proofs.Qxb6600923aMods
