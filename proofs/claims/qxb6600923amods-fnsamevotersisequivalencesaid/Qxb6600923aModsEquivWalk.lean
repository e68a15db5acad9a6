/-
  The walk of FnSameVotersIsEquivalence (function 6): the Go text returns true and writes nothing that was there.
-/
import Derived.Test.Qxb6600923aModsVoters
namespace Go.Proofs.Qxb6600923aMods
open Go.RowKit

theorem sameB_refl (n : Nat) (S : Nat → ByteArray) : sameB n n S S = true := (sameB_iff n n S S).2 ⟨rfl, fun _ _ => rfl⟩
theorem sameB_comm (n m : Nat) (S T : Nat → ByteArray) : sameB n m S T = sameB m n T S := by
  rw [Bool.eq_iff_iff, sameB_iff, sameB_iff]
  exact ⟨fun h => ⟨h.1.symm, fun i hi => (h.2 i (by omega)).symm⟩, fun h => ⟨h.1.symm, fun i hi => (h.2 i (by omega)).symm⟩⟩
theorem sameB_trans {n m l : Nat} {S T U : Nat → ByteArray} (h1 : sameB n m S T = true) (h2 : sameB m l T U = true) : sameB n l S U = true := by
  rw [sameB_iff] at h1 h2 ⊢
  exact ⟨h1.1.trans h2.1, fun i hi => (h1.2 i hi).trans (h2.2 i (by omega))⟩

set_option maxHeartbeats 8000000 in
theorem equiv_walk (a0 : Option Addr) (n0 c0 : Nat) (S0 : Nat → ByteArray) (a1 : Option Addr) (n1 c1 : Nat) (S1 : Nat → ByteArray) (a2 : Option Addr) (n2 c2 : Nat) (S2 : Nat → ByteArray) (w : World)
    (h0 : StrsAt w a0 n0 S0) (h1 : StrsAt w a1 n1 S1) (h2 : StrsAt w a2 n2 S2) (b0 : n0 ≤ maxLen) (b1 : n1 ≤ maxLen) (b2 : n2 ≤ maxLen)
    (z0 : a0 = none → n0 = 0 ∧ c0 = 0) (z1 : a1 = none → n1 = 0 ∧ c1 = 0) (z2 : a2 = none → n2 = 0 ∧ c2 = 0) :
    Calls Trym.prog 6 #[.slice a0 n0 c0, .slice a1 n1 c1, .slice a2 n2 c2] w fun e w' => e = .returned (.bool true) ∧ Below w.heap.size w w' := by
  unfold maxLen at b0 b1 b2
  go_enter Trym.func6, Trym.ntmps6
  go_wp2_with fail
  refine (bytes16_any a0 n0 c0 S0 a1 n1 c1 S1 a2 n2 c2 S2 w h0 h1 h2 b0 b1 b2).mono ?_
  rintro e w1 ⟨⟨b, rfl, hb⟩, rfl⟩
  cases b with
  | false =>
    go_wp2
    go_ret
    exact ⟨rfl, Below.refl _ _⟩
  | true =>
    obtain ⟨g0, g1, g2⟩ := hb rfl
    clear hb
    by_cases k0 : n0 ≤ 65536
    · by_cases k1 : n1 ≤ 65536
      · by_cases k2 : n2 ≤ 65536
        · go_wp2_with fail
          refine (vbytes_any a0 n0 c0 S0 _ h0 k0 g0).mono ?_
          rintro e w2 ⟨⟨r0, rfl, _, _, _⟩, rfl⟩
          go_wp2_with fail
          refine (vbytes_any a1 n1 c1 S1 _ h1 k1 g1).mono ?_
          rintro e w2 ⟨⟨r1, rfl, _, _, _⟩, rfl⟩
          go_wp2_with fail
          refine (vbytes_any a2 n2 c2 S2 _ h2 k2 g2).mono ?_
          rintro e w2 ⟨⟨r2, rfl, _, _, _⟩, rfl⟩
          by_cases hr : r0 + r1 + r2 ≤ 1048576
          · clear g0 g1 g2
            go_wp2_with fail
            refine (cloneS_all a0 n0 c0 S0 _ h0 k0 z0).mono ?_
            rintro e w3 ⟨x0, d0, rfl, s0, q0, _⟩
            have h1' := h1.below q0
            have h2' := h2.below q0
            go_wp2_with fail
            refine (cloneS_all a1 n1 c1 S1 _ h1' k1 z1).mono ?_
            rintro e w4 ⟨x1, d1, rfl, s1, q1, _⟩
            have h2'' := h2'.below q1
            have s0' := s0.below q1
            go_wp2_with fail
            refine (cloneS_all a2 n2 c2 S2 _ h2'' k2 z2).mono ?_
            rintro e w5 ⟨x2, d2, rfl, s2, q2, _⟩
            have B4 : Below w2.heap.size w2 w4 := q0.trans (q1.mono q0.size)
            have B5 : Below w2.heap.size w2 w5 := B4.trans (q2.mono B4.size)
            have t0 := s0'.below q2
            have t1 := s1.below q2
            clear h1' h2' h2'' s0' s0 s1 q0 q1 q2 B4 h0 h1 h2 z0 z1 z2
            have e00 := sameB_refl n0 S0
            have e11 := sameB_refl n1 S1
            have ez := sameB_refl 0 S0
            have t2 := s2
            clear s2
            cases hX : sameB n0 n1 S0 S1 <;> cases hY : sameB n1 n2 S1 S2
            all_goals
              have hX' := (sameB_comm n1 n0 S1 S0).trans hX
              have hY' := (sameB_comm n2 n1 S2 S1).trans hY
              try have hZ := sameB_trans hX hY
              go_wp2_with fail
              refine (zzSame_any x0 n0 d0 S0 x1 n1 d1 S1 _ t0 t1 k0 k1).mono ?_
              rintro e w6 ⟨rfl, q⟩
              replace B5 := B5.trans (q.mono B5.size)
              replace t0 := t0.below q
              replace t1 := t1.below q
              replace t2 := t2.below q
              clear q
              go_wp2_with fail
              refine (zzSame_any x1 n1 d1 S1 x2 n2 d2 S2 _ t1 t2 k1 k2).mono ?_
              rintro e w7 ⟨rfl, q⟩
              replace B5 := B5.trans (q.mono B5.size)
              replace t0 := t0.below q
              replace t1 := t1.below q
              replace t2 := t2.below q
              clear q
              go_wp2_with fail
              refine (zzSame_any x0 n0 d0 S0 x2 n2 d2 S2 _ t0 t2 k0 k2).mono ?_
              rintro e w8 ⟨rfl, q⟩
              replace B5 := B5.trans (q.mono B5.size)
              replace t0 := t0.below q
              replace t1 := t1.below q
              replace t2 := t2.below q
              clear q
              go_wp2_with fail
              refine (zzSame_any x0 n0 d0 S0 x0 n0 d0 S0 _ t0 t0 k0 k0).mono ?_
              rintro e w9 ⟨rfl, q⟩
              replace B5 := B5.trans (q.mono B5.size)
              replace t0 := t0.below q
              replace t1 := t1.below q
              replace t2 := t2.below q
              clear q
              go_wp2_with fail
              refine (zzSame_any x1 n1 d1 S1 x1 n1 d1 S1 _ t1 t1 k1 k1).mono ?_
              rintro e w10 ⟨rfl, q⟩
              replace B5 := B5.trans (q.mono B5.size)
              replace t0 := t0.below q
              replace t1 := t1.below q
              replace t2 := t2.below q
              clear q
              go_wp2_with fail
              refine (zzSame_any x1 n1 d1 S1 x0 n0 d0 S0 _ t1 t0 k1 k0).mono ?_
              rintro e w11 ⟨rfl, q⟩
              replace B5 := B5.trans (q.mono B5.size)
              replace t0 := t0.below q
              replace t1 := t1.below q
              replace t2 := t2.below q
              clear q
              go_wp2_with fail
              refine (zzSame_any x2 n2 d2 S2 x1 n1 d1 S1 _ t2 t1 k2 k1).mono ?_
              rintro e w12 ⟨rfl, q⟩
              replace B5 := B5.trans (q.mono B5.size)
              replace t0 := t0.below q
              replace t1 := t1.below q
              replace t2 := t2.below q
              clear q
              go_wp2_with fail
              refine (zzSame_any x0 0 d0 S0 none 0 0 S0 _ (.inl rfl) (.inl rfl) (by omega) (by omega)).mono ?_
              rintro e w13 ⟨rfl, q⟩
              replace B5 := B5.trans (q.mono B5.size)
              clear q
              go_wp2_with fail
              refine (zzSame_any none 0 0 S0 x0 0 d0 S0 _ (.inl rfl) (.inl rfl) (by omega) (by omega)).mono ?_
              rintro e w14 ⟨rfl, q⟩
              replace B5 := B5.trans (q.mono B5.size)
              clear q
              go_wp2
              go_ret
              exact ⟨rfl, B5⟩
          · go_wp2
            go_ret
            exact ⟨rfl, Below.refl _ _⟩
        · go_wp2
          go_ret
          exact ⟨rfl, Below.refl _ _⟩
      · go_wp2
        go_ret
        exact ⟨rfl, Below.refl _ _⟩
    · go_wp2
      go_ret
      exact ⟨rfl, Below.refl _ _⟩
end Go.Proofs.Qxb6600923aMods
