/-
  The walk of FnResolveEndsDeepestOnPath (function 4): the Go text returns true and writes nothing that was there.
-/
import Derived.Test.Qxb6600885aModsResolve
namespace Go.Proofs.Qxb6600885aMods
open Go.RowKit

set_option maxHeartbeats 2000000 in
theorem deep_walk (a0 : Option Addr) (n c0 : Nat) (S : Nat → ByteArray) (a1 : Option Addr) (m c1 : Nat) (A : Nat → Int) (p : ByteArray) (w : World)
    (h0 : StrsAt w a0 n S) (h1 : IntsAt w a1 m A) (hn : n ≤ maxLen) (hnil0 : a0 = none → n = 0 ∧ c0 = 0) (hnil1 : a1 = none → m = 0 ∧ c1 = 0) :
    Calls Trym.prog 4 #[.slice a0 n c0, .slice a1 m c1, .string p] w fun e w' => e = .returned (.bool true) ∧ Below w.heap.size w w' := by
  go_enter Trym.func4, Trym.ntmps4
  go_wp2_with fail
  refine (bytes16_any a0 n c0 S a1 m c1 p w h0 hn).mono ?_
  rintro e w1 ⟨⟨b, rfl⟩, rfl⟩
  cases b with
  | false =>
    go_wp2
    go_ret
    exact ⟨rfl, Below.refl _ _⟩
  | true =>
    go_wp2_with fail
    refine (tabBytes_any a0 n c0 S a1 m c1 p _ h0).mono ?_
    rintro e w2 ⟨⟨r, rfl, hr⟩, rfl⟩
    by_cases hr1 : r ≤ 1048576
    · obtain ⟨gn, gm, gp, gS⟩ := hr hr1
      clear hr
      have HS : Hid (∀ i, i < n → (S i).size ≤ 1048576) := gS
      clear gS
      go_wp2_with fail
      refine (cloneS_all a0 n c0 S _ h0 gn hnil0).mono ?_
      rintro e w1 ⟨b0, d0, rfl, k0, bel1⟩
      have h1' := h1.below bel1
      go_wp2_with fail
      refine (cloneI_all a1 m c1 A _ h1' gm hnil1).mono ?_
      rintro e w3 ⟨b1, d1, rfl, k1, bel2⟩
      have k0' := k0.below bel2
      go_wp2_with fail
      refine (table_any b0 n d0 S b1 m d1 A _ k0' k1 gn).mono ?_
      rintro e w4 ⟨bt, rfl, hrow, bel3⟩
      go_wp2_with fail
      refine (zzResolve_any bt n S (fun k => abv A m k) p _ hrow gn HS.out).mono ?_
      rintro e w5 ⟨rfl, bel4⟩
      have B3 : Below w2.heap.size w2 w3 := bel1.trans (bel2.mono bel1.size)
      have B4 : Below w2.heap.size w2 w4 := B3.trans (bel3.mono B3.size)
      have B5 : Below w2.heap.size w2 w5 := B4.trans (bel4.mono B4.size)
      have s5 : StrsAt w5 b0 n S := (k0'.below bel3).below bel4
      have i5 : IntsAt w5 b1 m A := (k1.below bel3).below bel4
      clear bel1 bel2 bel3 bel4 B3 B4 k0 k0' k1 h1' hrow h0 h1 hnil0 hnil1
      generalize hR : resFrom (okF p S) (lnF S) (fun k => abv A m k) n n (-1) = R
      obtain ⟨t, ht, hno⟩ := res_spec R hR
      clear hR
      have HT : Hid (Reach (okF p S) (fun k => abv A m k) n t R) := ht
      have HN : Hid (∀ x, x < n → okF p S x = true → abv A m x ≠ R) := hno
      clear ht hno
      by_cases hm1 : R = -1
      · subst hm1
        go_wp2
        go_loop [9] (fun i => ∃ k : Nat, k ≤ n ∧ i = .int .i64 k) (fun i => n - (intOf i).toNat)
        case atStart => exact ⟨0, Nat.zero_le _, rfl⟩
        case round =>
          obtain ⟨k, hk, rfl⟩ := hrel
          by_cases hlt : k < n
          · rcases s5 with s0 | ⟨b, off, ha, hb, hc⟩
            · omega
            have hck := hc k hlt
            have hsz := HS.out k hlt
            clear hc
            subst ha
            by_cases hab : abv A m k = -1
            · have bab : (abv A m k == -1) = true := by simpa using hab
              have hok : wOk p.data.toList (S k).data.toList = false := by
                cases g : wOk p.data.toList (S k).data.toList with
                | false => rfl
                | true => exact absurd hab (HN.out k hlt g)
              clear hab
              go_wp2_with (first | (go_at_call 17; refine (above_any _ _ _ A _ _ i5).mono ?_; rintro e w' ⟨rfl, rfl⟩) | (go_at_call 18; refine (holds_any _ _ _ (by omega)).mono ?_; rintro e w' ⟨rfl, rfl⟩))
              go_round
              case rel => exact ⟨k + 1, by omega, by go_num⟩
              case measure => simp [intOf]; omega
            · have bab : (abv A m k == -1) = false := by simpa using hab
              clear hab
              go_wp2_with (first | (go_at_call 17; refine (above_any _ _ _ A _ _ i5).mono ?_; rintro e w' ⟨rfl, rfl⟩) | (go_at_call 18; refine (holds_any _ _ _ (by omega)).mono ?_; rintro e w' ⟨rfl, rfl⟩))
              go_round
              case rel => exact ⟨k + 1, by omega, by go_num⟩
              case measure => simp [intOf]; omega
          · go_wp2
            go_ret
            exact ⟨rfl, B5⟩
      · obtain ⟨t', r, rfl, hrn, hor, hto⟩ : ∃ t' : Nat, ∃ r : Nat, R = r ∧ r < n ∧ okF p S r = true ∧ Reach (okF p S) (fun k => abv A m k) n t' (abv A m r) := by
          have h := HT.out
          cases t with
          | zero => exact absurd h hm1
          | succ t' => obtain ⟨r, h1, h2, h3, h4⟩ := h; exact ⟨t', r, h1, h2, h3, h4⟩
        have htn : t' + 1 ≤ n := Reach.le (ok := okF p S) (ab := fun k => abv A m k) (n := n) (t := t' + 1) (c := (r : Int)) ⟨r, rfl, hrn, hor, hto⟩
        have HO : Hid (Reach (okF p S) (fun k => abv A m k) n t' (abv A m r)) := hto
        have hwr : wOk p.data.toList (S r).data.toList = true := hor
        clear hto hor HT
        have bm1 : ((r : Int) == -1) = false := by simp
        clear hm1
        have hd1 : decide ((r : Int) < 0) = false := decide_eq_false (by omega)
        have hd2 : decide (n ≤ r) = false := decide_eq_false (by omega)
        rcases s5 with s0 | ⟨b, off, ha, hb, hc⟩
        · omega
        have HC : Hid (∀ i, i < n → w5.cell? ⟨b, off + i, none⟩ = some (.string (S i))) := hc
        have hcr := hc r hrn
        have hszr := HS.out r hrn
        clear hc
        subst ha
        go_wp2_with (first | (go_at_call 17; refine (above_any _ _ _ A _ _ i5).mono ?_; rintro e w' ⟨rfl, rfl⟩) | (go_at_call 18; refine (holds_any _ _ _ (by omega)).mono ?_; rintro e w' ⟨rfl, rfl⟩))
        go_loop [10] (fun i => ∃ k : Nat, k ≤ n ∧ i = .int .i64 k) (fun i => n - (intOf i).toNat)
        case atStart => exact ⟨0, Nat.zero_le _, rfl⟩
        case round =>
          obtain ⟨k, hk, rfl⟩ := hrel
          by_cases hlt : k < n
          · have hck := HC.out k hlt
            have hsz := HS.out k hlt
            by_cases hab : abv A m k = r
            · have bab : (abv A m k == (r : Int)) = true := by simpa using hab
              have hok : wOk p.data.toList (S k).data.toList = false := by
                cases g : wOk p.data.toList (S k).data.toList with
                | false => rfl
                | true => exact absurd hab (HN.out k hlt g)
              clear hab
              go_wp2_with (first | (go_at_call 17; refine (above_any _ _ _ A _ _ i5).mono ?_; rintro e w' ⟨rfl, rfl⟩) | (go_at_call 18; refine (holds_any _ _ _ (by omega)).mono ?_; rintro e w' ⟨rfl, rfl⟩))
              go_round
              case rel => exact ⟨k + 1, by omega, by go_num⟩
              case measure => simp [intOf]; omega
            · have bab : (abv A m k == (r : Int)) = false := by simpa using hab
              clear hab
              go_wp2_with (first | (go_at_call 17; refine (above_any _ _ _ A _ _ i5).mono ?_; rintro e w' ⟨rfl, rfl⟩) | (go_at_call 18; refine (holds_any _ _ _ (by omega)).mono ?_; rintro e w' ⟨rfl, rfl⟩))
              go_round
              case rel => exact ⟨k + 1, by omega, by go_num⟩
              case measure => simp [intOf]; omega
          · go_wp2_with (first | (go_at_call 17; refine (above_any _ _ _ A _ _ i5).mono ?_; rintro e w' ⟨rfl, rfl⟩) | (go_at_call 18; refine (holds_any _ _ _ (by omega)).mono ?_; rintro e w' ⟨rfl, rfl⟩))
            go_loop [11, 12] (fun cu st => ∃ (s t : Nat) (c : Int), s + t + 1 ≤ n ∧ st = .int .i64 s ∧ cu = .int .i64 c ∧ Reach (okF p S) (fun k => abv A m k) n t c) (fun _ st => n - (intOf st).toNat)
            case atStart => exact ⟨0, t', _, by omega, rfl, rfl, HO.out⟩
            case round =>
              obtain ⟨s, t, c, hst, rfl, rfl, hre⟩ := hrel
              by_cases hc1 : c = -1
              · subst hc1
                clear hre
                go_wp2
                go_ret
                exact ⟨rfl, B5⟩
              · obtain ⟨t2, q, rfl, hqn, hoq, htq, het⟩ : ∃ t2 : Nat, ∃ q : Nat, c = q ∧ q < n ∧ okF p S q = true ∧ Reach (okF p S) (fun k => abv A m k) n t2 (abv A m q) ∧ t2 + 1 = t := by
                  cases t with
                  | zero => exact absurd hre hc1
                  | succ t' => obtain ⟨r, h1, h2, h3, h4⟩ := hre; exact ⟨t', r, h1, h2, h3, h4, rfl⟩
                have HQ : Hid (Reach (okF p S) (fun k => abv A m k) n t2 (abv A m q)) := htq
                have hwq : wOk p.data.toList (S q).data.toList = true := hoq
                have bq : ((q : Int) == -1) = false := by simp
                have hcq := HC.out q hqn
                have hszq := HS.out q hqn
                have hsn : s + t2 + 2 ≤ n := by omega
                clear hre htq hoq hc1 het hst
                go_wp2_with (first | (go_at_call 17; refine (above_any _ _ _ A _ _ i5).mono ?_; rintro e w' ⟨rfl, rfl⟩) | (go_at_call 18; refine (holds_any _ _ _ (by omega)).mono ?_; rintro e w' ⟨rfl, rfl⟩))
                go_round
                case rel => exact ⟨s + 1, t2, _, by omega, by go_num, rfl, HQ.out⟩
                case measure => simp [intOf]; omega
    · go_wp2
      go_ret
      exact ⟨rfl, Below.refl _ _⟩
end Go.Proofs.Qxb6600885aMods
