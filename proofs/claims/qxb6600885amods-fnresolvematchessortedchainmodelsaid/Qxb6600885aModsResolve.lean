/-
  resolve by its contract: it computes 'resFrom'.
-/
import Derived.Test.Qxb6600885aModsStr
import Derived.Test.Qxb6600885aModsTable
import Derived.Test.Qxb6600885aModsPlain
import Derived.Deep.QuietTactic
import Derived.BigQuiet
namespace Go.Proofs.Qxb6600885aMods
open Go.RowKit

theorem ret_int {a b : Int} (h : a = b) : Ending.returned (.int .i64 a) = .returned (.int .i64 b) := by rw [h]

/-- Mount k's point holds the path. -/
def okF (p : ByteArray) (S : Nat → ByteArray) (k : Nat) : Bool := wOk p.data.toList (S k).data.toList
def lnF (S : Nat → ByteArray) (k : Nat) : Nat := (S k).size

theorem mount_cells {w : World} {b n : Nat} {S : Nat → ByteArray} {ab : Nat → Int} (h : w.rowIs b 35 (n * 4) (fun t => mcell (S (t / 4)) (ab (t / 4)) (t % 4))) {k : Nat} (hk : k < n) :
    w.cell? ⟨b, k * 4, none⟩ = some (.string ⟨#[]⟩) ∧ w.cell? ⟨b, k * 4 + 1, none⟩ = some (.string ⟨#[]⟩) ∧ w.cell? ⟨b, k * 4 + 2, none⟩ = some (.string (S k)) ∧ w.cell? ⟨b, k * 4 + 3, none⟩ = some (.int .i64 (ab k)) := by
  have hj : ∀ j, j < 4 → w.cell? ⟨b, k * 4 + j, none⟩ = some (mcell (S k) (ab k) j) := fun j hj => by
    have := h.cell (i := k * 4 + j) (by omega)
    rwa [show (k * 4 + j) % 4 = j by omega, show (k * 4 + j) / 4 = k by omega] at this
  exact ⟨hj 0 (by omega), hj 1 (by omega), hj 2 (by omega), hj 3 (by omega)⟩

set_option maxHeartbeats 2000000 in
theorem resolve_any (b n : Nat) (S : Nat → ByteArray) (ab : Nat → Int) (p : ByteArray) (w : World)
    (hrow : w.rowIs b 35 (n * 4) (fun t => mcell (S (t / 4)) (ab (t / 4)) (t % 4))) (hn : n ≤ 1024) (hS : ∀ i, i < n → (S i).size ≤ 1048576) :
    Calls Trym.prog 26 #[.slice (some ⟨b, 0, none⟩) n n, .string p] w fun e w' => e = .returned (.int .i64 (resFrom (okF p S) (lnF S) ab n n (-1))) ∧ Below w.heap.size w w' := by
  have hbl := hrow.lt
  obtain ⟨R, hR⟩ : ∃ R, resFrom (okF p S) (lnF S) ab n n (-1) = R := ⟨_, rfl⟩
  rw [hR]
  have HR : Hid (resFrom (okF p S) (lnF S) ab n n (-1) = R) := hR
  clear hR
  have HS : Hid (∀ i, i < n → (S i).size ≤ 1048576) := hS
  clear hS
  have HW : Hid (w.rowIs b 35 (n * 4) (fun t => mcell (S (t / 4)) (ab (t / 4)) (t % 4))) := hrow
  clear hrow
  go_enter Trym.func26, Trym.ntmps26
  go_wp2
  go_loopw [5, 13] (fun inn cnt wr => ∃ (s : Nat) (i : Int), s ≤ n ∧ cnt = .int .i64 s ∧ inn = .int .i64 i ∧ resFrom (okF p S) (lnF S) ab n (n - s) i = R ∧ Below w.heap.size w wr) (fun _ cnt _ => n - (intOf cnt).toNat)
  case atStart => exact ⟨0, -1, Nat.zero_le _, rfl, rfl, HR.out, Below.refl _ _⟩
  case round =>
    obtain ⟨s, i, hs, rfl, rfl, hi, hbel⟩ := hrel
    have HI : Hid (resFrom (okF p S) (lnF S) ab n (n - s) i = R) := hi
    clear hi
    by_cases hlt : s < n
    · obtain ⟨wo, rfl⟩ : ∃ wo : World, wo = wr := ⟨_, rfl⟩
      go_wp2
      go_loopw [6, 17] (fun nx cnt wr => ∃ (k : Nat), k ≤ n ∧ cnt = .int .i64 k ∧ nx = .int .i64 (pickTo (okF p S) (lnF S) ab i k) ∧ Below w.heap.size w wr) (fun _ cnt _ => n - (intOf cnt).toNat)
      case atStart => exact ⟨0, Nat.zero_le _, rfl, rfl, hbel⟩
      case round =>
        obtain ⟨k, hk, rfl, rfl, hbel2⟩ := hrel
        by_cases hlt2 : k < n
        · obtain ⟨x0, x1, x2, x3⟩ := mount_cells HW.out hlt2
          have c0 : wr.cell? ⟨b, k * 4, none⟩ = some (.string ⟨#[]⟩) := (hbel2.cell (p := ⟨b, k * 4, none⟩) hbl).trans x0
          have c1 : wr.cell? ⟨b, k * 4 + 1, none⟩ = some (.string ⟨#[]⟩) := (hbel2.cell (p := ⟨b, k * 4 + 1, none⟩) hbl).trans x1
          have c2 : wr.cell? ⟨b, k * 4 + 2, none⟩ = some (.string (S k)) := (hbel2.cell (p := ⟨b, k * 4 + 2, none⟩) hbl).trans x2
          have c3 : wr.cell? ⟨b, k * 4 + 3, none⟩ = some (.int .i64 (ab k)) := (hbel2.cell (p := ⟨b, k * 4 + 3, none⟩) hbl).trans x3
          have hsz := HS.out k hlt2
          have hbz : b < wr.heap.size := by have := hbel2.size; omega
          clear x0 x1 x2 x3
          generalize hq : pickTo (okF p S) (lnF S) ab i k = q
          cases hok : wOk p.data.toList (S k).data.toList with
          | false =>
            have HN : Hid (pickTo (okF p S) (lnF S) ab i (k + 1) = q) := by
              show pickTo (okF p S) (lnF S) ab i (k + 1) = q
              rw [pickTo, if_neg (fun h => by have h1 : wOk p.data.toList (S k).data.toList = true := h.1; rw [hok] at h1; cases h1), hq]
            clear hq
            go_wp2_with (go_at_call 27; refine (within_any _ _ _ (by omega)).mono ?_; rintro e w' ⟨rfl, rfl⟩)
            go_quiet (fail)
            go_wp2
            go_roundw
            case rel => exact ⟨k + 1, by omega, by go_num, by rw [HN.out], below_drewN (hbel2.alloc hbel2.size _) _⟩
            case measure => simp [intOf]; omega
          | true =>
            have hok' : okF p S k = true := hok
            by_cases hab : ab k = i
            · have bab : (ab k == i) = true := by simpa using hab
              rcases pickTo_spec (ok := okF p S) (ln := lnF S) (ab := ab) i k with ⟨g, _⟩ | ⟨c, g, hck, _⟩
              · have HN : Hid (pickTo (okF p S) (lnF S) ab i (k + 1) = k) := by
                  show pickTo (okF p S) (lnF S) ab i (k + 1) = k
                  rw [pickTo, if_pos ⟨hok', hab, .inl (by omega)⟩]
                have hqq : q = -1 := by omega
                clear hq g hab hok'
                subst hqq
                go_wp2_with (go_at_call 27; refine (within_any _ _ _ (by omega)).mono ?_; rintro e w' ⟨rfl, rfl⟩)
                go_quiet (fail)
                go_wp2
                go_roundw
                case rel => exact ⟨k + 1, by omega, by go_num, by rw [HN.out], below_drewN (hbel2.alloc hbel2.size _) _⟩
                case measure => simp [intOf]; omega
              · have hqq : q = c := by omega
                obtain ⟨_, _, y2, _⟩ := mount_cells HW.out (show c < n by omega)
                have d2 : wr.cell? ⟨b, c * 4 + 2, none⟩ = some (.string (S c)) := (hbel2.cell (p := ⟨b, c * 4 + 2, none⟩) hbl).trans y2
                clear y2
                have hcn : c < n := by omega
                have hszc := HS.out c hcn
                by_cases hln : (S k).size < (S c).size
                · have HN : Hid (pickTo (okF p S) (lnF S) ab i (k + 1) = k) := by
                    show pickTo (okF p S) (lnF S) ab i (k + 1) = k
                    rw [pickTo, if_pos ⟨hok', hab, .inr (by rw [g, Int.toNat_natCast]; exact hln)⟩]
                  clear hq g hab hok'
                  subst hqq
                  go_wp2_with (go_at_call 27; refine (within_any _ _ _ (by omega)).mono ?_; rintro e w' ⟨rfl, rfl⟩)
                  go_quiet (fail)
                  go_wp2
                  go_roundw
                  case rel => exact ⟨k + 1, by omega, by go_num, by rw [HN.out], below_drewN (hbel2.alloc hbel2.size _) _⟩
                  case measure => simp [intOf]; omega
                · have HN : Hid (pickTo (okF p S) (lnF S) ab i (k + 1) = c) := by
                    show pickTo (okF p S) (lnF S) ab i (k + 1) = c
                    rw [pickTo, if_neg (fun h => h.2.2.elim (fun h => by omega) (fun h => hln (by rw [g, Int.toNat_natCast] at h; exact h))), g]
                  clear hq g hab hok'
                  subst hqq
                  go_wp2_with (go_at_call 27; refine (within_any _ _ _ (by omega)).mono ?_; rintro e w' ⟨rfl, rfl⟩)
                  go_quiet (fail)
                  go_wp2
                  go_roundw
                  case rel => exact ⟨k + 1, by omega, by go_num, by rw [HN.out], below_drewN (hbel2.alloc hbel2.size _) _⟩
                  case measure => simp [intOf]; omega
            · have bab : (ab k == i) = false := by simpa using hab
              have HN : Hid (pickTo (okF p S) (lnF S) ab i (k + 1) = q) := by
                show pickTo (okF p S) (lnF S) ab i (k + 1) = q
                rw [pickTo, if_neg (fun h => hab h.2.1), hq]
              clear hq hab hok'
              go_wp2_with (go_at_call 27; refine (within_any _ _ _ (by omega)).mono ?_; rintro e w' ⟨rfl, rfl⟩)
              go_quiet (fail)
              go_wp2
              go_roundw
              case rel => exact ⟨k + 1, by omega, by go_num, by rw [HN.out], below_drewN (hbel2.alloc hbel2.size _) _⟩
              case measure => simp [intOf]; omega
        · have ek : k = n := by omega
          subst ek
          generalize hq : pickTo (okF p S) (lnF S) ab i k = q
          by_cases hneg : q < 0
          · have HF : Hid (i = R) := by
              have h := HI.out
              rw [show k - s = (k - s - 1) + 1 by omega, resFrom, hq, if_pos hneg] at h
              exact h
            clear hq
            go_wp2
            go_ret
            exact ⟨ret_int HF.out, hbel2⟩
          · have HF : Hid (resFrom (okF p S) (lnF S) ab k (k - (s + 1)) q = R) := by
              have h := HI.out
              rw [show k - s = (k - (s + 1)) + 1 by omega, resFrom, hq, if_neg hneg] at h
              exact h
            clear hq
            go_wp2
            go_roundw
            case rel => exact ⟨s + 1, q, by omega, by go_num, rfl, HF.out, hbel2⟩
            case measure => simp [intOf]; omega
    · have HF : Hid (i = R) := by
        have h := HI.out
        rw [show n - s = 0 by omega] at h
        exact h
      go_wp2
      go_ret
      exact ⟨ret_int HF.out, hbel⟩

theorem zzResolve_any (b n : Nat) (S : Nat → ByteArray) (ab : Nat → Int) (p : ByteArray) (w : World)
    (hrow : w.rowIs b 35 (n * 4) (fun t => mcell (S (t / 4)) (ab (t / 4)) (t % 4))) (hn : n ≤ 1024) (hS : ∀ i, i < n → (S i).size ≤ 1048576) :
    Calls Trym.prog 13 #[.slice (some ⟨b, 0, none⟩) n n, .string p] w fun e w' => e = .returned (.int .i64 (resFrom (okF p S) (lnF S) ab n n (-1))) ∧ Below w.heap.size w w' := by
  have HR := resolve_any b n S ab p w hrow hn hS
  clear hrow hS
  go_enter Trym.func13, Trym.ntmps13
  go_wp2_with fail
  refine HR.mono ?_
  rintro e w' ⟨rfl, hb⟩
  go_wp2
  go_ret
  exact ⟨rfl, hb⟩
end Go.Proofs.Qxb6600885aMods
