/-
  walkB1ResolveModel by its contract: it computes the same 'resFrom' as resolve.
-/
import Derived.Test.Qxb6600885aModsResolve
import Derived.Test.Qxb6600885aModsSorts
namespace Go.Proofs.Qxb6600885aMods
open Go.RowKit

theorem made23 (n : Nat) (w : World) (hn : n ≤ 1024) : (Instr.makeSlice 23 (.int .i64 0) (.int .i64 (n : Int))).run Trym.prog w =
    .ok (.slice (some ⟨w.heap.size, 0, none⟩) 0 n) (w.alloc (.cells (madeCells #[.int .i64 0] n) 3)) := by
  obtain ⟨i, hi, hz0, hz1, hz2⟩ := info_parts info3
  have hr := run_make (P := Trym.prog) w 23 3 i _ Trym.underlying23 hi hz0 .i64 .i64 0 n (by omega) (by omega) (by rw [hz2]; omega) (by omega)
  rw [hz1] at hr
  simp only [Int.toNat_natCast, Nat.mul_one] at hr
  exact hr

/-- The candidates gathered so far, as cells. -/
def cvals (q : Nat) (C : Nat → Nat) : List Value := (List.range q).map fun t => .int .i64 (C t : Int)

theorem cvals_succ (q k : Nat) (C : Nat → Nat) : cvals q C ++ [.int .i64 (k : Int)] = cvals (q + 1) (fun t => if t = q then k else C t) := by
  unfold cvals
  rw [List.range_succ, List.map_append]
  congr 1
  · exact List.map_congr_left fun x hx => by
      show Value.int .i64 (C x : Int) = .int .i64 ((if x = q then k else C x : Nat) : Int)
      rw [if_neg (by have := List.mem_range.1 hx; omega)]
  · simp

/-- Block g holds the candidates C(0), .., C(q-1), and none of its cells is frozen. -/
def CRow (w : World) (g q : Nat) (C : Nat → Nat) : Prop := ∃ N f, w.rowIs g 3 N f ∧ q ≤ N ∧ ∀ t, t < q → f t = .int .i64 (C t : Int)

theorem CRow.cell {w : World} {g q : Nat} {C : Nat → Nat} (h : CRow w g q C) {t : Nat} (ht : t < q) : w.cell? ⟨g, t, none⟩ = some (.int .i64 (C t : Int)) := by
  obtain ⟨N, f, h1, h2, h3⟩ := h
  rw [h1.cell (by omega), h3 t ht]
theorem CRow.frozen {w : World} {g q : Nat} {C : Nat → Nat} (h : CRow w g q C) (t : Nat) : w.frozen? ⟨g, t, none⟩ = false := by
  obtain ⟨N, f, h1, h2, h3⟩ := h
  exact h1.frozen t
theorem CRow.lt {w : World} {g q : Nat} {C : Nat → Nat} (h : CRow w g q C) : g < w.heap.size := by
  obtain ⟨N, f, h1, h2, h3⟩ := h
  exact h1.lt
theorem CRow.drewN {w : World} {g q : Nat} {C : Nat → Nat} (h : CRow w g q C) (k : Nat) : CRow (w.drewN k) g q C := by
  obtain ⟨N, f, h1, h2, h3⟩ := h
  exact ⟨N, f, h1.of_block rfl, h2, h3⟩
theorem CRow.swap {w : World} {g q : Nat} {C : Nat → Nat} (h : CRow w g q C) (j : Nat) : CRow ((w.setCell ⟨g, j - 1, none⟩ (.int .i64 (C j : Int))).setCell ⟨g, j, none⟩ (.int .i64 (C (j - 1) : Int))) g q (swapAt C j) := by
  obtain ⟨N, f, h1, h2, h3⟩ := h
  refine ⟨N, _, (h1.set (j - 1) _).set j _, h2, fun t ht => ?_⟩
  unfold swapAt
  by_cases e : t = j
  · rw [if_pos e, if_pos e]
  · rw [if_neg e, if_neg e]
    by_cases e2 : t = j - 1
    · rw [if_pos e2, if_pos e2]
    · rw [if_neg e2, if_neg e2]; exact h3 t ht
theorem CRow.of_owns {w : World} {base g q n : Nat} {C : Nat → Nat} (h : w.ownsRow base 3 1 (.slice (some ⟨g, 0, none⟩) q n) q (cvals q C)) : CRow w g q C := by
  rcases h.2 with ⟨e, _⟩ | ⟨g', cap, cur, e, _, hb, hq, _, hs, ht⟩
  · cases e
  · simp only [Value.slice.injEq, Option.some.injEq, Addr.mk.injEq, and_true, true_and] at e
    obtain ⟨rfl, rfl⟩ := e
    refine ⟨cur.size, fun t => (cur[t]?).getD undef, ⟨cur, hb, rfl, fun i hi => by simp [hi]⟩, by omega, fun t htq => ?_⟩
    have hget : cur.toList[t]? = (cvals q C)[t]? := by rw [← ht, List.getElem?_take, if_pos (by omega)]
    rw [Array.getElem?_toList] at hget
    show (cur[t]?).getD undef = _
    rw [hget]
    simp [cvals, htq]

set_option maxHeartbeats 4000000 in
theorem model_any (a : Option Addr) (n c : Nat) (S : Nat → ByteArray) (a' : Option Addr) (m c' : Nat) (A : Nat → Int) (p : ByteArray) (w : World)
    (h : StrsAt w a n S) (h' : IntsAt w a' m A) (hn : n ≤ 1024) (hS : ∀ i, i < n → (S i).size ≤ 1048576) :
    Calls Trym.prog 15 #[.slice a n c, .slice a' m c', .string p] w fun e w' => e = .returned (.int .i64 (resFrom (okF p S) (lnF S) (fun k => abv A m k) n n (-1))) ∧ Below w.heap.size w w' := by
  have HS : Hid (∀ i, i < n → (S i).size ≤ 1048576) := hS
  clear hS
  obtain ⟨R, hR⟩ : ∃ R, resFrom (okF p S) (lnF S) (fun k => abv A m k) n n (-1) = R := ⟨_, rfl⟩
  rw [hR]
  have HR : Hid (resFrom (okF p S) (lnF S) (fun k => abv A m k) n n (-1) = R) := hR
  clear hR
  obtain ⟨i0, hi, hz0, hz1, hz2⟩ := info_parts info3
  go_enter Trym.func15, Trym.ntmps15
  go_wp2_with (at_make; refine wpList_make_own _ rfl _ _ 23 rfl w.heap.size 3 i0 (.int .i64 0) 1 Trym.underlying23 hi hz0 hz1 .i64 .i64 _ n rfl rfl rfl (by rw [hz2]; omega) (by unfold maxLen; omega) (Nat.le_refl _) ?_)
  intro wm hown0 hgrow0
  have hbel0 : Below w.heap.size w wm := (Below.refl _ _).grown hgrow0 (Nat.le_refl _) (fun k h => by cases h)
  clear hgrow0
  go_wp2
  go_loopw [8, 9] (fun v i wr => ∃ (k q : Nat) (C : Nat → Nat), k ≤ n ∧ i = .int .i64 k ∧ v = .slice (some ⟨w.heap.size, 0, none⟩) q n ∧ Gath (okF p S) k q C ∧ wr.ownsRow w.heap.size 3 1 (.slice (some ⟨w.heap.size, 0, none⟩) q n) q (cvals q C) ∧ Below w.heap.size w wr) (fun _ i _ => n - (intOf i).toNat)
  case atStart => exact ⟨0, 0, fun _ => 0, Nat.zero_le _, rfl, rfl, Gath.start _, hown0, hbel0⟩
  case round =>
    clear hown0 hbel0
    obtain ⟨k, q, C, hk, rfl, rfl, hg, hown, hbel⟩ := hrel
    by_cases hlt : k < n
    · rcases h with h0 | ⟨b, off, ha, hb, hc⟩
      · omega
      have hck : wr.cell? ⟨b, off + k, none⟩ = some (.string (S k)) := (hbel.cell (p := ⟨b, off + k, none⟩) hb).trans (hc k hlt)
      have hsz := HS.out k hlt
      clear hc
      subst ha
      cases hok : wOk p.data.toList (S k).data.toList with
      | false =>
        have hg' : Gath (okF p S) (k + 1) q C := hg.drop hok
        go_wp2_with (go_at_call 18; refine (holds_any _ _ _ (by omega)).mono ?_; rintro e w' ⟨rfl, rfl⟩)
        go_roundw
        case rel => exact ⟨k + 1, q, C, by omega, by go_num, rfl, hg', hown, hbel⟩
        case measure => simp [intOf]; omega
      | true =>
        have hg' := hg.keep hok
        have hqn : q < n := by have := hg.le; omega
        go_wp2_with (first | (go_at_call 18; refine (holds_any _ _ _ (by omega)).mono ?_; rintro e w' ⟨rfl, rfl⟩) | (at_builtin; refine wpList_append_fits _ rfl (.tmp 32) (.tmp 34) 23 rfl w.heap.size 3 i0 1 Trym.underlying23 hi hz1 w.heap.size q n _ rfl (hown.alloc _) ⟨_, 0, none⟩ 1 1 [.int .i64 (k : Int)] rfl rfl ?c1 ?c2 ?c3 ?_))
        case c1 => exact cell_one_new _ _ _
        case c2 => intro u hu; simp at hu; subst hu; rfl
        case c3 => omega
        intro w1 hown' hgrow
        have hbel1 : Below w.heap.size w w1 := (hbel.alloc hbel.size _).grown hgrow (by have := hbel.size; simp; omega) (fun k h => by cases h; exact Nat.le_refl _)
        rw [cvals_succ] at hown'
        clear hown hgrow hbel hg
        go_wp2
        go_roundw
        case rel => exact ⟨k + 1, q + 1, _, by omega, by go_num, rfl, hg', hown', hbel1⟩
        case measure => simp [intOf]; omega
    · have ek : k = n := by omega
      subst ek
      have hqk := hg.le
      have hO := hg.outer (ln := lnF S)
      have hC := CRow.of_owns hown
      clear hown hg hi hz0 hz1 hz2
      obtain ⟨wo, rfl⟩ : ∃ wo : World, wo = wr := ⟨_, rfl⟩
      go_wp2
      go_loopw [10] (fun cnt wr => ∃ (i : Nat) (C : Nat → Nat), cnt = .int .i64 i ∧ 1 ≤ i ∧ i ≤ q + 1 ∧ SOuter (okF p S) (lnF S) k q i C ∧ CRow wr w.heap.size q C ∧ Below w.heap.size w wr) (fun cnt _ => q - (intOf cnt).toNat)
      case atStart => exact ⟨1, C, rfl, Nat.le_refl _, by omega, hO, hC, hbel⟩
      case round =>
        clear hO hC hbel
        obtain ⟨i, C, rfl, hi1, hi2, hO, hC, hbel⟩ := hrel
        by_cases hiq : i < q
        · obtain ⟨wp, rfl⟩ : ∃ wp : World, wp = wr := ⟨_, rfl⟩
          have hI := hO.inner hiq
          clear hO
          go_wp2
          go_loopw [11] (fun jv wr => ∃ (j : Nat) (C : Nat → Nat), jv = .int .i64 j ∧ j ≤ i ∧ SInner (okF p S) (lnF S) k q i j C ∧ CRow wr w.heap.size q C ∧ Below w.heap.size w wr) (fun jv _ => (intOf jv).toNat)
          case atStart => exact ⟨i, C, rfl, Nat.le_refl _, hI, hC, hbel⟩
          case round =>
            clear hI hC hbel
            obtain ⟨j, C, rfl, hji, hI, hC, hbel⟩ := hrel
            rcases h with h0 | ⟨b, off, ha, hb, hc⟩
            · omega
            cases j with
            | zero =>
              have hO := hI.done (Nat.zero_le _) (.inl rfl)
              clear hc hI
              subst ha
              go_wp2
              go_quiet (fail)
              go_wp2
              go_roundw
              case rel => exact ⟨i + 1, C, by go_num, by omega, by omega, hO, hC.drewN _, below_drewN hbel _⟩
              case measure => simp [intOf]; omega
            | succ j =>
              have e1 := (hI.cand.mem j (by omega)).1
              have e2 := (hI.cand.mem (j + 1) (by omega)).1
              have g1 : wr.cell? ⟨w.heap.size, j, none⟩ = some (.int .i64 (C j : Int)) := hC.cell (by omega)
              have g2 : wr.cell? ⟨w.heap.size, j + 1, none⟩ = some (.int .i64 (C (j + 1) : Int)) := hC.cell (by omega)
              have f1 : wr.frozen? ⟨w.heap.size, j, none⟩ = false := hC.frozen j
              have f2 : wr.frozen? ⟨w.heap.size, j + 1, none⟩ = false := hC.frozen (j + 1)
              have s1 : wr.cell? ⟨b, off + C j, none⟩ = some (.string (S (C j))) := (hbel.cell (p := ⟨b, off + C j, none⟩) hb).trans (hc _ e1)
              have s2 : wr.cell? ⟨b, off + C (j + 1), none⟩ = some (.string (S (C (j + 1)))) := (hbel.cell (p := ⟨b, off + C (j + 1), none⟩) hb).trans (hc _ e2)
              have z1 := HS.out _ e1
              have z2 := HS.out _ e2
              have hjq : j + 1 < q := by omega
              have i1 : (j : Int) < (q : Int) := by omega
              have i2 : (j : Int) + 1 < (q : Int) := by omega
              have i3 : (C j : Int) < (k : Int) := by omega
              have i4 : (C (j + 1) : Int) < (k : Int) := by omega
              clear hc
              subst ha
              by_cases hls : (S (C (j + 1))).size < (S (C j)).size
              · have hI' := hI.step (by omega) hji hiq hls
                have hlsI : ((S (C (j + 1))).size : Int) < ((S (C j)).size : Int) := by omega
                go_wp2
                go_quiet (fail)
                go_wp2
                go_roundw
                case rel => exact ⟨j, swapAt C (j + 1), rfl, by omega, hI', (hC.drewN _).swap (j + 1), ((below_drewN hbel _).setCell (Nat.le_refl _) _).setCell (Nat.le_refl _) _⟩
                case measure => simp [intOf]
              · have hO := hI.done hji (.inr (by have := hls; simp [lnF]; omega))
                have hlsI : ¬ ((S (C (j + 1))).size : Int) < ((S (C j)).size : Int) := by omega
                go_wp2
                go_quiet (fail)
                go_wp2
                go_roundw
                case rel => exact ⟨i + 1, C, by go_num, by omega, by omega, hO, hC.drewN _, below_drewN hbel _⟩
                case measure => simp [intOf]; omega
        · have hO' := hO
          clear hO
          obtain ⟨wf, rfl⟩ : ∃ wf : World, wf = wr := ⟨_, rfl⟩
          have i5 := h'.below hbel
          go_wp2
          go_loop [13, 14] (fun inn st => ∃ (s : Nat) (x : Int), s ≤ k ∧ st = .int .i64 s ∧ inn = .int .i64 x ∧ resFrom (okF p S) (lnF S) (fun k => abv A m k) k (k - s) x = R) (fun _ st => k - (intOf st).toNat)
          case atStart => exact ⟨0, -1, Nat.zero_le _, rfl, rfl, HR.out⟩
          case round =>
            obtain ⟨s, x, hs, rfl, rfl, hx⟩ := hrel
            have HX : Hid (resFrom (okF p S) (lnF S) (fun k => abv A m k) k (k - s) x = R) := hx
            clear hx
            by_cases hsk : s < k
            · go_wp2
              go_loop [15, 16] (fun nx tt => ∃ t : Nat, t ≤ q ∧ tt = .int .i64 t ∧ nx = .int .i64 (-1) ∧ ∀ y, y < t → abv A m (C y) ≠ x) (fun _ tt => q - (intOf tt).toNat)
              case atStart => exact ⟨0, Nat.zero_le _, rfl, rfl, fun y hy => by omega⟩
              case round =>
                obtain ⟨t, ht, rfl, rfl, hno⟩ := hrel
                have HN : Hid (∀ y, y < t → abv A m (C y) ≠ x) := hno
                clear hno
                by_cases htq : t < q
                · have gt : wf.cell? ⟨w.heap.size, t, none⟩ = some (.int .i64 (C t : Int)) := hC.cell htq
                  by_cases hab : abv A m (C t) = x
                  · have bab : (abv A m (C t) == x) = true := by simpa using hab
                    have HP : Hid (resFrom (okF p S) (lnF S) (fun k => abv A m k) k (k - (s + 1)) (C t) = R) := by
                      have hp : pickTo (okF p S) (lnF S) (fun k => abv A m k) x k = C t := hO'.first (ab := fun k => abv A m k) (by omega) htq hab HN.out
                      have hx := HX.out
                      rw [show k - s = (k - (s + 1)) + 1 by omega, resFrom, hp, if_neg (by omega)] at hx
                      exact hx
                    clear hab
                    go_wp2_with (go_at_call 17; refine (above_any _ _ _ A _ _ i5).mono ?_; rintro e w' ⟨rfl, rfl⟩)
                    go_round
                    case rel => exact ⟨s + 1, _, by omega, by go_num, rfl, HP.out⟩
                    case measure => simp [intOf]; omega
                  · have bab : (abv A m (C t) == x) = false := by simpa using hab
                    have HN' : Hid (∀ y, y < t + 1 → abv A m (C y) ≠ x) := all_succ HN.out hab
                    clear hab
                    go_wp2_with (go_at_call 17; refine (above_any _ _ _ A _ _ i5).mono ?_; rintro e w' ⟨rfl, rfl⟩)
                    go_round
                    case rel => exact ⟨t + 1, by omega, by go_num, rfl, HN'.out⟩
                    case measure => simp [intOf]; omega
                · have etq : t = q := by omega
                  subst etq
                  have HF : Hid (x = R) := by
                    have hp : pickTo (okF p S) (lnF S) (fun k => abv A m k) x k = -1 := hO'.no (ab := fun k => abv A m k) HN.out
                    have hx := HX.out
                    rw [show k - s = (k - (s + 1)) + 1 by omega, resFrom, hp, if_pos (by decide)] at hx
                    exact hx
                  go_wp2
                  go_ret
                  exact ⟨ret_int HF.out, hbel⟩
            · have HF : Hid (x = R) := by
                have hx := HX.out
                rw [show k - s = 0 by omega] at hx
                exact hx
              go_wp2
              go_ret
              exact ⟨ret_int HF.out, hbel⟩
end Go.Proofs.Qxb6600885aMods
