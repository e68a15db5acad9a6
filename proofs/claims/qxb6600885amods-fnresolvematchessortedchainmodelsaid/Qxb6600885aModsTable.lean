/-
  walkB1Table by its contract: a fresh table of mounts.
-/
import Derived.Test.Qxb6600885aModsMake
import Derived.Deep.RegionWith
namespace Go.Proofs.Qxb6600885aMods
open Go.RowKit

theorem info35 : (Trym.prog.info? 35).map (fun i => (i.zero, i.size, i.bytes)) = some (some (.agg #[.string ⟨#[]⟩, .string ⟨#[]⟩, .string ⟨#[]⟩, .int .i64 0]), 4, 56) := by kernel_rfl

/-- Cell number j of a mount at point s, on mount x. -/
def mcell (s : ByteArray) (x : Int) : Nat → Value
  | 0 => .string ⟨#[]⟩
  | 1 => .string ⟨#[]⟩
  | 2 => .string s
  | _ => .int .i64 x

theorem made35 (n : Nat) (w : World) (hn : n ≤ 1024) : (Instr.makeSlice 29 (.int .i64 (n : Int)) (.int .i64 (n : Int))).run Trym.prog w =
    .ok (.slice (some ⟨w.heap.size, 0, none⟩) n n) (w.alloc (.cells (madeCells #[.string ⟨#[]⟩, .string ⟨#[]⟩, .string ⟨#[]⟩, .int .i64 0] (n * 4)) 35)) := by
  obtain ⟨i, hi, hz0, hz1, hz2⟩ := info_parts info35
  have hr := run_make (P := Trym.prog) w 29 35 i _ Trym.underlying29 hi hz0 .i64 .i64 n n (by omega) (Int.le_refl _) (by rw [hz2]; omega) (by omega)
  rw [hz1] at hr
  simp only [Int.toNat_natCast] at hr
  exact hr

theorem rowIs_made4 (w : World) (n : Nat) : (w.alloc (.cells (madeCells #[.string ⟨#[]⟩, .string ⟨#[]⟩, .string ⟨#[]⟩, .int .i64 0] (n * 4)) 35)).rowIs w.heap.size 35 (n * 4) (fun t => mcell ⟨#[]⟩ 0 (t % 4)) :=
  ⟨_, Go.Deep.blk_alloc_new _ _, size_madeCells _ _, fun i hi => by
    have h4 : i % 4 = 0 ∨ i % 4 = 1 ∨ i % 4 = 2 ∨ i % 4 = 3 := by omega
    simp only [madeCells, Array.getElem?_map, Array.getElem?_range, hi, if_true, Option.map_some]
    rcases h4 with h | h | h | h <;> simp [h, mcell]⟩

/-- Cell t of the table while its first k mounts are laid. -/
def tcell (S : Nat → ByteArray) (ab : Nat → Int) (k t : Nat) : Value := if t < k * 4 then mcell (S (t / 4)) (ab (t / 4)) (t % 4) else mcell ⟨#[]⟩ 0 (t % 4)

/-- The world with mount k laid into block B. -/
def laidAt (wr : World) (B k : Nat) (s : ByteArray) (x : Int) : World :=
  (((wr.setCell ⟨B, k * 4, none⟩ (.string ⟨#[]⟩)).setCell ⟨B, k * 4 + 1, none⟩ (.string ⟨#[]⟩)).setCell ⟨B, k * 4 + 2, none⟩ (.string s)).setCell ⟨B, k * 4 + 3, none⟩ (.int .i64 x)

theorem tab_step {wr : World} {B n k : Nat} {S : Nat → ByteArray} {ab : Nat → Int} (h : wr.rowIs B 35 (n * 4) (tcell S ab k)) (x : Int) (hx : x = ab k) (o : Obj) :
    ((laidAt wr B k (S k) x).alloc o).drew.rowIs B 35 (n * 4) (tcell S ab (k + 1)) := by
  subst hx
  refine ((((((h.set (k * 4) _).set (k * 4 + 1) _).set (k * 4 + 2) _).set (k * 4 + 3) _).alloc o).drew).congr fun i _ => ?_
  by_cases e3 : i = k * 4 + 3
  · rw [if_pos e3, tcell, if_pos (by omega), show i / 4 = k by omega, show i % 4 = 3 by omega]; rfl
  rw [if_neg e3]
  by_cases e2 : i = k * 4 + 2
  · rw [if_pos e2, tcell, if_pos (by omega), show i / 4 = k by omega, show i % 4 = 2 by omega]; rfl
  rw [if_neg e2]
  by_cases e1 : i = k * 4 + 1
  · rw [if_pos e1, tcell, if_pos (by omega), show i / 4 = k by omega, show i % 4 = 1 by omega]; rfl
  rw [if_neg e1]
  by_cases e0 : i = k * 4
  · rw [if_pos e0, tcell, if_pos (by omega), show i / 4 = k by omega, show i % 4 = 0 by omega]; rfl
  rw [if_neg e0, tcell, tcell]
  by_cases e : i < k * 4
  · rw [if_pos e, if_pos (by omega)]
  · rw [if_neg e, if_neg (by omega)]

theorem tab_below {w wr : World} (h : Below w.heap.size w wr) (hz : w.heap.size < wr.heap.size) (k : Nat) (s : ByteArray) (x : Int) (o : Obj) : Below w.heap.size w ((laidAt wr w.heap.size k s x).alloc o).drew := by
  have h4 : Below w.heap.size w (laidAt wr w.heap.size k s x) := (((h.setCell (Nat.le_refl _) _).setCell (Nat.le_refl _) _).setCell (Nat.le_refl _) _).setCell (Nat.le_refl _) _
  exact (h4.alloc (by simp [laidAt, World.setCell]; omega) o).drew

/-- What 'walkB1Table' makes. -/
def Tabled (w : World) (n : Nat) (S : Nat → ByteArray) (ab : Nat → Int) (e : Ending) (w' : World) : Prop :=
  ∃ b, e = .returned (.slice (some ⟨b, 0, none⟩) n n) ∧ w'.rowIs b 35 (n * 4) (fun t => mcell (S (t / 4)) (ab (t / 4)) (t % 4)) ∧ Below w.heap.size w w'

set_option maxHeartbeats 1000000 in
theorem table_any (a : Option Addr) (n c : Nat) (S : Nat → ByteArray) (a' : Option Addr) (m c' : Nat) (A : Nat → Int) (w : World) (h : StrsAt w a n S) (h' : IntsAt w a' m A) (hn : n ≤ 1024) :
    Calls Trym.prog 14 #[.slice a n c, .slice a' m c'] w fun e w' => Tabled w n S (fun k => abv A m k) e w' := by
  have hmk := fun w => made35 n w hn
  go_enter Trym.func14, Trym.ntmps14
  go_wp2
  go_loopw [6] (fun i wr => ∃ k : Nat, k ≤ n ∧ i = .int .i64 k ∧ wr.rowIs w.heap.size 35 (n * 4) (tcell S (fun k => abv A m k) k) ∧ Below w.heap.size w wr) (fun i _ => n - (intOf i).toNat)
  case atStart => exact ⟨0, Nat.zero_le _, rfl, (rowIs_made4 w n).congr (fun i _ => by simp [tcell]), (Below.refl _ _).alloc (Nat.le_refl _) _⟩
  case round =>
    obtain ⟨k, hk, rfl, hrow, hbel⟩ := hrel
    by_cases hlt : k < n
    · rcases h with h0 | ⟨b, off, ha, hb, hc⟩
      · omega
      have hck : wr.cell? ⟨b, off + k, none⟩ = some (.string (S k)) := (hbel.cell (p := ⟨b, off + k, none⟩) hb).trans (hc k hlt)
      have hz : w.heap.size < wr.heap.size := hrow.lt
      have hbz : b < wr.heap.size := by omega
      subst ha
      have hj : ∀ j, j < 4 → wr.cell? ⟨w.heap.size, k * 4 + j, none⟩ = some (mcell ⟨#[]⟩ 0 j) := fun j hj => by
        have := hrow.cell (i := k * 4 + j) (by omega)
        rw [tcell, if_neg (by omega)] at this
        rwa [show (k * 4 + j) % 4 = j by omega] at this
      have c0 : wr.cell? ⟨w.heap.size, k * 4, none⟩ = some (.string ⟨#[]⟩) := hj 0 (by omega)
      have c1 : wr.cell? ⟨w.heap.size, k * 4 + 1, none⟩ = some (.string ⟨#[]⟩) := hj 1 (by omega)
      have c2 : wr.cell? ⟨w.heap.size, k * 4 + 2, none⟩ = some (.string ⟨#[]⟩) := hj 2 (by omega)
      have c3 : wr.cell? ⟨w.heap.size, k * 4 + 3, none⟩ = some (.int .i64 0) := hj 3 (by omega)
      have f0 := hrow.frozen (k * 4)
      have f1 := hrow.frozen (k * 4 + 1)
      have f2 := hrow.frozen (k * 4 + 2)
      have f3 := hrow.frozen (k * 4 + 3)
      clear hj
      go_wp2
      go_region_with (first | (go_at_call 17; refine (above_any _ _ _ A _ _ ?_).mono ?_; exact h'.below hbel.drew; rintro e w' ⟨rfl, rfl⟩) | (go_at_call 20; refine (newMount_any _ _ _).mono ?_; rintro e w' ⟨rfl, rfl⟩))
      all_goals
        go_wp2
        go_roundw
        case rel =>
          exact ⟨k + 1, by omega, by go_num, tab_step hrow _ rfl _, tab_below hbel hz k _ _ _⟩
        case measure => simp [intOf]; omega
    · go_wp2
      go_ret
      have e : k = n := by omega
      subst e
      exact ⟨_, rfl, hrow.congr (fun i hi => by simp [tcell, hi]), hbel⟩
end Go.Proofs.Qxb6600885aMods
