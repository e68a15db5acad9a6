/-
  The makers on the roads of seat b6600885aM: walkB1CloneStrings, walkB1CloneInts, ZZNewMount, walkB1Table: each by a contract.
-/
import Derived.Test.Qxb6600885aModsMem
import Derived.Lib.SliceRun
namespace Go.Proofs.Qxb6600885aMods
open Go.RowKit

theorem info9 : (Trym.prog.info? 9).map (fun i => (i.zero, i.size, i.bytes)) = some (some (.string ByteArray.empty), 1, 16) := by kernel_rfl
theorem info3 : (Trym.prog.info? 3).map (fun i => (i.zero, i.size, i.bytes)) = some (some (.int .i64 0), 1, 8) := by kernel_rfl

theorem eq22 (w : World) (a : Option Addr) (n c n' c' : Nat) : (binOp .eql 22 (.slice a n c) (.slice none n' c')).run Trym.prog w = .ok (.bool a.isNone) w := Lib.run_eql_slice_nil w 22 9 a n c n' c' Trym.underlying22
theorem eq23 (w : World) (a : Option Addr) (n c n' c' : Nat) : (binOp .eql 23 (.slice a n c) (.slice none n' c')).run Trym.prog w = .ok (.bool a.isNone) w := Lib.run_eql_slice_nil w 23 3 a n c n' c' Trym.underlying23

/-- What a clone is: a slice of the same strings. -/
def ClonedS (w : World) (n : Nat) (S : Nat → ByteArray) (e : Ending) (w' : World) : Prop :=
  ∃ a c, e = .returned (.slice a n c) ∧ StrsAt w' a n S ∧ Below w.heap.size w w'

set_option maxHeartbeats 1000000 in
theorem cloneS_nil (w : World) (S : Nat → ByteArray) : Calls Trym.prog 11 #[.slice none 0 0] w fun e w' => ClonedS w 0 S e w' := by
  have q22 := eq22
  go_enter Trym.func11, Trym.ntmps11
  go_wp2
  go_ret
  exact ⟨_, _, rfl, .inl rfl, Below.refl _ _⟩

set_option maxHeartbeats 1000000 in
theorem cloneS_any (x : Addr) (n c : Nat) (S : Nat → ByteArray) (w : World) (h : StrsAt w (some x) n S) (hn : n ≤ 1024) :
    Calls Trym.prog 11 #[.slice (some x) n c] w fun e w' => ClonedS w n S e w' := by
  have hmk := run_make_row' (P := Trym.prog) 22 9 (.string ByteArray.empty) 16 Trym.underlying22 info9 rfl .i64 .i64 n (by omega) (by omega)
  have q22 := eq22
  go_enter Trym.func11, Trym.ntmps11
  go_wp2
  go_loopw [4] (fun i wr => ∃ k : Nat, k ≤ n ∧ i = .int .i64 k ∧ wr.rowIs w.heap.size 9 n (fun t => if t < k then .string (S t) else .string ByteArray.empty) ∧ Below w.heap.size w wr) (fun i _ => n - (intOf i).toNat)
  case atStart => exact ⟨0, Nat.zero_le _, rfl, (World.rowIs_made w _ n 9).congr (fun i _ => by simp), (Below.refl _ _).alloc (Nat.le_refl _) _⟩
  case round =>
    obtain ⟨k, hk, rfl, hrow, hbel⟩ := hrel
    by_cases hlt : k < n
    · rcases h with h0 | ⟨b, off, ha, hb, hc⟩
      · omega
      have hck : wr.cell? ⟨b, off + k, none⟩ = some (.string (S k)) := (hbel.cell (p := ⟨b, off + k, none⟩) hb).trans (hc k hlt)
      have hcw : wr.cell? ⟨w.heap.size, k, none⟩ = some (.string ByteArray.empty) := by have := hrow.cell hlt; simpa using this
      have hfw : wr.frozen? ⟨w.heap.size, k, none⟩ = false := hrow.frozen k
      have R : (wr.setCell ⟨w.heap.size, k, none⟩ (.string (S k))).rowIs w.heap.size 9 n (fun t => if t < k + 1 then .string (S t) else .string ByteArray.empty) ∧ Below w.heap.size w (wr.setCell ⟨w.heap.size, k, none⟩ (.string (S k))) :=
        ⟨(hrow.set k (.string (S k))).congr (fun i _ => by
          by_cases e : i = k
          · subst e; simp
          · rw [if_neg e]
            by_cases e2 : i < k
            · rw [if_pos e2, if_pos (by omega)]
            · rw [if_neg e2, if_neg (by omega)]), hbel.setCell (Nat.le_refl _) _⟩
      clear hc hrow hbel
      injection ha with ha
      subst ha
      go_wp2
      go_roundw
      case rel => exact ⟨k + 1, by omega, by go_num, R.1, R.2⟩
      case measure => simp [intOf]; omega
    · go_wp2
      go_ret
      have e : k = n := by omega
      subst e
      exact ⟨_, _, rfl, .inr ⟨w.heap.size, 0, rfl, hrow.lt, fun i hi => by have := hrow.cell hi; simpa [hi] using this⟩, hbel⟩
/-- What a clone is: a slice of the same ints. -/
def ClonedI (w : World) (n : Nat) (A : Nat → Int) (e : Ending) (w' : World) : Prop :=
  ∃ a c, e = .returned (.slice a n c) ∧ IntsAt w' a n A ∧ Below w.heap.size w w'

set_option maxHeartbeats 1000000 in
theorem cloneI_nil (w : World) (A : Nat → Int) : Calls Trym.prog 12 #[.slice none 0 0] w fun e w' => ClonedI w 0 A e w' := by
  have q23 := eq23
  go_enter Trym.func12, Trym.ntmps12
  go_wp2
  go_ret
  exact ⟨_, _, rfl, .inl rfl, Below.refl _ _⟩

set_option maxHeartbeats 1000000 in
theorem cloneI_any (x : Addr) (n c : Nat) (A : Nat → Int) (w : World) (h : IntsAt w (some x) n A) (hn : n ≤ 1024) :
    Calls Trym.prog 12 #[.slice (some x) n c] w fun e w' => ClonedI w n A e w' := by
  have hmk := run_make_row' (P := Trym.prog) 23 3 (.int .i64 0) 8 Trym.underlying23 info3 rfl .i64 .i64 n (by omega) (by omega)
  have q23 := eq23
  go_enter Trym.func12, Trym.ntmps12
  go_wp2
  go_loopw [4] (fun i wr => ∃ k : Nat, k ≤ n ∧ i = .int .i64 k ∧ wr.rowIs w.heap.size 3 n (fun t => if t < k then .int .i64 (A t) else .int .i64 0) ∧ Below w.heap.size w wr) (fun i _ => n - (intOf i).toNat)
  case atStart => exact ⟨0, Nat.zero_le _, rfl, (World.rowIs_made w _ n 3).congr (fun i _ => by simp), (Below.refl _ _).alloc (Nat.le_refl _) _⟩
  case round =>
    obtain ⟨k, hk, rfl, hrow, hbel⟩ := hrel
    by_cases hlt : k < n
    · rcases h with h0 | ⟨b, off, ha, hb, hc⟩
      · omega
      have hck : wr.cell? ⟨b, off + k, none⟩ = some (.int .i64 (A k)) := (hbel.cell (p := ⟨b, off + k, none⟩) hb).trans (hc k hlt)
      have hcw : wr.cell? ⟨w.heap.size, k, none⟩ = some (.int .i64 0) := by have := hrow.cell hlt; simpa using this
      have hfw : wr.frozen? ⟨w.heap.size, k, none⟩ = false := hrow.frozen k
      have R : (wr.setCell ⟨w.heap.size, k, none⟩ (.int .i64 (A k))).rowIs w.heap.size 3 n (fun t => if t < k + 1 then .int .i64 (A t) else .int .i64 0) ∧ Below w.heap.size w (wr.setCell ⟨w.heap.size, k, none⟩ (.int .i64 (A k))) :=
        ⟨(hrow.set k (.int .i64 (A k))).congr (fun i _ => by
          by_cases e : i = k
          · subst e; simp
          · rw [if_neg e]
            by_cases e2 : i < k
            · rw [if_pos e2, if_pos (by omega)]
            · rw [if_neg e2, if_neg (by omega)]), hbel.setCell (Nat.le_refl _) _⟩
      clear hc hrow hbel
      injection ha with ha
      subst ha
      go_wp2
      go_roundw
      case rel => exact ⟨k + 1, by omega, by go_num, R.1, R.2⟩
      case measure => simp [intOf]; omega
    · go_wp2
      go_ret
      have e : k = n := by omega
      subst e
      exact ⟨_, _, rfl, .inr ⟨w.heap.size, 0, rfl, hrow.lt, fun i hi => by have := hrow.cell hi; simpa [hi] using this⟩, hbel⟩

theorem cloneS_all (a : Option Addr) (n c : Nat) (S : Nat → ByteArray) (w : World) (h : StrsAt w a n S) (hn : n ≤ 1024) (hnil : a = none → n = 0 ∧ c = 0) :
    Calls Trym.prog 11 #[.slice a n c] w fun e w' => ClonedS w n S e w' := by
  cases a with
  | none => obtain ⟨rfl, rfl⟩ := hnil rfl; exact cloneS_nil w S
  | some x => exact cloneS_any x n c S w h hn

theorem cloneI_all (a : Option Addr) (n c : Nat) (A : Nat → Int) (w : World) (h : IntsAt w a n A) (hn : n ≤ 1024) (hnil : a = none → n = 0 ∧ c = 0) :
    Calls Trym.prog 12 #[.slice a n c] w fun e w' => ClonedI w n A e w' := by
  cases a with
  | none => obtain ⟨rfl, rfl⟩ := hnil rfl; exact cloneI_nil w A
  | some x => exact cloneI_any x n c A w h hn

theorem newMount_any (p : ByteArray) (x : Int) (w : World) :
    Calls Trym.prog 20 #[.string p, .int .i64 x] w fun e w' => e = .returned (.agg #[.string ⟨#[]⟩, .string ⟨#[]⟩, .string p, .int .i64 x]) ∧ w' = w.alloc (.cells #[.string ⟨#[]⟩, .string ⟨#[]⟩, .string p, .int .i64 x] 35) := by
  go_enter Trym.func20, Trym.ntmps20
  go_wp2
  exact bodyPost_ret (v := .agg #[.string ⟨#[]⟩, .string ⟨#[]⟩, .string p, .int .i64 x]) (by simp [results, Trym.results20, go_sem]) rfl ⟨rfl, rfl⟩
end Go.Proofs.Qxb6600885aMods
