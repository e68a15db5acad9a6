/-
  zzBytes_FnSameVotersIsEquivalence, cloneVoters_b1, sameVoters, ZZsameVoters: each by a contract.
-/
import Derived.Test.Qxb6600923aModsMem
namespace Go.Proofs.Qxb6600923aMods
open Go.RowKit

set_option maxHeartbeats 4000000 in
theorem bytes16_any (a : Option Addr) (n c : Nat) (S : Nat → ByteArray) (a' : Option Addr) (m c' : Nat) (T : Nat → ByteArray) (a'' : Option Addr) (l c'' : Nat) (U : Nat → ByteArray) (w : World)
    (h : StrsAt w a n S) (h' : StrsAt w a' m T) (h'' : StrsAt w a'' l U) (hn : n ≤ 9223372036854775807) (hm : m ≤ 9223372036854775807) (hl : l ≤ 9223372036854775807) :
    Calls Trym.prog 16 #[.slice a n c, .slice a' m c', .slice a'' l c''] w fun e w' => Small3 n m l S T U e ∧ w' = w := by
  by_cases hn1 : n ≤ 1048576
  · go_enter Trym.func16, Trym.ntmps16
    go_wp2
    go_loop [7, 8] (fun z i => ∃ k : Nat, k ≤ n ∧ i = .int .i64 k ∧ (∃ s : Int, z = .int .i64 s) ∧ ∀ j, j < k → (S j).size ≤ 1048576) (fun _ i => n - (intOf i).toNat)
    case atStart => exact ⟨0, Nat.zero_le _, rfl, ⟨_, rfl⟩, fun j hj => by omega⟩
    case round =>
      obtain ⟨k, hk, rfl, ⟨s, rfl⟩, hall⟩ := hrel
      have HA : Hid (∀ j, j < k → (S j).size ≤ 1048576) := hall
      clear hall
      by_cases hlt0 : k < n
      · rcases h with h0 | ⟨b, off, ha, hb, hc⟩
        · omega
        have hck := hc k hlt0
        clear hc
        subst ha
        by_cases hS : (S k).size ≤ 1048576
        · by_cases hs2 : wrap64 (s + (S k).size) ≤ 1048576
          · go_wp2
            go_round
            case rel => exact ⟨k + 1, by omega, by go_num, ⟨_, rfl⟩, all_succ HA.out hS⟩
            case measure => simp [intOf]; omega
          · go_wp2
            go_ret
            exact ⟨⟨_, rfl, fun h => by cases h⟩, rfl⟩
        · go_wp2
          go_ret
          exact ⟨⟨_, rfl, fun h => by cases h⟩, rfl⟩
      · have ek0 : k = n := by omega
        subst ek0
        by_cases hm0 : m ≤ 1048576
        · by_cases hq0 : wrap64 (s + m) ≤ 1048576
          · go_wp2
            go_loop [7, 9] (fun z i => ∃ k : Nat, k ≤ m ∧ i = .int .i64 k ∧ (∃ s : Int, z = .int .i64 s) ∧ ∀ j, j < k → (T j).size ≤ 1048576) (fun _ i => m - (intOf i).toNat)
            case atStart => exact ⟨0, Nat.zero_le _, rfl, ⟨_, rfl⟩, fun j hj => by omega⟩
            case round =>
              obtain ⟨k2, hk2, rfl, ⟨s2, rfl⟩, hall⟩ := hrel
              have HB : Hid (∀ j, j < k2 → (T j).size ≤ 1048576) := hall
              clear hall
              by_cases hlt1 : k2 < m
              · rcases h' with h0 | ⟨b, off, ha, hb, hc⟩
                · omega
                have hck := hc k2 hlt1
                clear hc
                subst ha
                by_cases hS : (T k2).size ≤ 1048576
                · by_cases hs2 : wrap64 (s2 + (T k2).size) ≤ 1048576
                  · go_wp2
                    go_round
                    case rel => exact ⟨k2 + 1, by omega, by go_num, ⟨_, rfl⟩, all_succ HB.out hS⟩
                    case measure => simp [intOf]; omega
                  · go_wp2
                    go_ret
                    exact ⟨⟨_, rfl, fun h => by cases h⟩, rfl⟩
                · go_wp2
                  go_ret
                  exact ⟨⟨_, rfl, fun h => by cases h⟩, rfl⟩
              · have ek1 : k2 = m := by omega
                subst ek1
                by_cases hm1 : l ≤ 1048576
                · by_cases hq1 : wrap64 (s2 + l) ≤ 1048576
                  · go_wp2
                    go_loop [7, 10] (fun z i => ∃ k : Nat, k ≤ l ∧ i = .int .i64 k ∧ (∃ s : Int, z = .int .i64 s) ∧ ∀ j, j < k → (U j).size ≤ 1048576) (fun _ i => l - (intOf i).toNat)
                    case atStart => exact ⟨0, Nat.zero_le _, rfl, ⟨_, rfl⟩, fun j hj => by omega⟩
                    case round =>
                      obtain ⟨k3, hk3, rfl, ⟨s3, rfl⟩, hall⟩ := hrel
                      have HC : Hid (∀ j, j < k3 → (U j).size ≤ 1048576) := hall
                      clear hall
                      by_cases hlt2 : k3 < l
                      · rcases h'' with h0 | ⟨b, off, ha, hb, hc⟩
                        · omega
                        have hck := hc k3 hlt2
                        clear hc
                        subst ha
                        by_cases hS : (U k3).size ≤ 1048576
                        · by_cases hs2 : wrap64 (s3 + (U k3).size) ≤ 1048576
                          · go_wp2
                            go_round
                            case rel => exact ⟨k3 + 1, by omega, by go_num, ⟨_, rfl⟩, all_succ HC.out hS⟩
                            case measure => simp [intOf]; omega
                          · go_wp2
                            go_ret
                            exact ⟨⟨_, rfl, fun h => by cases h⟩, rfl⟩
                        · go_wp2
                          go_ret
                          exact ⟨⟨_, rfl, fun h => by cases h⟩, rfl⟩
                      · have ek2 : k3 = l := by omega
                        subst ek2
                        go_wp2
                        go_ret
                        exact ⟨⟨_, rfl, fun _ => ⟨HA.out, HB.out, HC.out⟩⟩, rfl⟩
                  · go_wp2
                    go_ret
                    exact ⟨⟨_, rfl, fun h => by cases h⟩, rfl⟩
                · go_wp2
                  go_ret
                  exact ⟨⟨_, rfl, fun h => by cases h⟩, rfl⟩
          · go_wp2
            go_ret
            exact ⟨⟨_, rfl, fun h => by cases h⟩, rfl⟩
        · go_wp2
          go_ret
          exact ⟨⟨_, rfl, fun h => by cases h⟩, rfl⟩
  · go_enter Trym.func16, Trym.ntmps16
    go_wp2
    go_ret
    exact ⟨⟨_, rfl, fun h => by cases h⟩, rfl⟩

theorem info9 : (Trym.prog.info? 9).map (fun i => (i.zero, i.size, i.bytes)) = some (some (.string ByteArray.empty), 1, 16) := by kernel_rfl
theorem eq28 (w : World) (a : Option Addr) (n c n' c' : Nat) : (binOp .eql 28 (.slice a n c) (.slice none n' c')).run Trym.prog w = .ok (.bool a.isNone) w := Lib.run_eql_slice_nil w 28 9 a n c n' c' Trym.underlying28

/-- What a clone is: a slice of the same strings; of an empty one: nil, or an address. -/
def ClonedS (w : World) (n : Nat) (S : Nat → ByteArray) (e : Ending) (w' : World) : Prop :=
  ∃ a c, e = .returned (.slice a n c) ∧ StrsAt w' a n S ∧ Below w.heap.size w w' ∧ ((a = none ∧ n = 0 ∧ c = 0) ∨ ∃ b, a = some ⟨b, 0, none⟩ ∧ c = n)

set_option maxHeartbeats 1000000 in
theorem cloneS_nil (w : World) (S : Nat → ByteArray) : Calls Trym.prog 12 #[.slice none 0 0] w fun e w' => ClonedS w 0 S e w' := by
  have q28 := eq28
  go_enter Trym.func12, Trym.ntmps12
  go_wp2
  go_ret
  exact ⟨_, _, rfl, .inl rfl, Below.refl _ _, .inl ⟨rfl, rfl, rfl⟩⟩

set_option maxHeartbeats 1000000 in
theorem cloneS_any (x : Addr) (n c : Nat) (S : Nat → ByteArray) (w : World) (h : StrsAt w (some x) n S) (hn : n ≤ 65536) :
    Calls Trym.prog 12 #[.slice (some x) n c] w fun e w' => ClonedS w n S e w' := by
  have hmk := run_make_row' (P := Trym.prog) 28 9 (.string ByteArray.empty) 16 Trym.underlying28 info9 rfl .i64 .i64 n (by omega) (by omega)
  have q28 := eq28
  go_enter Trym.func12, Trym.ntmps12
  go_wp2
  go_loopw [4] (fun i wr => ∃ k : Nat, k ≤ n ∧ i = .int .i64 k ∧ wr.rowIs w.heap.size 9 n (fun t => if t < k then .string (S t) else .string ByteArray.empty) ∧ Below w.heap.size w wr) (fun i _ => n - (intOf i).toNat)
  case atStart => exact ⟨0, Nat.zero_le _, rfl, (World.rowIs_made w _ n 9).congr (fun i _ => by simp), (Below.refl _ _).alloc (Nat.le_refl _) _⟩
  case round =>
    obtain ⟨k, hk, rfl, hrow, hbel⟩ := hrel
    by_cases hlt : k < n
    · rcases h with h0 | ⟨b, off, ha, hb, hc⟩
      · omega
      have hck : wr.cell? ⟨b, off + k, none⟩ = some (.string (S k)) := (hbel.cell (p := ⟨b, off + k, none⟩) hb).trans (hc k hlt)
      have hcw : wr.cell? ⟨w.heap.size, k, none⟩ = some (.string ByteArray.empty) := by have := hrow.cell hlt; simpa using this
      have hfw : wr.frozen? ⟨w.heap.size, k, none⟩ = false := hrow.frozen k
      have R : (wr.setCell ⟨w.heap.size, k, none⟩ (.string (S k))).rowIs w.heap.size 9 n (fun t => if t < k + 1 then .string (S t) else .string ByteArray.empty) ∧ Below w.heap.size w (wr.setCell ⟨w.heap.size, k, none⟩ (.string (S k))) :=
        ⟨(hrow.set k (.string (S k))).congr (fun i _ => by
          by_cases e : i = k
          · subst e; simp
          · rw [if_neg e]
            by_cases e2 : i < k
            · rw [if_pos e2, if_pos (by omega)]
            · rw [if_neg e2, if_neg (by omega)]), hbel.setCell (Nat.le_refl _) _⟩
      clear hc hrow hbel
      injection ha with ha
      subst ha
      go_wp2
      go_roundw
      case rel => exact ⟨k + 1, by omega, by go_num, R.1, R.2⟩
      case measure => simp [intOf]; omega
    · go_wp2
      go_ret
      have e : k = n := by omega
      subst e
      exact ⟨_, _, rfl, .inr ⟨w.heap.size, 0, rfl, hrow.lt, fun i hi => by have := hrow.cell hi; simpa [hi] using this⟩, hbel, .inr ⟨_, rfl, rfl⟩⟩

theorem cloneS_all (a : Option Addr) (n c : Nat) (S : Nat → ByteArray) (w : World) (h : StrsAt w a n S) (hn : n ≤ 65536) (hnil : a = none → n = 0 ∧ c = 0) :
    Calls Trym.prog 12 #[.slice a n c] w fun e w' => ClonedS w n S e w' := by
  cases a with
  | none => obtain ⟨rfl, rfl⟩ := hnil rfl; exact cloneS_nil w S
  | some x => exact cloneS_any x n c S w h hn

/-- What 'sameVoters' answers. -/
def sameB (n m : Nat) (S T : Nat → ByteArray) : Bool := n == m && (List.range n).all fun i => (S i).data.toList == (T i).data.toList

theorem sameB_iff (n m : Nat) (S T : Nat → ByteArray) : sameB n m S T = true ↔ n = m ∧ ∀ i, i < n → (S i).data.toList = (T i).data.toList := by
  simp [sameB]

theorem sameB_false {n m : Nat} {S T : Nat → ByteArray} (h : ¬ (n = m ∧ ∀ i, i < n → (S i).data.toList = (T i).data.toList)) : sameB n m S T = false := by
  cases g : sameB n m S T with
  | false => rfl
  | true => exact absurd ((sameB_iff n m S T).1 g) h

theorem ret_bool {a b : Bool} (h : a = b) : Ending.returned (.bool a) = .returned (.bool b) := by rw [h]

set_option maxHeartbeats 1000000 in
theorem same_any (a : Option Addr) (n c : Nat) (S : Nat → ByteArray) (a' : Option Addr) (m c' : Nat) (T : Nat → ByteArray) (w : World) (h : StrsAt w a n S) (h' : StrsAt w a' m T) (hn : n ≤ 65536) (hm : m ≤ 65536) :
    Calls Trym.prog 17 #[.slice a n c, .slice a' m c'] w fun e w' => e = .returned (.bool (sameB n m S T)) ∧ Below w.heap.size w w' := by
  by_cases hnm : n = m
  · subst hnm
    go_enter Trym.func17, Trym.ntmps17
    go_wp2
    go_loopw [13] (fun i wr => ∃ k : Nat, k ≤ n ∧ i = .int .i64 k ∧ (∀ j, j < k → (S j).data.toList = (T j).data.toList) ∧ Below w.heap.size w wr) (fun i _ => n - (intOf i).toNat)
    case atStart => exact ⟨0, Nat.zero_le _, rfl, fun j hj => by omega, Below.refl _ _⟩
    case round =>
      obtain ⟨k, hk, rfl, hall, hbel⟩ := hrel
      have HA : Hid (∀ j, j < k → (S j).data.toList = (T j).data.toList) := hall
      clear hall
      by_cases hlt : k < n
      · rcases h with h0 | ⟨b, off, ha, hb, hc⟩
        · omega
        rcases h' with h0 | ⟨b', off', ha', hb', hc'⟩
        · omega
        have hck : wr.cell? ⟨b, off + k, none⟩ = some (.string (S k)) := (hbel.cell (p := ⟨b, off + k, none⟩) hb).trans (hc k hlt)
        have hck' : wr.cell? ⟨b', off' + k, none⟩ = some (.string (T k)) := (hbel.cell (p := ⟨b', off' + k, none⟩) hb').trans (hc' k hlt)
        clear hc hc'
        subst ha
        subst ha'
        have hkI : (k : Int) < (n : Int) := by omega
        by_cases hst : (S k).data.toList = (T k).data.toList
        · have bst : ((S k).toList == (T k).toList) = true := by simpa [Lib.toList_data] using hst
          have HE : Hid ((S k).data.toList = (T k).data.toList) := hst
          clear hst
          go_wp2
          go_quiet (fail)
          go_wp2
          go_roundw
          case rel => exact ⟨k + 1, by omega, by go_num, all_succ HA.out HE.out, below_drewN hbel _⟩
          case measure => simp [intOf]; omega
        · have bst : ((S k).toList == (T k).toList) = false := by simpa [Lib.toList_data] using hst
          have HF : Hid (false = sameB n n S T) := (sameB_false (fun g => hst (g.2 k hlt))).symm
          clear hst
          go_wp2
          go_quiet (fail)
          go_wp2
          go_ret
          exact ⟨ret_bool HF.out, below_drewN hbel _⟩
      · have e : k = n := by omega
        subst e
        have HF : Hid (true = sameB k k S T) := ((sameB_iff k k S T).2 ⟨rfl, HA.out⟩).symm
        go_wp2
        go_ret
        exact ⟨ret_bool HF.out, hbel⟩
  · have bnm : ((n : Int) == (m : Int)) = false := by simp; omega
    have HF : Hid (false = sameB n m S T) := (sameB_false (fun g => hnm g.1)).symm
    clear hnm
    go_enter Trym.func17, Trym.ntmps17
    go_wp2
    go_ret
    exact ⟨ret_bool HF.out, Below.refl _ _⟩

theorem zzSame_any (a : Option Addr) (n c : Nat) (S : Nat → ByteArray) (a' : Option Addr) (m c' : Nat) (T : Nat → ByteArray) (w : World) (h : StrsAt w a n S) (h' : StrsAt w a' m T) (hn : n ≤ 65536) (hm : m ≤ 65536) :
    Calls Trym.prog 13 #[.slice a n c, .slice a' m c'] w fun e w' => e = .returned (.bool (sameB n m S T)) ∧ Below w.heap.size w w' := by
  go_enter Trym.func13, Trym.ntmps13
  go_wp2_with fail
  refine (same_any a n c S a' m c' T w h h' hn hm).mono ?_
  rintro e w' ⟨rfl, hb⟩
  go_wp2
  go_ret
  exact ⟨rfl, hb⟩
end Go.Proofs.Qxb6600923aMods
