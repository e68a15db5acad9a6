/-
  encodeVoters_b1 by its contract: it lays the length-prefixed encoding into a row of its own.
-/
import Derived.Test.Qxb6600923aModsMem
import Derived.Test.Qxb6600923aModsPlain
namespace Go.Proofs.Qxb6600923aMods
open Go.RowKit

theorem info5 : (Trym.prog.info? 5).map (fun i => (i.zero, i.size, i.bytes)) = some (some (.int .u8 0), 1, 1) := by kernel_rfl

/-- Bytes as cells. -/
def bvals (l : List Nat) : List Value := l.map fun (b : Nat) => .int .u8 (b : Int)

theorem bvals_snoc (l : List Nat) (b : Nat) (x : Int) (h : x = (b : Int)) : bvals l ++ [.int .u8 x] = bvals (l ++ [b]) := by subst h; simp [bvals]

/-- The names' bytes. -/
def bytesF (S : Nat → ByteArray) (i : Nat) : List UInt8 := (S i).data.toList

theorem leByte_int (l k : Nat) : (l : Int) / 2 ^ (8 * k) % 256 = (leByte l k : Int) := by
  unfold leByte
  have e : (256 : Nat) ^ k = 2 ^ (8 * k) := by rw [Nat.pow_mul]
  rw [e]
  simp

theorem enc_length (S : Nat → ByteArray) (k : Nat) : (encTo (bytesF S) k).length = 8 * k + sumTo S k := by
  induction k with
  | zero => rfl
  | succ k ih =>
    rw [encTo_succ, List.length_append, ih]
    simp only [enc1, List.length_append, List.length_map, List.length_range, sumTo, bytesF, Lib.size_eq]
    omega

theorem sumTo_le (S : Nat → ByteArray) {j n : Nat} (h : j < n) : sumTo S j + (S j).size ≤ sumTo S n := by
  induction n with
  | zero => omega
  | succ n ih =>
    by_cases e : j = n
    · subst e; simp [sumTo]
    · have := ih (by omega); simp only [sumTo]; omega

/-- E, and the first k bytes of a length. -/
def encA (E : List Nat) (l k : Nat) : List Nat := E ++ (List.range k).map (leByte l)
/-- E, the eight bytes of a length, and the name's first k bytes. -/
def encB (E : List Nat) (s : ByteArray) (k : Nat) : List Nat := E ++ (List.range 8).map (leByte s.size) ++ (s.data.toList.take k).map UInt8.toNat

theorem encA_zero (E : List Nat) (l : Nat) : encA E l 0 = E := by simp [encA]
theorem encA_succ (E : List Nat) (l k : Nat) : encA E l k ++ [leByte l k] = encA E l (k + 1) := by
  unfold encA
  rw [List.range_succ, List.map_append, List.append_assoc]
  rfl
theorem encB_zero (E : List Nat) (s : ByteArray) : encB E s 0 = encA E s.size 8 := by simp [encB, encA]
theorem encB_succ (E : List Nat) (s : ByteArray) (k : Nat) (h : k < s.size) : encB E s k ++ [s[k].toNat] = encB E s (k + 1) := by
  unfold encB
  rw [List.take_succ_eq_append_getElem (by simpa using h), List.map_append, ← List.append_assoc]
  rfl
theorem encB_done (S : Nat → ByteArray) (j : Nat) (E : List Nat) : encB E (S j) (S j).size = E ++ enc1 (bytesF S j) := by
  rw [encB, enc1, bytesF, ← Lib.size_eq, List.take_of_length_le (by rw [← Lib.size_eq]; exact Nat.le_refl _), List.append_assoc]

theorem owns_block {w : World} {base : Nat} {e : TypeId} {size : Nat} {v : Value} {n : Nat} {xs : List Value} (h : w.ownsRow base e size v n xs) : ∀ k, v.ownBlock = some k → base ≤ k := by
  intro k hk
  rcases h.2 with ⟨rfl, _⟩ | ⟨g, cap, cur, rfl, hb, _⟩
  · cases hk
  · simp only [Value.ownBlock, Option.some.injEq] at hk
    omega

theorem owns8 {w : World} {B k l : Nat} {v : Value} {E : List Nat} (h : w.ownsRow B 5 1 v (E.length + k) (bvals (encA E l k))) (e : k = 8) : w.ownsRow B 5 1 v (E.length + 8) (bvals (encA E l 8)) := by
  subst e
  exact h

theorem ownsDone {w : World} {B q j : Nat} {v : Value} {E : List Nat} {S : Nat → ByteArray} (h : w.ownsRow B 5 1 v (E.length + 8 + q) (bvals (encB E (S j) q))) (e : q = (S j).size) (he : encTo (bytesF S) (j + 1) = E ++ enc1 (bytesF S j)) :
    w.ownsRow B 5 1 v (encTo (bytesF S) (j + 1)).length (bvals (encTo (bytesF S) (j + 1))) := by
  subst e
  rw [encB_done, ← he] at h
  have h2 : E.length + 8 + (S j).size = (encTo (bytesF S) (j + 1)).length := by
    rw [he, List.length_append, enc1, bytesF]
    simp only [List.length_append, List.length_map, List.length_range, ← Lib.size_eq]
    omega
  rw [h2] at h
  exact h

set_option maxHeartbeats 2000000 in
theorem encode_any (a : Option Addr) (n c : Nat) (S : Nat → ByteArray) (w : World) (h : StrsAt w a n S) (hn : n ≤ 65536) (hs : 16 * n + sumTo S n ≤ 1048576) :
    Calls Trym.prog 15 #[.slice a n c] w fun e w' => ∃ v, e = .returned v ∧ w'.ownsRow w.heap.size 5 1 v (encTo (bytesF S) n).length (bvals (encTo (bytesF S) n)) ∧ Below w.heap.size w w' := by
  obtain ⟨i0, hi, hz0, hz1, hz2⟩ := info_parts info5
  go_enter Trym.func15, Trym.ntmps15
  go_wp2
  go_loopw [3, 4] (fun v i wr => ∃ j : Nat, j ≤ n ∧ i = .int .i64 j ∧ wr.ownsRow w.heap.size 5 1 v (encTo (bytesF S) j).length (bvals (encTo (bytesF S) j)) ∧ Below w.heap.size w wr) (fun _ i _ => n - (intOf i).toNat)
  case atStart => exact ⟨0, Nat.zero_le _, rfl, World.ownsRow_nil w w.heap.size 5 1, Below.refl _ _⟩
  case round =>
    obtain ⟨j, hj, rfl, hown, hbel⟩ := hrel
    by_cases hlt : j < n
    · rcases h with h0 | ⟨b, off, ha, hb, hc⟩
      · omega
      have hck : wr.cell? ⟨b, off + j, none⟩ = some (.string (S j)) := (hbel.cell (p := ⟨b, off + j, none⟩) hb).trans (hc j hlt)
      have hcj := hc j hlt
      have hsum := sumTo_le S hlt
      have hlen := enc_length S j
      have hsz : (S j).size ≤ 1048576 := by omega
      have hE : (encTo (bytesF S) j).length + (S j).size ≤ 1048576 := by omega
      have HE : Hid (encTo (bytesF S) (j + 1) = encTo (bytesF S) j ++ enc1 (bytesF S j)) := encTo_succ (bytesF S) j
      clear hc hsum hlen
      generalize encTo (bytesF S) j = E at *
      subst ha
      obtain ⟨wo, rfl⟩ : ∃ wo : World, wo = wr := ⟨_, rfl⟩
      go_wp2
      go_loopw [3, 6] (fun v i wr => ∃ k : Nat, k ≤ 8 ∧ i = .int .i64 k ∧ wr.ownsRow w.heap.size 5 1 v (E.length + k) (bvals (encA E (S j).size k)) ∧ Below w.heap.size w wr) (fun _ i _ => 8 - (intOf i).toNat)
      case atStart => exact ⟨0, by omega, rfl, by rw [encA_zero]; exact hown, hbel⟩
      case round =>
        clear hown hbel hck
        obtain ⟨k, hk, rfl, hown, hbel⟩ := hrel
        by_cases hlt2 : k < 8
        · go_wp2_with (at_builtin; refine wpList_append_own _ rfl (.tmp 25) (.tmp 32) 33 rfl w.heap.size 5 i0 (.int .u8 0) 1 1 Trym.underlying33 hi hz0 hz1 hz2 rfl (by decide) _ _ _ rfl (hown.alloc _) ⟨_, 0, none⟩ 1 1 [.int .u8 (((S j).size : Int) / 2 ^ (8 * k) % 256)] rfl rfl ?c1 ?c2 ?c3 ?c4 ?c5 ?_)
          case c1 => exact cell_one_new _ _ _
          case c2 => intro u hu; simp at hu; subst hu; rfl
          case c3 => unfold maxLen; omega
          case c4 => omega
          case c5 => have := hbel.size; simp; omega
          intro v' w1 hown' hgrow _
          have hbel1 : Below w.heap.size w w1 := (hbel.alloc hbel.size _).grown hgrow (by have := hbel.size; simp; omega) (owns_block hown)
          rw [bvals_snoc _ _ _ (leByte_int _ _), encA_succ] at hown'
          clear hown hgrow hbel
          go_wp2
          go_roundw
          case rel => exact ⟨k + 1, by omega, by go_num, hown', hbel1⟩
          case measure => simp [intOf]; omega
        · have hown8 := owns8 hown (by omega)
          clear hown
          have hck : wr.cell? ⟨b, off + j, none⟩ = some (.string (S j)) := (hbel.cell (p := ⟨b, off + j, none⟩) hb).trans hcj
          obtain ⟨wp, rfl⟩ : ∃ wp : World, wp = wr := ⟨_, rfl⟩
          go_wp2
          go_loopw [3, 8] (fun v i wr => ∃ k : Nat, k ≤ (S j).size ∧ i = .int .i64 k ∧ wr.ownsRow w.heap.size 5 1 v (E.length + 8 + k) (bvals (encB E (S j) k)) ∧ Below w.heap.size w wr) (fun _ i _ => (S j).size - (intOf i).toNat)
          case atStart => exact ⟨0, by omega, rfl, by rw [encB_zero]; exact hown8, hbel⟩
          case round =>
            clear hown8 hbel hck
            obtain ⟨q, hq, rfl, hown, hbel⟩ := hrel
            by_cases hlt3 : q < (S j).size
            · go_wp2_with (at_builtin; refine wpList_append_own _ rfl (.tmp 44) (.tmp 48) 33 rfl w.heap.size 5 i0 (.int .u8 0) 1 1 Trym.underlying33 hi hz0 hz1 hz2 rfl (by decide) _ _ _ rfl (hown.alloc _) ⟨_, 0, none⟩ 1 1 [.int .u8 ((S j)[q].toNat : Int)] rfl rfl ?d1 ?d2 ?d3 ?d4 ?d5 ?_)
              case d1 => exact cell_one_new _ _ _
              case d2 => intro u hu; simp at hu; subst hu; rfl
              case d3 => unfold maxLen; omega
              case d4 => omega
              case d5 => have := hbel.size; simp; omega
              intro v' w1 hown' hgrow _
              have hbel1 : Below w.heap.size w w1 := (hbel.alloc hbel.size _).grown hgrow (by have := hbel.size; simp; omega) (owns_block hown)
              rw [bvals_snoc _ _ _ rfl, encB_succ E (S j) q hlt3] at hown'
              clear hown hgrow hbel
              go_wp2
              go_roundw
              case rel => exact ⟨q + 1, by omega, by go_num, hown', hbel1⟩
              case measure => simp [intOf]; omega
            · have ek : q = (S j).size := by omega
              have hown' := ownsDone hown ek HE.out
              clear hown
              go_wp2
              go_roundw
              case rel => exact ⟨j + 1, by omega, by go_num, hown', hbel⟩
              case measure => simp [intOf]; omega
    · have ej : j = n := by omega
      subst ej
      go_wp2
      go_ret
      exact ⟨_, rfl, hown, hbel⟩
end Go.Proofs.Qxb6600923aMods
