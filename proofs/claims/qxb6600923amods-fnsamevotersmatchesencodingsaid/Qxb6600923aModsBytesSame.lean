/-
  bytesSame_b1 by its contract.
-/
import Derived.Test.Qxb6600923aModsVoters
import Derived.Test.Qxb6600923aModsEncode
namespace Go.Proofs.Qxb6600923aMods
open Go.RowKit

/-- A slice of n bytes. -/
def BytesAt (w : World) (a : Option Addr) (n : Nat) (F : Nat → Int) : Prop :=
  n = 0 ∨ ∃ b off, a = some ⟨b, off, none⟩ ∧ b < w.heap.size ∧ ∀ i, i < n → w.cell? ⟨b, off + i, none⟩ = some (.int .u8 (F i))

theorem BytesAt.below {w w' : World} {a : Option Addr} {n : Nat} {F : Nat → Int} (h : BytesAt w a n F) (hb : Below w.heap.size w w') : BytesAt w' a n F := by
  rcases h with h | ⟨b, off, h1, h2, h3⟩
  · exact .inl h
  · exact .inr ⟨b, off, h1, by have := hb.size; omega, fun i hi => (hb.cell (p := ⟨b, off + i, none⟩) h2).trans (h3 i hi)⟩

/-- What 'bytesSame_b1' answers. -/
def sameN (n m : Nat) (F G : Nat → Int) : Bool := n == m && (List.range n).all fun i => F i == G i

theorem sameN_iff (n m : Nat) (F G : Nat → Int) : sameN n m F G = true ↔ n = m ∧ ∀ i, i < n → F i = G i := by
  simp [sameN]

theorem sameN_false {n m : Nat} {F G : Nat → Int} (h : ¬ (n = m ∧ ∀ i, i < n → F i = G i)) : sameN n m F G = false := by
  cases g : sameN n m F G with
  | false => rfl
  | true => exact absurd ((sameN_iff n m F G).1 g) h

set_option maxHeartbeats 1000000 in
theorem bsame_any (a : Option Addr) (n c : Nat) (F : Nat → Int) (a' : Option Addr) (m c' : Nat) (G : Nat → Int) (w : World) (h : BytesAt w a n F) (h' : BytesAt w a' m G) (hn : n ≤ 1048576) (hm : m ≤ 1048576) :
    Calls Trym.prog 14 #[.slice a n c, .slice a' m c'] w fun e w' => e = .returned (.bool (sameN n m F G)) ∧ Below w.heap.size w w' := by
  by_cases hnm : n = m
  · subst hnm
    go_enter Trym.func14, Trym.ntmps14
    go_wp2
    go_loopw [5] (fun i wr => ∃ k : Nat, k ≤ n ∧ i = .int .i64 k ∧ (∀ j, j < k → F j = G j) ∧ Below w.heap.size w wr) (fun i _ => n - (intOf i).toNat)
    case atStart => exact ⟨0, Nat.zero_le _, rfl, fun j hj => by omega, Below.refl _ _⟩
    case round =>
      obtain ⟨k, hk, rfl, hall, hbel⟩ := hrel
      have HA : Hid (∀ j, j < k → F j = G j) := hall
      clear hall
      by_cases hlt : k < n
      · rcases h with h0 | ⟨b, off, ha, hb, hc⟩
        · omega
        rcases h' with h0 | ⟨b', off', ha', hb', hc'⟩
        · omega
        have hck : wr.cell? ⟨b, off + k, none⟩ = some (.int .u8 (F k)) := (hbel.cell (p := ⟨b, off + k, none⟩) hb).trans (hc k hlt)
        have hck' : wr.cell? ⟨b', off' + k, none⟩ = some (.int .u8 (G k)) := (hbel.cell (p := ⟨b', off' + k, none⟩) hb').trans (hc' k hlt)
        clear hc hc'
        subst ha
        subst ha'
        have hkI : (k : Int) < (n : Int) := by omega
        by_cases hst : F k = G k
        · have bst : (F k == G k) = true := by simpa using hst
          have HE : Hid (F k = G k) := hst
          clear hst
          go_wp2
          go_quiet (fail)
          go_wp2
          go_roundw
          case rel => exact ⟨k + 1, by omega, by go_num, all_succ HA.out HE.out, below_drewN hbel _⟩
          case measure => simp [intOf]; omega
        · have bst : (F k == G k) = false := by simpa using hst
          have HF : Hid (false = sameN n n F G) := (sameN_false (fun g => hst (g.2 k hlt))).symm
          clear hst
          go_wp2
          go_quiet (fail)
          go_wp2
          go_ret
          exact ⟨ret_bool HF.out, below_drewN hbel _⟩
      · have e : k = n := by omega
        subst e
        have HF : Hid (true = sameN k k F G) := ((sameN_iff k k F G).2 ⟨rfl, HA.out⟩).symm
        go_wp2
        go_ret
        exact ⟨ret_bool HF.out, hbel⟩
  · have bnm : ((n : Int) == (m : Int)) = false := by simp; omega
    have HF : Hid (false = sameN n m F G) := (sameN_false (fun g => hnm g.1)).symm
    clear hnm
    go_enter Trym.func14, Trym.ntmps14
    go_wp2
    go_ret
    exact ⟨ret_bool HF.out, Below.refl _ _⟩

/-- Byte number i of a list, as an int. -/
def nthI (l : List Nat) (i : Nat) : Int := (l.getD i 0 : Nat)

/-- An owned row of bytes, read as a slice of bytes. -/
theorem bytesAt_of {w : World} {base : Nat} {v : Value} {l : List Nat} (h : w.ownsRow base 5 1 v l.length (bvals l)) : ∃ a c, v = .slice a l.length c ∧ BytesAt w a l.length (nthI l) := by
  rcases h.2 with ⟨rfl, h0⟩ | ⟨g, cap, cur, rfl, _, hb, _, _, _, ht⟩
  · exact ⟨none, 0, by rw [h0], .inl h0⟩
  · refine ⟨_, _, rfl, .inr ⟨g, 0, rfl, ?_, fun i hi => ?_⟩⟩
    · exact (Array.getElem?_eq_some_iff.1 hb).1
    · rw [Nat.zero_add]
      have hg := h.cellAt i (by omega)
      rw [hg]
      simp [bvals, nthI, hi]

theorem nthI_eq {l l' : List Nat} (h1 : l.length = l'.length) (h2 : ∀ i, i < l.length → nthI l i = nthI l' i) : l = l' := by
  apply List.ext_getElem h1
  intro i hi hi'
  have := h2 i hi
  simp only [nthI, List.getD_eq_getElem?_getD, List.getElem?_eq_getElem hi, List.getElem?_eq_getElem hi', Option.getD_some] at this
  omega

/-- The plain law: the two tests agree. -/
theorem tests_agree (n m : Nat) (S T : Nat → ByteArray) (hS : ∀ i, i < n → (S i).size ≤ 1048576) (hT : ∀ i, i < m → (T i).size ≤ 1048576) :
    sameB n m S T = sameN (encTo (bytesF S) n).length (encTo (bytesF T) m).length (nthI (encTo (bytesF S) n)) (nthI (encTo (bytesF T) m)) := by
  have key := encTo_eq_iff n m (bytesF S) (bytesF T) (fun i hi => by have := hS i hi; rw [bytesF, ← Lib.size_eq]; omega) (fun i hi => by have := hT i hi; rw [bytesF, ← Lib.size_eq]; omega)
  rw [Bool.eq_iff_iff, sameB_iff, sameN_iff]
  constructor
  · intro h
    have e := key.2 h
    exact ⟨by rw [e], fun i _ => by rw [e]⟩
  · intro h
    exact key.1 (nthI_eq h.1 h.2)
end Go.Proofs.Qxb6600923aMods
