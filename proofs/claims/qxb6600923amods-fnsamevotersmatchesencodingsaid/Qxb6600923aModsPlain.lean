/-
  The plain mathematics of the length-prefixed encoding: no Go in sight.
-/
namespace Go.Proofs.Qxb6600923aMods

/-- Byte number k of l, least byte first. -/
def leByte (l k : Nat) : Nat := l / 256 ^ k % 256

/-- One name: eight bytes of its length, then its bytes. -/
def enc1 (s : List UInt8) : List Nat := (List.range 8).map (leByte s.length) ++ s.map UInt8.toNat

def encAll : List (List UInt8) → List Nat
  | [] => []
  | s :: r => enc1 s ++ encAll r

theorem leByte_inj {l m : Nat} (hl : l < 18446744073709551616) (hm : m < 18446744073709551616) (h : (List.range 8).map (leByte l) = (List.range 8).map (leByte m)) : l = m := by
  have h8 : ∀ k, k < 8 → leByte l k = leByte m k := fun k hk => List.map_inj_left.1 h k (List.mem_range.2 hk)
  have h0 := h8 0 (by omega)
  have h1 := h8 1 (by omega)
  have h2 := h8 2 (by omega)
  have h3 := h8 3 (by omega)
  have h4 := h8 4 (by omega)
  have h5 := h8 5 (by omega)
  have h6 := h8 6 (by omega)
  have h7 := h8 7 (by omega)
  simp only [leByte, Nat.reducePow, Nat.pow_zero, Nat.div_one] at h0 h1 h2 h3 h4 h5 h6 h7
  omega

theorem toNat_inj : ∀ {s t : List UInt8}, s.map UInt8.toNat = t.map UInt8.toNat → s = t
  | [], [], _ => rfl
  | [], _ :: _, h => by simp at h
  | _ :: _, [], h => by simp at h
  | x :: s, y :: t, h => by
    simp only [List.map_cons, List.cons.injEq] at h
    rw [UInt8.toNat_inj.1 h.1, toNat_inj h.2]

/-- Two lists of names with one encoding are one. -/
theorem encAll_inj : ∀ {a b : List (List UInt8)}, (∀ s, s ∈ a → s.length < 18446744073709551616) → (∀ s, s ∈ b → s.length < 18446744073709551616) → encAll a = encAll b → a = b
  | [], [], _, _, _ => rfl
  | [], t :: b, _, _, h => by
    have := congrArg List.length h
    simp [encAll, enc1] at this
    omega
  | s :: a, [], _, _, h => by
    have := congrArg List.length h
    simp [encAll, enc1] at this
  | s :: a, t :: b, ha, hb, h => by
    simp only [encAll, enc1, List.append_assoc] at h
    obtain ⟨h1, h2⟩ := List.append_inj h (by simp)
    have hl : s.length = t.length := leByte_inj (ha s (by simp)) (hb t (by simp)) h1
    obtain ⟨h3, h4⟩ := List.append_inj h2 (by simp [hl])
    rw [toNat_inj h3, encAll_inj (fun x hx => ha x (by simp [hx])) (fun x hx => hb x (by simp [hx])) h4]

theorem encAll_append : ∀ (a b : List (List UInt8)), encAll (a ++ b) = encAll a ++ encAll b
  | [], _ => rfl
  | s :: a, b => by simp [encAll, encAll_append a b]

/-- The encoding of S(0), .., S(k-1). -/
def encTo (S : Nat → List UInt8) (k : Nat) : List Nat := encAll ((List.range k).map S)

theorem encTo_zero (S : Nat → List UInt8) : encTo S 0 = [] := rfl
theorem encTo_succ (S : Nat → List UInt8) (k : Nat) : encTo S (k + 1) = encTo S k ++ enc1 (S k) := by
  unfold encTo
  rw [List.range_succ, List.map_append, encAll_append]
  simp [encAll]

theorem encTo_eq_iff (n m : Nat) (S T : Nat → List UInt8) (hS : ∀ i, i < n → (S i).length < 18446744073709551616) (hT : ∀ i, i < m → (T i).length < 18446744073709551616) :
    encTo S n = encTo T m ↔ n = m ∧ ∀ i, i < n → S i = T i := by
  constructor
  · intro h
    have e := encAll_inj (a := (List.range n).map S) (b := (List.range m).map T) (fun s hs => by
      obtain ⟨i, hi, rfl⟩ := List.mem_map.1 hs
      exact hS i (List.mem_range.1 hi)) (fun s hs => by
      obtain ⟨i, hi, rfl⟩ := List.mem_map.1 hs
      exact hT i (List.mem_range.1 hi)) h
    have hnm : n = m := by simpa using congrArg List.length e
    subst hnm
    exact ⟨rfl, fun i hi => List.map_inj_left.1 e i (List.mem_range.2 hi)⟩
  · rintro ⟨rfl, h⟩
    unfold encTo
    rw [List.map_congr_left fun i hi => h i (List.mem_range.1 hi)]
end Go.Proofs.Qxb6600923aMods
