/-
  The plain mathematics of the model's candidate list: gathered, sorted by insertion, searched: no Go in sight.
-/
import Derived.Test.Qxb6600885aModsPlain
namespace Go.Proofs.Qxb6600885aMods

/-- The list C(0), .., C(m-1) holds just the mounts below n that hold the path. -/
structure Cand (ok : Nat → Bool) (n m : Nat) (C : Nat → Nat) : Prop where
  mem : ∀ t, t < m → C t < n ∧ ok (C t) = true
  all : ∀ x, x < n → ok x = true → ∃ t, t < m ∧ C t = x

/-- .. as it is gathered: in the order of the table. -/
structure Gath (ok : Nat → Bool) (k m : Nat) (C : Nat → Nat) : Prop where
  cand : Cand ok k m C
  asc : ∀ a b, a < b → b < m → C a < C b
  le : m ≤ k

/-- The first i are sorted; the rest is as it was gathered. -/
structure SOuter (ok : Nat → Bool) (ln : Nat → Nat) (n m i : Nat) (C : Nat → Nat) : Prop where
  cand : Cand ok n m C
  sorted : ∀ a b, a < b → b < i → lexlt ln (C a) (C b)
  asc : ∀ a b, a < b → i ≤ b → b < m → C a < C b

/-- Element number i on its way down, now at place j. -/
structure SInner (ok : Nat → Bool) (ln : Nat → Nat) (n m i j : Nat) (C : Nat → Nat) : Prop where
  cand : Cand ok n m C
  sorted : ∀ a b, a < b → b ≤ i → a ≠ j → b ≠ j → lexlt ln (C a) (C b)
  above : ∀ b, j < b → b ≤ i → ln (C j) < ln (C b)
  big : ∀ a, a ≤ i → a ≠ j → C a < C j
  asc : ∀ a b, a < b → i < b → b < m → C a < C b

/-- The exchange of places j-1 and j. -/
def swapAt (C : Nat → Nat) (j : Nat) : Nat → Nat := fun t => if t = j then C (j - 1) else if t = j - 1 then C j else C t

section
variable {ok : Nat → Bool} {ln : Nat → Nat} {ab : Nat → Int} {n m i j k : Nat} {C : Nat → Nat}

theorem Gath.start (C : Nat → Nat) : Gath ok 0 0 C := ⟨⟨fun t h => by omega, fun x h => by omega⟩, fun a b _ h => by omega, Nat.le_refl _⟩

theorem Gath.drop (h : Gath ok k m C) (hk : ok k = false) : Gath ok (k + 1) m C :=
  ⟨⟨fun t ht => ⟨by have := (h.cand.mem t ht).1; omega, (h.cand.mem t ht).2⟩, fun x hx ho => by
    by_cases e : x = k
    · subst e; rw [hk] at ho; cases ho
    · exact h.cand.all x (by omega) ho⟩, h.asc, by have := h.le; omega⟩

theorem Gath.keep (h : Gath ok k m C) (hk : ok k = true) : Gath ok (k + 1) (m + 1) (fun t => if t = m then k else C t) := by
  refine ⟨⟨fun t ht => ?_, fun x hx ho => ?_⟩, fun a b hab hb => ?_, by have := h.le; omega⟩
  · by_cases e : t = m
    · simp [e, hk]
    · have := h.cand.mem t (by omega)
      simp only [if_neg e]
      exact ⟨by omega, this.2⟩
  · by_cases e : x = k
    · exact ⟨m, by omega, by simp [e]⟩
    · obtain ⟨t, ht, hx'⟩ := h.cand.all x (by omega) ho
      exact ⟨t, by omega, by rw [if_neg (by omega)]; exact hx'⟩
  · by_cases e : b = m
    · have := (h.cand.mem a (by omega)).1
      simp only [e, if_true]
      rw [if_neg (by omega)]
      exact this
    · simp only [if_neg e]
      rw [if_neg (by omega)]
      exact h.asc a b hab (by omega)

theorem Gath.outer (h : Gath ok n m C) : SOuter ok ln n m 1 C := ⟨h.cand, fun a b _ _ => by omega, fun a b hab _ hb => h.asc a b hab hb⟩

theorem SOuter.inner (h : SOuter ok ln n m i C) (hi : i < m) : SInner ok ln n m i i C :=
  ⟨h.cand, fun a b hab hb _ hb' => h.sorted a b hab (by omega), fun b _ _ => by omega, fun a ha hai => h.asc a i (by omega) (by omega) hi, fun a b hab hb hm => h.asc a b hab (by omega) hm⟩

theorem SInner.done (h : SInner ok ln n m i j C) (hj : j ≤ i) (hs : j = 0 ∨ ln (C (j - 1)) ≤ ln (C j)) : SOuter ok ln n m (i + 1) C := by
  refine ⟨h.cand, fun a b hab hb => ?_, fun a b hab hb hm => h.asc a b hab (by omega) hm⟩
  by_cases ea : a = j
  · subst ea
    exact .inl (h.above b hab (by omega))
  by_cases eb : b = j
  · subst eb
    have hidx := h.big a (by omega) ea
    have hle : ln (C a) ≤ ln (C b) := by
      rcases hs with hs | hs
      · omega
      · by_cases e : a = b - 1
        · rw [e]; exact hs
        · rcases h.sorted a (b - 1) (by omega) (by omega) (by omega) (by omega) with g | g <;> omega
    by_cases e : ln (C a) = ln (C b)
    · exact .inr ⟨e, hidx⟩
    · exact .inl (by omega)
  · exact h.sorted a b hab (by omega) ea eb

theorem SInner.step (h : SInner ok ln n m i j C) (hj0 : 0 < j) (hj : j ≤ i) (him : i < m) (hs : ln (C j) < ln (C (j - 1))) : SInner ok ln n m i (j - 1) (swapAt C j) := by
  have e1 : swapAt C j j = C (j - 1) := by simp [swapAt]
  have e2 : swapAt C j (j - 1) = C j := by simp only [swapAt]; rw [if_neg (by omega)]; simp
  have e3 : ∀ t, t ≠ j → t ≠ j - 1 → swapAt C j t = C t := fun t h1 h2 => by simp [swapAt, h1, h2]
  refine ⟨⟨fun t ht => ?_, fun x hx ho => ?_⟩, fun a b hab hb ha hb' => ?_, fun b hb hb' => ?_, fun a ha ha' => ?_, fun a b hab hb hm => ?_⟩
  · by_cases h1 : t = j
    · rw [h1, e1]; exact h.cand.mem _ (by omega)
    · by_cases h2 : t = j - 1
      · rw [h2, e2]; exact h.cand.mem _ (by omega)
      · rw [e3 t h1 h2]; exact h.cand.mem _ ht
  · obtain ⟨t, ht, hx'⟩ := h.cand.all x hx ho
    by_cases h1 : t = j
    · exact ⟨j - 1, by omega, by rw [e2, ← h1]; exact hx'⟩
    · by_cases h2 : t = j - 1
      · exact ⟨j, by omega, by rw [e1, ← h2]; exact hx'⟩
      · exact ⟨t, ht, by rw [e3 t h1 h2]; exact hx'⟩
  · by_cases h1 : a = j
    · rw [h1, e1, e3 b (by omega) hb']
      exact h.sorted (j - 1) b (by omega) hb (by omega) (by omega)
    · rw [e3 a h1 ha]
      by_cases h2 : b = j
      · rw [h2, e1]
        exact h.sorted a (j - 1) (by omega) (by omega) (by omega) (by omega)
      · rw [e3 b h2 hb']
        exact h.sorted a b hab hb h1 h2
  · rw [e2]
    by_cases h1 : b = j
    · rw [h1, e1]; exact hs
    · rw [e3 b h1 (by omega)]; exact h.above b (by omega) hb'
  · rw [e2]
    by_cases h1 : a = j
    · rw [h1, e1]; exact h.big (j - 1) (by omega) (by omega)
    · rw [e3 a h1 ha']; exact h.big a ha h1
  · rw [e3 b (by omega) (by omega)]
    by_cases h1 : a = j
    · rw [h1, e1]; exact h.asc (j - 1) b (by omega) hb hm
    · by_cases h2 : a = j - 1
      · rw [h2, e2]; exact h.asc j b (by omega) hb hm
      · rw [e3 a h1 h2]; exact h.asc a b hab hb hm

/-- The first candidate of the sorted list that lies on i is the one that 'resolve' picks. -/
theorem SOuter.first (h : SOuter ok ln n m i C) (hi : m ≤ i) {p : Int} {t : Nat} (ht : t < m) (ha : ab (C t) = p) (hn : ∀ s, s < t → ab (C s) ≠ p) : pickTo ok ln ab p n = C t := by
  refine pickTo_eq (h.cand.mem t ht).1 (h.cand.mem t ht).2 ha fun x hx ho hp => ?_
  obtain ⟨s, hs, rfl⟩ := h.cand.all x hx ho
  by_cases e : s = t
  · exact .inl (by rw [e])
  · by_cases g : s < t
    · exact absurd hp (hn s g)
    · exact .inr (h.sorted t s (by omega) (by omega))

theorem SOuter.no (h : SOuter ok ln n m i C) {p : Int} (hn : ∀ s, s < m → ab (C s) ≠ p) : pickTo ok ln ab p n = -1 :=
  pickTo_neg fun x hx ho => by
    obtain ⟨s, hs, rfl⟩ := h.cand.all x hx ho
    exact hn s hs
end
end Go.Proofs.Qxb6600885aMods
