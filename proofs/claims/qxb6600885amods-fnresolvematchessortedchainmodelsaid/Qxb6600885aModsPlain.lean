/-
  The plain mathematics of 'resolve' and of its model: no Go in sight.
  'ok k': mount k's point holds the path; 'ln k': the point's length; 'ab k': the mount that mount k lies on.
-/
namespace Go.Proofs.Qxb6600885aMods

/-- One inner round of 'resolve': of the first k mounts the one that is chosen. -/
def pickTo (ok : Nat → Bool) (ln : Nat → Nat) (ab : Nat → Int) (i : Int) : Nat → Int
  | 0 => -1
  | k + 1 => if ok k = true ∧ ab k = i ∧ (pickTo ok ln ab i k < 0 ∨ ln k < ln (pickTo ok ln ab i k).toNat) then (k : Int) else pickTo ok ln ab i k

/-- The outer rounds. -/
def resFrom (ok : Nat → Bool) (ln : Nat → Nat) (ab : Nat → Int) (n : Nat) : Nat → Int → Int
  | 0, i => i
  | f + 1, i => if pickTo ok ln ab i n < 0 then i else resFrom ok ln ab n f (pickTo ok ln ab i n)

def lexlt (ln : Nat → Nat) (x y : Nat) : Prop := ln x < ln y ∨ (ln x = ln y ∧ x < y)

section
variable {ok : Nat → Bool} {ln : Nat → Nat} {ab : Nat → Int} {n : Nat}

/-- What the choice is, by its own marks. -/
theorem pickTo_spec (i : Int) (k : Nat) :
    (pickTo ok ln ab i k = -1 ∧ ∀ x, x < k → ok x = true → ab x ≠ i) ∨
    ∃ c : Nat, pickTo ok ln ab i k = c ∧ c < k ∧ ok c = true ∧ ab c = i ∧ ∀ x, x < k → ok x = true → ab x = i → x = c ∨ lexlt ln c x := by
  induction k with
  | zero => exact .inl ⟨rfl, fun x hx => by omega⟩
  | succ k ih =>
    unfold pickTo
    rcases ih with ⟨h, hn⟩ | ⟨c, h, hc, hk, ha, hm⟩
    · by_cases hh : ok k = true ∧ ab k = i
      · rw [if_pos ⟨hh.1, hh.2, .inl (by omega)⟩]
        refine .inr ⟨k, rfl, by omega, hh.1, hh.2, fun x hx ho hx' => ?_⟩
        by_cases e : x = k
        · exact .inl e
        · exact absurd hx' (hn x (by omega) ho)
      · rw [if_neg (fun g => hh ⟨g.1, g.2.1⟩)]
        refine .inl ⟨h, fun x hx ho hx' => ?_⟩
        by_cases e : x = k
        · subst e; exact hh ⟨ho, hx'⟩
        · exact hn x (by omega) ho hx'
    · rw [h, Int.toNat_natCast]
      by_cases hh : ok k = true ∧ ab k = i ∧ ln k < ln c
      · rw [if_pos ⟨hh.1, hh.2.1, .inr hh.2.2⟩]
        refine .inr ⟨k, rfl, by omega, hh.1, hh.2.1, fun x hx ho hx' => ?_⟩
        by_cases e : x = k
        · exact .inl e
        · right
          have hlt := hh.2.2
          rcases hm x (by omega) ho hx' with rfl | g | g
          · exact .inl hlt
          · exact .inl (by omega)
          · exact .inl (by omega)
      · rw [if_neg (fun g => hh ⟨g.1, g.2.1, by rcases g.2.2 with g | g <;> omega⟩)]
        refine .inr ⟨c, rfl, by omega, hk, ha, fun x hx ho hx' => ?_⟩
        by_cases e : x = k
        · subst e
          right
          have hlt : ¬ ln x < ln c := fun g => hh ⟨ho, hx', g⟩
          by_cases e2 : ln c = ln x
          · exact .inr ⟨e2, hc⟩
          · exact .inl (by omega)
        · exact hm x (by omega) ho hx'

theorem pickTo_neg {i : Int} {k : Nat} (h : ∀ x, x < k → ok x = true → ab x ≠ i) : pickTo ok ln ab i k = -1 := by
  rcases pickTo_spec (ok := ok) (ln := ln) (ab := ab) i k with g | ⟨c, _, hc, hk, ha, _⟩
  · exact g.1
  · exact absurd ha (h c hc hk)

theorem pickTo_eq {i : Int} {k c : Nat} (hc : c < k) (hk : ok c = true) (ha : ab c = i) (hm : ∀ x, x < k → ok x = true → ab x = i → x = c ∨ lexlt ln c x) : pickTo ok ln ab i k = c := by
  rcases pickTo_spec (ok := ok) (ln := ln) (ab := ab) i k with g | ⟨d, hd, hdk, hdo, hda, hdm⟩
  · exact absurd ha (g.2 c hc hk)
  · rw [hd]
    rcases hm d hdk hdo hda with rfl | g
    · rfl
    · rcases hdm c hc hk ha with rfl | g'
      · rfl
      · unfold lexlt at g g'
        omega

/-- c lies t steps above -1, through mounts that hold the path. -/
def Reach (ok : Nat → Bool) (ab : Nat → Int) (n : Nat) : Nat → Int → Prop
  | 0, c => c = -1
  | t + 1, c => ∃ k : Nat, c = k ∧ k < n ∧ ok k = true ∧ Reach ok ab n t (ab k)

theorem Reach.unique : ∀ (t t' : Nat) (c : Int), Reach ok ab n t c → Reach ok ab n t' c → t = t'
  | 0, 0, _, _, _ => rfl
  | 0, _ + 1, c, h, ⟨k, h', _⟩ => by have : c = -1 := h; omega
  | _ + 1, 0, c, ⟨k, h', _⟩, h => by have : c = -1 := h; omega
  | t + 1, t' + 1, c, ⟨k, h1, _, _, h2⟩, ⟨k', h1', _, _, h2'⟩ => by
    have e : k = k' := by omega
    subst e
    rw [Reach.unique t t' _ h2 h2']

/-- The mounts of such a chain, each once. -/
theorem Reach.nodes : ∀ (t : Nat) (c : Int), Reach ok ab n t c → ∃ l : List Nat, l.length = t ∧ (∀ x, x ∈ l → x < n) ∧ (∀ x, x ∈ l → ∃ s, s ≤ t ∧ Reach ok ab n s (x : Int)) ∧ l.Nodup
  | 0, _, _ => ⟨[], rfl, by simp, by simp, List.nodup_nil⟩
  | t + 1, c, ⟨k, h1, hk, ho, h2⟩ => by
    obtain ⟨l, hl, hn, hs, hd⟩ := Reach.nodes t _ h2
    have hr : Reach ok ab n (t + 1) (k : Int) := ⟨k, rfl, hk, ho, h2⟩
    refine ⟨k :: l, by simp [hl], ?_, ?_, List.nodup_cons.2 ⟨fun hm => ?_, hd⟩⟩
    · intro x hx
      rcases List.mem_cons.1 hx with rfl | hx
      · exact hk
      · exact hn x hx
    · intro x hx
      rcases List.mem_cons.1 hx with rfl | hx
      · exact ⟨t + 1, Nat.le_refl _, hr⟩
      · obtain ⟨s, h, h'⟩ := hs x hx
        exact ⟨s, by omega, h'⟩
    · obtain ⟨s, h, h'⟩ := hs k hm
      have := Reach.unique _ _ _ h' hr
      omega

theorem pigeon : ∀ (n : Nat) (l : List Nat), (∀ x, x ∈ l → x < n) → l.Nodup → l.length ≤ n
  | 0, [], _, _ => Nat.le_refl _
  | 0, x :: _, h, _ => by have := h x (by simp); omega
  | n + 1, l, h, hd => by
    have h1 := pigeon n (l.erase n) (fun x hx => by
      have h2 := h x (List.mem_of_mem_erase hx)
      have h3 : x ≠ n := fun e => by subst e; exact (List.Nodup.mem_erase_iff hd).1 hx |>.1 rfl
      omega) (hd.erase n)
    have h4 : l.length ≤ (l.erase n).length + 1 := by
      by_cases hm : n ∈ l
      · rw [List.length_erase_of_mem hm]; omega
      · rw [List.erase_of_not_mem hm]; omega
    omega

theorem Reach.le {t : Nat} {c : Int} (h : Reach ok ab n t c) : t ≤ n := by
  obtain ⟨l, hl, hn, _, hd⟩ := Reach.nodes t c h
  rw [← hl]
  exact pigeon n l hn hd

/-- Where the walk down ends: a chain of mounts that hold the path, and no mount on the last that does. -/
theorem resFrom_spec : ∀ (f : Nat) (i : Int) (t : Nat), Reach ok ab n t i → n ≤ t + f →
    ∃ t', Reach ok ab n t' (resFrom ok ln ab n f i) ∧ ∀ x, x < n → ok x = true → ab x ≠ resFrom ok ln ab n f i
  | 0, i, t, h, hf => by
    refine ⟨t, h, fun x hx ho he => ?_⟩
    have h2 : Reach ok ab n (t + 1) (x : Int) := ⟨x, rfl, hx, ho, by rw [he]; exact h⟩
    have := h2.le
    omega
  | f + 1, i, t, h, hf => by
    unfold resFrom
    rcases pickTo_spec (ok := ok) (ln := ln) (ab := ab) i n with g | ⟨c, hc, hcn, hco, hca, _⟩
    · rw [if_pos (by omega)]
      exact ⟨t, h, g.2⟩
    · rw [if_neg (by omega), hc]
      exact resFrom_spec f c (t + 1) ⟨c, rfl, hcn, hco, by rw [hca]; exact h⟩ (by omega)

theorem res_spec (r : Int) (hr : resFrom ok ln ab n n (-1) = r) : ∃ t, Reach ok ab n t r ∧ ∀ x, x < n → ok x = true → ab x ≠ r := by
  obtain ⟨t, h1, h2⟩ := resFrom_spec (ok := ok) (ln := ln) (ab := ab) (n := n) n (-1) 0 rfl (by omega)
  rw [hr] at h1 h2
  exact ⟨t, h1, h2⟩

theorem resFrom_range (r : Int) (hr : resFrom ok ln ab n n (-1) = r) : r = -1 ∨ ∃ c : Nat, r = c ∧ c < n ∧ ok c = true := by
  obtain ⟨t, h, _⟩ := res_spec r hr
  cases t with
  | zero => exact .inl h
  | succ t => obtain ⟨k, h1, h2, h3, _⟩ := h; exact .inr ⟨k, h1, h2, h3⟩
end
end Go.Proofs.Qxb6600885aMods
