/-
  The string functions on the roads of seat b6600885aM: strings.CutPrefix, within, ZZWithin, walkB1Holds, walkB1Join: each by a contract.
-/
import Derived.Test.Qxb6600885aModsProg
import Derived.WalkKit
import Derived.WalkSpells
import Derived.WalkLawsBesides
import Derived.Lib.Strings
namespace Go.Proofs.Qxb6600885aMods
open Go.RowKit

/-- What 'within' answers: whether. -/
def wOk (p d : List UInt8) : Bool :=
  if p = d then true else if d = [46] then true else if d = [47] then Lib.hasPrefix p [47] else Lib.hasPrefix p (d ++ [47])

/-- What 'within' answers: the rest. -/
def wRest (p d : List UInt8) : List UInt8 :=
  if p = d then [] else if d = [46] then p else if d = [47] then Lib.trimPrefix p [47] else Lib.trimPrefix p (d ++ [47])

theorem cat_eq (a b : ByteArray) : a ++ b = ⟨(a.data.toList ++ b.data.toList).toArray⟩ := by
  obtain ⟨⟨a⟩⟩ := a
  obtain ⟨⟨b⟩⟩ := b
  rfl

/-- What 'walkB1Join' answers. -/
def jn (d r : List UInt8) : List UInt8 := if d = [47] then 47 :: r else d ++ [47] ++ r

set_option maxHeartbeats 1000000 in
theorem cutPrefix_any (s p : ByteArray) (w : World) :
    Calls Trym.prog 28 #[.string s, .string p] w fun e w' => e = .returned (.tuple #[.string ⟨(Lib.trimPrefix s.data.toList p.data.toList).toArray⟩, .bool (Lib.hasPrefix s.data.toList p.data.toList)]) ∧ w' = w := by
  go_enter Trym.func28, Trym.ntmps28
  go_wp2
  · have h2 : (!((s.extract 0 p.size).toList == p.toList)) = true := by assumption
    have h3 : (decide (p.size ≤ s.size) && ((s.extract 0 p.size).toList == p.toList)) = false := by
      have : ((s.extract 0 p.size).toList == p.toList) = false := by simpa using h2
      rw [this]
      simp
    go_ret2
    refine ⟨?_, rfl⟩
    rw [Lib.trimPrefix_miss s p h3, ← Lib.hasPrefix_raw, h3]
    rfl
  · have h1 : p.size ≤ s.size := by assumption
    have h2 : (!((s.extract 0 p.size).toList == p.toList)) = false := by assumption
    have h2' : ((s.extract 0 p.size).toList == p.toList) = true := by simpa using h2
    go_ret2
    refine ⟨?_, rfl⟩
    rw [Lib.trimPrefix_hit s p h1 h2', ← Lib.hasPrefix_raw, h2', decide_eq_true h1]
    rfl
  · have h1 : ¬ p.size ≤ s.size := by assumption
    have h3 : (decide (p.size ≤ s.size) && ((s.extract 0 p.size).toList == p.toList)) = false := by simp [h1]
    go_ret2
    refine ⟨?_, rfl⟩
    rw [Lib.trimPrefix_miss s p h3, ← Lib.hasPrefix_raw, h3]
    rfl

set_option maxHeartbeats 1000000 in
theorem within_any (p d : ByteArray) (w : World) (hd : d.size ≤ 4611686018427387904) :
    Calls Trym.prog 27 #[.string p, .string d] w fun e w' => e = .returned (.tuple #[.string ⟨(wRest p.data.toList d.data.toList).toArray⟩, .bool (wOk p.data.toList d.data.toList)]) ∧ w' = w := by
  go_enter Trym.func27, Trym.ntmps27
  go_wp2_with (go_at_call 28; refine (cutPrefix_any _ _ _).mono ?_; rintro e w' ⟨rfl, rfl⟩)
  · have h : (p.toList == d.toList) = true := by assumption
    have h' : p.data.toList = d.data.toList := by simpa [Lib.toList_data] using h
    go_ret2
    exact ⟨by simp [wRest, wOk, h'], rfl⟩
  · have h : (p.toList == d.toList) = false := by assumption
    have h' : ¬ p.data.toList = d.data.toList := by simpa [Lib.toList_data] using h
    have h2 : (d.toList == [46]) = true := by assumption
    have h2' : d.data.toList = [46] := by simpa [Lib.toList_data] using h2
    go_ret2
    refine ⟨?_, rfl⟩
    rw [wRest, wOk, if_neg h', if_neg h', if_pos h2', if_pos h2', Lib.mk_data]
    rfl
  · have h : (p.toList == d.toList) = false := by assumption
    have h' : ¬ p.data.toList = d.data.toList := by simpa [Lib.toList_data] using h
    have h2 : (d.toList == [46]) = false := by assumption
    have h2' : ¬ d.data.toList = [46] := by simpa [Lib.toList_data] using h2
    have h3 : (d.toList == [47]) = true := by assumption
    have h3' : d.data.toList = [47] := by simpa [Lib.toList_data] using h3
    go_ret2
    refine ⟨?_, rfl⟩
    rw [wRest, wOk, if_neg h', if_neg h', if_neg h2', if_neg h2', if_pos h3', if_pos h3']
    rfl
  · have h : (p.toList == d.toList) = false := by assumption
    have h' : ¬ p.data.toList = d.data.toList := by simpa [Lib.toList_data] using h
    have h2 : (d.toList == [46]) = false := by assumption
    have h2' : ¬ d.data.toList = [46] := by simpa [Lib.toList_data] using h2
    have h3 : (d.toList == [47]) = false := by assumption
    have h3' : ¬ d.data.toList = [47] := by simpa [Lib.toList_data] using h3
    go_ret2
    refine ⟨?_, rfl⟩
    rw [wRest, wOk, if_neg h', if_neg h', if_neg h2', if_neg h2', if_neg h3', if_neg h3']
    rfl

theorem zzWithin_any (p d : ByteArray) (w : World) (hd : d.size ≤ 4611686018427387904) :
    Calls Trym.prog 22 #[.string p, .string d] w fun e w' => e = .returned (.tuple #[.string ⟨(wRest p.data.toList d.data.toList).toArray⟩, .bool (wOk p.data.toList d.data.toList)]) ∧ w' = w := by
  go_enter Trym.func22, Trym.ntmps22
  go_wp2_with (go_at_call 27; refine (within_any _ _ _ hd).mono ?_; rintro e w' ⟨rfl, rfl⟩)
  go_ret2
  exact ⟨rfl, rfl⟩

theorem holds_any (p d : ByteArray) (w : World) (hd : d.size ≤ 4611686018427387904) :
    Calls Trym.prog 18 #[.string p, .string d] w fun e w' => e = .returned (.bool (wOk p.data.toList d.data.toList)) ∧ w' = w := by
  go_enter Trym.func18, Trym.ntmps18
  go_wp2_with (go_at_call 22; refine (zzWithin_any _ _ _ hd).mono ?_; rintro e w' ⟨rfl, rfl⟩)
  go_ret
  exact ⟨rfl, rfl⟩

theorem join_any (d r : ByteArray) (w : World) (hd : d.size ≤ 1152921504606846976) (hr : r.size ≤ 1152921504606846976) :
    Calls Trym.prog 23 #[.string d, .string r] w fun e w' => e = .returned (.string ⟨(jn d.data.toList r.data.toList).toArray⟩) ∧ w' = w := by
  go_enter Trym.func23, Trym.ntmps23
  go_wp2
  · have h : (d.toList == [47]) = true := by assumption
    have h' : d.data.toList = [47] := by simpa [Lib.toList_data] using h
    go_ret
    refine ⟨?_, rfl⟩
    rw [jn, if_pos h']
    exact congrArg (fun x => Ending.returned (Value.string x)) (cat_eq ⟨#[47]⟩ r)
  · have h : (d.toList == [47]) = false := by assumption
    have h' : ¬ d.data.toList = [47] := by simpa [Lib.toList_data] using h
    go_ret
    refine ⟨?_, rfl⟩
    rw [jn, if_neg h']
    exact congrArg (fun x => Ending.returned (Value.string x)) (by rw [cat_eq, cat_eq])

/-! ### The plain laws: no Go in sight -/
theorem wOk_refl (p : List UInt8) : wOk p p = true := by simp [wOk]
theorem wRest_refl (p : List UInt8) : wRest p p = [] := by simp [wRest]
theorem wOk_dot (p : List UInt8) : wOk p [46] = true := by simp [wOk]
theorem wRest_dot (p : List UInt8) (h : ¬ p = [46]) : wRest p [46] = p := by simp [wRest, h]
theorem trim_miss (s p : List UInt8) (h : Lib.hasPrefix s p = false) : Lib.trimPrefix s p = s := by simp [Lib.trimPrefix, h]
theorem trim_hit (s p : List UInt8) (h : Lib.hasPrefix s p = true) : p ++ Lib.trimPrefix s p = s := by
  rw [Lib.trimPrefix, if_pos h]
  exact List.prefix_iff_eq_append.1 (List.isPrefixOf_iff_prefix.1 h)
theorem wRest_no (p d : List UInt8) (h : wOk p d = false) : wRest p d = p := by
  unfold wOk at h
  unfold wRest
  by_cases h1 : p = d
  · rw [if_pos h1] at h; simp at h
  · rw [if_neg h1] at h ⊢
    by_cases h2 : d = [46]
    · rw [if_pos h2] at h; simp at h
    · rw [if_neg h2] at h ⊢
      by_cases h3 : d = [47]
      · rw [if_pos h3] at h ⊢; exact trim_miss _ _ h
      · rw [if_neg h3] at h ⊢; exact trim_miss _ _ h
theorem jn_rest (p d : List UInt8) (h : wOk p d = true) (h1 : ¬ p = d) (h2 : ¬ d = [46]) : jn d (wRest p d) = p := by
  unfold wOk at h
  unfold wRest jn
  rw [if_neg h1, if_neg h2] at h ⊢
  by_cases h3 : d = [47]
  · rw [if_pos h3] at h ⊢
    rw [if_pos h3]
    exact trim_hit p [47] h
  · rw [if_neg h3] at h ⊢
    rw [if_neg h3]
    exact trim_hit _ _ h
theorem trim_app (p r : List UInt8) : Lib.hasPrefix (p ++ r) p = true ∧ Lib.trimPrefix (p ++ r) p = r := by
  have h : Lib.hasPrefix (p ++ r) p = true := List.isPrefixOf_iff_prefix.2 (List.prefix_append p r)
  exact ⟨h, by rw [Lib.trimPrefix, if_pos h, List.drop_left]⟩
theorem round (d r : List UInt8) (h2 : ¬ d = [46]) : wOk (jn d r) d = true ∧ wRest (jn d r) d = r := by
  unfold wOk wRest jn
  by_cases h3 : d = [47]
  · subst h3
    cases r with
    | nil => simp
    | cons x r => simpa using trim_app [47] (x :: r)
  · have h1 : ¬ d ++ [47] ++ r = d := fun e => by
      have := congrArg List.length e
      simp at this
    rw [if_neg h3, if_neg h1, if_neg h2, if_neg h3, if_neg h1, if_neg h2, if_neg h3]
    exact trim_app _ _
end Go.Proofs.Qxb6600885aMods
