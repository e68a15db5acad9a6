/-
  From the row's reading of a []string that came in to what the walks are told of it ('StrsAt').
-/
import Derived.Test.Qxb6600923aModsMem
import Derived.SliceStrings
import Derived.ProofKit
namespace Go.Proofs.Qxb6600923aMods
open Go.ChangeShapes Go.WideShapes Go.RowKit

theorem cell_lt {w : World} {a : Addr} {v : Value} (h : w.cell? a = some v) : a.block < w.heap.size := by
  by_cases g : a.block < w.heap.size
  · exact g
  · have e : w.heap[a.block]? = none := by simp; omega
    simp [World.cell?, e] at h

theorem strsAt_of {w : World} {a : Addr} {len : Nat} {ss : List ByteArray} (hl : len ≤ ss.length) (hc : ∀ i, i < ss.length → w.cell? (a.add i) = some (.string (ss.getD i ByteArray.empty))) :
    StrsAt w (some a) len (fun i => ss.getD i ByteArray.empty) := by
  by_cases h0 : len = 0
  · exact .inl h0
  · obtain ⟨b, off, spot⟩ := a
    have h := hc 0 (by omega)
    have hspot : spot = none := by simpa [Addr.add] using World.cell?_spot h
    subst hspot
    exact .inr ⟨b, off, rfl, by simpa [Addr.add] using cell_lt h, fun i hi => by rw [← add_plain]; exact hc i (by omega)⟩

/-- A []string that came in, opened. -/
theorem strs_open {H : Type} {enc : TypeId × Value → H} {W : World} {a : Option Addr} {len cap : Nat} {d : DataW H} {ps : List MemPlace}
    (h : DataW.Trod enc Trym.prog W 0 (fun _ => true) true 28 (.slice a len cap) d ps) : ∃ S, StrsAt W a len S ∧ len ≤ maxLen ∧ (a = none → len = 0 ∧ cap = 0) := by
  obtain ⟨fuel, hf⟩ := h
  rcases open_strings Trym.underlying28 Trym.underlying9 (by kernel_rfl) hf with ⟨hcs, _⟩ | ⟨x, l, c, ss, hcs, _, hl, hm, hz, _, hcell, hws⟩
  · simp [Value.cells] at hcs
    obtain ⟨rfl, rfl, rfl⟩ := hcs
    exact ⟨fun _ => ByteArray.empty, .inl rfl, Nat.zero_le _, fun _ => ⟨rfl, rfl⟩⟩
  · simp [Value.cells] at hcs
    obtain ⟨rfl, rfl, rfl⟩ := hcs
    simp only [if_true] at hz
    exact ⟨_, strsAt_of (by omega) hcell, by omega, fun h => by cases h⟩
end Go.Proofs.Qxb6600923aMods
