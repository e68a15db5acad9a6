/-
  From the row's reading of a []string and of a []int that came in to what the walks are told of them ('StrsAt', 'IntsAt').
-/
import Derived.Test.Qxb6600885aModsMem
import Derived.SliceStrings
import Derived.ProofKit
namespace Go.Proofs.Qxb6600885aMods
open Go.ChangeShapes Go.WideShapes Go.RowKit

theorem cell_lt {w : World} {a : Addr} {v : Value} (h : w.cell? a = some v) : a.block < w.heap.size := by
  by_cases g : a.block < w.heap.size
  · exact g
  · have e : w.heap[a.block]? = none := by simp; omega
    simp [World.cell?, e] at h

theorem strsAt_of {w : World} {a : Addr} {len : Nat} {ss : List ByteArray} (hl : len ≤ ss.length) (hc : ∀ i, i < ss.length → w.cell? (a.add i) = some (.string (ss.getD i ByteArray.empty))) :
    StrsAt w (some a) len (fun i => ss.getD i ByteArray.empty) := by
  by_cases h0 : len = 0
  · exact .inl h0
  · obtain ⟨b, off, spot⟩ := a
    have h := hc 0 (by omega)
    have hspot : spot = none := by simpa [Addr.add] using World.cell?_spot h
    subst hspot
    exact .inr ⟨b, off, rfl, by simpa [Addr.add] using cell_lt h, fun i hi => by rw [← add_plain]; exact hc i (by omega)⟩

theorem intsAt_of {w : World} {a : Addr} {len : Nat} {zs : List Int} (hl : len ≤ zs.length) (hc : ∀ i, i < zs.length → w.cell? (a.add i) = some (.int .i64 (zs.getD i 0))) :
    IntsAt w (some a) len (fun i => zs.getD i 0) := by
  by_cases h0 : len = 0
  · exact .inl h0
  · obtain ⟨b, off, spot⟩ := a
    have h := hc 0 (by omega)
    have hspot : spot = none := by simpa [Addr.add] using World.cell?_spot h
    subst hspot
    exact .inr ⟨b, off, rfl, by simpa [Addr.add] using cell_lt h, fun i hi => by rw [← add_plain]; exact hc i (by omega)⟩
end Go.Proofs.Qxb6600885aMods
