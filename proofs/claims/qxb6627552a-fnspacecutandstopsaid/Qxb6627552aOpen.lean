/- WHAT THE SHELL TELLS OF THE BYTES THAT CAME IN, turned into what the walks ask. -/
import Derived.Test.Qxb6627552aWalks1
import Derived.WideShapes
import Derived.DataReads
namespace Go.Proofs.Qxb6627552a
open Go.RowKit Go.WideShapes

theorem cell_lt {w : World} {a : Addr} {v : Value} (h : w.cell? a = some v) : a.block < w.heap.size := by
  rcases Nat.lt_or_ge a.block w.heap.size with h1 | h1
  · exact h1
  · simp [World.cell?, Array.getElem?_eq_none h1] at h

theorem cell_at {w : World} {a : Addr} {i : Nat} {v v0 : Value} (h0 : w.cell? (a.add 0) = some v0) (h : w.cell? (a.add i) = some v) : ∃ b off, a = ⟨b, off, none⟩ ∧ b < w.heap.size ∧ w.cell? ⟨b, off + i, none⟩ = some v := by
  obtain ⟨b, off, spot⟩ := a
  have hs := World.cell?_spot h0
  have hspot : spot = none := by simpa [Addr.add] using hs
  subst hspot
  rw [add_plain] at h
  exact ⟨b, off, rfl, cell_lt h, h⟩

theorem byt_of {w : World} {x : Addr} {len : Nat} {zs : List Int} (hl : len ≤ zs.length) (h : ∀ i, i < zs.length → w.cell? (x.add i) = some (.int .u8 (zs.getD i 0))) : Byt w.heap.size w (some x) len (fun i => zs.getD i 0) := by
  intro i hi
  obtain ⟨b, off, rfl, h1, h2⟩ := cell_at (h 0 (by omega)) (h i (by omega))
  exact ⟨b, off, rfl, h1, h2⟩
end Go.Proofs.Qxb6627552a
