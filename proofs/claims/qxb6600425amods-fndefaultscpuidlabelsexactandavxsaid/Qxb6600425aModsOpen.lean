/-
  A slice of strings that came in (seat b6600425aM).
-/
import Derived.Test.Qxb6600425aModsStrs
import Derived.ShutString
import Derived.ChangeOld
import Derived.SliceStrings
import Derived.Carry
namespace Go.Proofs.Qxb6600425aMods.words
open Go.ChangeShapes Go.WideShapes Go.ChangeAt Go.RowKit
set_option linter.unusedVariables false

theorem own : ownKnob Trym.prog.godebug = none := by kernel_rfl
theorem laidOut : laidOutB Trym.prog = true := by kernel_rfl
theorem cells9 : Trym.prog.cellsOf 9 = 1 := by kernel_rfl

theorem lt_of_cell {w : World} {a : Addr} {v : Value} (h : w.cell? a = some v) : a.block < w.heap.size := by
  rcases Nat.lt_or_ge a.block w.heap.size with h1 | h1
  · exact h1
  · unfold World.cell? at h
    rw [Array.getElem?_eq_none h1] at h
    cases h

theorem open_strs {H : Type} {enc : TypeId × Value → H} {W : World} {a : Option Addr} {len cap : Nat} {d : DataW H} {ps : List MemPlace} (h : DataW.Trod enc Trym.prog W 0 (fun _ => true) true 22 (.slice a len cap) d ps) :
    ∃ ss : List ByteArray, len = ss.length ∧ ss.length ≤ maxLen ∧ Strs W a ss ∧ ∀ s ∈ ss, s.size ≤ maxLen := by
  obtain ⟨fuel, hf⟩ := h
  rcases open_strings Trym.underlying22 Trym.underlying9 cells9 hf with ⟨hcs, _⟩ | ⟨x, l, c, ss, hcs, _, hl, hm, hz, _, hcell, hws⟩
  · simp [Value.cells] at hcs
    obtain ⟨rfl, rfl, rfl⟩ := hcs
    exact ⟨[], rfl, Nat.zero_le _, Or.inl rfl, by simp⟩
  · simp [Value.cells] at hcs
    obtain ⟨rfl, rfl, rfl⟩ := hcs
    simp only [if_true] at hz
    have hlen : (ss.take len).length = len := by simp; omega
    refine ⟨ss.take len, hlen.symm, by omega, ?_, fun s hs => hws s (List.mem_of_mem_take hs)⟩
    by_cases h0 : len = 0
    · left; rw [h0]; simp
    · right
      obtain ⟨b, off, spot⟩ := x
      have hspot : spot = none := by simpa [Addr.add] using World.cell?_spot (hcell 0 (by omega))
      subst hspot
      refine ⟨b, off, rfl, ?_, fun j hj => ?_⟩
      · have := lt_of_cell (hcell 0 (by omega)); simpa [Addr.add] using this
      · have := hcell j (by omega)
        rw [add_plain] at this
        rw [this]
        congr 2
        have hj' : j < len := by omega
        simp [List.getD, hj']
end Go.Proofs.Qxb6600425aMods.words
