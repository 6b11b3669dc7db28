/-
  What came in (seat b6601613aM): slices of numbers, a slice of pointers to numbers.
-/
import Derived.Test.Qxb6601613aModsHigh
import Derived.ShutString
import Derived.ChangeOld
import Derived.Carry
import Derived.Deep.Slices
namespace Go.Proofs.Qxb6601613aMods.q
open Go.ChangeShapes Go.WideShapes Go.ChangeAt Go.RowKit Go.Deep
set_option linter.unusedVariables false

theorem own : ownKnob Trym.prog.godebug = none := by kernel_rfl
theorem laidOut : laidOutB Trym.prog = true := by kernel_rfl
theorem cells5 : Trym.prog.cellsOf 5 = 1 := by kernel_rfl
theorem cells3 : Trym.prog.cellsOf 3 = 1 := by kernel_rfl
theorem cells28 : Trym.prog.cellsOf 28 = 1 := by kernel_rfl
theorem cells22 : Trym.prog.cellsOf 22 = 1 := by kernel_rfl

theorem lt_of_cell {w : World} {a : Addr} {v : Value} (h : w.cell? a = some v) : a.block < w.heap.size := by
  rcases Nat.lt_or_ge a.block w.heap.size with h1 | h1
  · exact h1
  · unfold World.cell? at h
    rw [Array.getElem?_eq_none h1] at h
    cases h

theorem open_nums {H : Type} {enc : TypeId × Value → H} {W : World} {T E : TypeId} {k : IntKind} {a : Option Addr} {len cap : Nat} {d : DataW H} {ps : List MemPlace} (hT : Trym.prog.underlying T = some (.slice E)) (hE : Trym.prog.underlying E = some (.int k)) (hc : Trym.prog.cellsOf E = 1)
    (h : DataW.Trod enc Trym.prog W 0 (fun _ => true) true T (.slice a len cap) d ps) :
    ∃ ss : List Int, len = ss.length ∧ ss.length ≤ maxLen ∧ Row (Value.int k) 0 W a ss ∧ ∀ s ∈ ss, (Lit.int k s).wf = true := by
  obtain ⟨fuel, hf⟩ := h
  rcases open_ints hT hE hc hf with ⟨hcs, _⟩ | ⟨x, l, c, ss, hcs, _, hl, hm, hz, _, hcell, hws⟩
  · simp [Value.cells] at hcs
    obtain ⟨rfl, rfl, rfl⟩ := hcs
    exact ⟨[], rfl, Nat.zero_le _, Or.inl rfl, by simp⟩
  · simp [Value.cells] at hcs
    obtain ⟨rfl, rfl, rfl⟩ := hcs
    simp only [if_true] at hz
    have hlen : (ss.take len).length = len := by simp; omega
    refine ⟨ss.take len, hlen.symm, by omega, ?_, fun s hs => hws s (List.mem_of_mem_take hs)⟩
    by_cases h0 : len = 0
    · left; rw [h0]; simp
    · right
      obtain ⟨b, off, spot⟩ := x
      have hspot : spot = none := by simpa [Addr.add] using World.cell?_spot (hcell 0 (by omega))
      subst hspot
      refine ⟨b, off, rfl, ?_, fun j hj => ?_⟩
      · have := lt_of_cell (hcell 0 (by omega)); simpa [Addr.add] using this
      · have := hcell j (by omega)
        rw [add_plain] at this
        rw [this]
        congr 2
        have hj' : j < len := by omega
        simp [List.getD, hj']

def ptrOf : Value → Option Addr
  | .pointer p => p
  | _ => none

/-- The number at an address. -/
def numAt (w : World) (a : Addr) : Int :=
  match w.cell? a with
  | some (.int _ n) => n
  | _ => 0

theorem open_ptrs {H : Type} {enc : TypeId × Value → H} {W : World} {a : Option Addr} {len cap : Nat} {d : DataW H} {ps : List MemPlace} (h : DataW.Trod enc Trym.prog W 0 (fun _ => true) true 24 (.slice a len cap) d ps)
    (hfz : ∀ b off, MemPlace.cell b off ∈ ps → W.frozen? ⟨b, off, none⟩ = false) :
    ∃ xs : List (Option Addr), len = xs.length ∧ xs.length ≤ maxLen ∧ Row Value.pointer none W a xs ∧ PT W (numAt W) xs := by
  obtain ⟨fuel, hf⟩ := h
  rcases open_slice1 Trym.underlying24 cells28 hf with ⟨hcs, _⟩ | ⟨x, l, c, m, n, V, D, Pl, hcs, _, hl, hm, hmm, hx, hV⟩
  · simp [Value.cells] at hcs
    obtain ⟨rfl, rfl, rfl⟩ := hcs
    exact ⟨[], rfl, Nat.zero_le _, Or.inl rfl, fun a ha => by cases ha⟩
  · simp [Value.cells] at hcs
    obtain ⟨rfl, rfl, rfl⟩ := hcs
    simp only [if_true] at hmm
    subst hmm
    simp only [Prod.mk.injEq] at hx
    have hps := hx.2
    -- each element
    have each : ∀ i, i < len → V i = .pointer (ptrOf (V i)) ∧ ∀ y, ptrOf (V i) = some y → ∃ b o, y = ⟨b, o, none⟩ ∧ b < W.heap.size ∧ W.cell? ⟨b, o, none⟩ = some (.int .u64 (numAt W y)) ∧ W.frozen? ⟨b, o, none⟩ = false := fun i hi => by
      obtain ⟨h1, h2⟩ := hV i (by omega)
      rcases DataW.trod_pointer Trym.underlying28 h2 with ⟨hv, _⟩ | ⟨y, cs', z, n', _, hv, hxx, hcells, hd⟩
      · simp at hv
        rw [hv]
        exact ⟨rfl, fun y hy => by cases hy⟩
      · simp at hv
        rw [hv]
        refine ⟨rfl, fun y' hy => ?_⟩
        cases hy
        rw [cells22] at hcells
        obtain ⟨_, hlen, _⟩ := World.cells?_some hcells
        match cs', hlen with
        | [u], _ =>
          have hc := cell_of_cells?_one hcells
          obtain ⟨q, hq, _, _⟩ := DataW.trod_int Trym.underlying22 hd
          simp at hq
          subst hq
          obtain ⟨b, o, spot⟩ := y
          have hspot : spot = none := World.cell?_spot hc
          subst hspot
          refine ⟨b, o, rfl, lt_of_cell hc, ?_, hfz b o ?_⟩
          · unfold numAt; rw [hc]
          · rw [hps]
            refine List.mem_append.2 (.inr (List.mem_flatMap.2 ⟨i, List.mem_range.2 (by omega), ?_⟩))
            simp only [Prod.mk.injEq] at hxx
            rw [hxx.2, cells22]
            exact List.mem_append.2 (.inl (MemPlace.mem_row.2 ⟨0, by omega, by simp⟩))
    have hlen : ((List.range len).map fun i => ptrOf (V i)).length = len := by simp
    have hget : ∀ j, j < len → ((List.range len).map fun i => ptrOf (V i)).getD j none = ptrOf (V j) := fun j hj => by simp [List.getD, hj]
    refine ⟨(List.range len).map fun i => ptrOf (V i), hlen.symm, by omega, ?_, ?_⟩
    · by_cases h0 : len = 0
      · left; subst h0; rfl
      · right
        obtain ⟨b, off, spot⟩ := x
        have hspot : spot = none := by simpa [Addr.add] using World.cell?_spot (hV 0 (by omega)).1
        subst hspot
        refine ⟨b, off, rfl, ?_, fun j hj => ?_⟩
        · have := lt_of_cell (hV 0 (by omega)).1; simpa [Addr.add] using this
        · have hj' : j < len := by omega
          have := (hV j (by omega)).1
          rw [add_plain] at this
          rw [this, hget j hj', ← (each j hj').1]
    · intro y hy
      obtain ⟨i, hi, he⟩ := List.mem_map.1 hy
      exact (each i (List.mem_range.1 hi)).2 y he
end Go.Proofs.Qxb6601613aMods.q
