/-
  The contract of Defaults (seat b6600425aM).
-/
import Derived.Test.Qxb6600425aModsLists
namespace Go.Proofs.Qxb6600425aMods.words
open Go.ChangeShapes Go.WideShapes Go.ChangeAt Go.RowKit
set_option linter.unusedVariables false

/-- The four default lists. -/
def UL : List ByteArray := [⟨#[66, 77, 73, 49]⟩, ⟨#[66, 77, 73, 50]⟩, ⟨#[67, 76, 77, 85, 76]⟩, ⟨#[67, 77, 79, 86]⟩, ⟨#[67, 88, 49, 54]⟩, ⟨#[69, 82, 77, 83]⟩, ⟨#[70, 49, 54, 67]⟩, ⟨#[72, 84, 84]⟩, ⟨#[76, 90, 67, 78, 84]⟩, ⟨#[77, 77, 88]⟩, ⟨#[77, 77, 88, 69, 88, 84]⟩, ⟨#[78, 88]⟩, ⟨#[80, 79, 80, 67, 78, 84]⟩, ⟨#[82, 68, 82, 65, 78, 68]⟩, ⟨#[82, 68, 83, 69, 69, 68]⟩, ⟨#[82, 68, 84, 83, 67, 80]⟩, ⟨#[83, 71, 88]⟩, ⟨#[83, 71, 88, 76, 67]⟩, ⟨#[83, 83, 69]⟩, ⟨#[83, 83, 69, 50]⟩, ⟨#[83, 83, 69, 51]⟩, ⟨#[83, 83, 69, 52]⟩, ⟨#[83, 83, 69, 52, 50]⟩, ⟨#[83, 83, 83, 69, 51]⟩, ⟨#[84, 68, 88, 95, 71, 85, 69, 83, 84]⟩]
def KL : List ByteArray := [⟨#[78, 79, 95, 72, 90]⟩, ⟨#[78, 79, 95, 72, 90, 95, 73, 68, 76, 69]⟩, ⟨#[78, 79, 95, 72, 90, 95, 70, 85, 76, 76]⟩, ⟨#[80, 82, 69, 69, 77, 80, 84]⟩]
def PL : List ByteArray := [⟨#[48, 51]⟩, ⟨#[48, 98, 52, 48]⟩, ⟨#[49, 50]⟩]
def FL : List ByteArray := [⟨#[99, 108, 97, 115, 115]⟩, ⟨#[118, 101, 110, 100, 111, 114]⟩]

theorem UL_length : UL.length = 25 := rfl
theorem KL_length : KL.length = 4 := rfl
theorem PL_length : PL.length = 3 := rfl
theorem FL_length : FL.length = 2 := rfl

/-- The row of a list of strings in one block. -/
def rowOf (l : List ByteArray) : Obj := .cells (l.map Value.string).toArray 9

theorem rowOf_cell (w : World) (l : List ByteArray) (j : Nat) (hj : j < l.length) : (w.alloc (rowOf l)).cell? ⟨w.heap.size, j, none⟩ = some (.string (l.getD j ByteArray.empty)) := by
  unfold rowOf
  rw [World.cell?_alloc_at _ _ _ _ rfl]
  simp [List.getD, hj]

/-- The world behind Defaults. -/
def dw (w : World) : World :=
  ((((w.alloc (.cells #[.slice (some ⟨w.heap.size + 1, 0, none⟩) 25 25, .slice none 0 0, .slice (some ⟨w.heap.size + 1 + 1, 0, none⟩) 4 4, .slice (some ⟨w.heap.size + 1 + 1 + 1, 0, none⟩) 3 3, .slice (some ⟨w.heap.size + 1 + 1 + 1 + 1, 0, none⟩) 2 2] 27)).alloc (rowOf UL)).alloc (rowOf KL)).alloc (rowOf PL)).alloc (rowOf FL)

theorem size_alloc (w : World) (o : Obj) : (w.alloc o).heap.size = w.heap.size + 1 := by
  show (w.heap.push o).size = _
  rw [Array.size_push]

theorem dw_size (w : World) : (dw w).heap.size = w.heap.size + 5 := by
  unfold dw
  simp only [size_alloc]

theorem dw_below (w : World) : Below w.heap.size w (dw w) := by
  unfold dw
  refine Below.alloc (Below.alloc (Below.alloc (Below.alloc (Below.alloc (Below.refl _ _) (Nat.le_refl _) _) ?_ _) ?_ _) ?_ _) ?_ _ <;> simp only [size_alloc] <;> omega

theorem dw_grown (w : World) : Grown w (dw w) := by
  unfold dw rowOf
  exact ((((Grown.refl w).alloc _ _).alloc _ _).alloc _ _).alloc _ _ |>.alloc _ _

theorem dw_U (w : World) (j : Nat) (hj : j < UL.length) : (dw w).cell? ⟨w.heap.size + 1, j, none⟩ = some (.string (UL.getD j ByteArray.empty)) := by
  unfold dw
  rw [World.cell?_alloc_past _ _ _ (by simp only [size_alloc]; omega), World.cell?_alloc_past _ _ _ (by simp only [size_alloc]; omega), World.cell?_alloc_past _ _ _ (by simp only [size_alloc]; omega)]
  rw [← rowOf_cell (w.alloc _) UL j hj, size_alloc]

theorem dw_K (w : World) (j : Nat) (hj : j < KL.length) : (dw w).cell? ⟨w.heap.size + 2, j, none⟩ = some (.string (KL.getD j ByteArray.empty)) := by
  unfold dw
  rw [World.cell?_alloc_past _ _ _ (by simp only [size_alloc]; omega), World.cell?_alloc_past _ _ _ (by simp only [size_alloc]; omega)]
  rw [← rowOf_cell ((w.alloc _).alloc _) KL j hj, size_alloc, size_alloc]

theorem dw_P (w : World) (j : Nat) (hj : j < PL.length) : (dw w).cell? ⟨w.heap.size + 3, j, none⟩ = some (.string (PL.getD j ByteArray.empty)) := by
  unfold dw
  rw [World.cell?_alloc_past _ _ _ (by simp only [size_alloc]; omega)]
  rw [← rowOf_cell (((w.alloc _).alloc _).alloc _) PL j hj, size_alloc, size_alloc, size_alloc]

theorem dw_F (w : World) (j : Nat) (hj : j < FL.length) : (dw w).cell? ⟨w.heap.size + 4, j, none⟩ = some (.string (FL.getD j ByteArray.empty)) := by
  unfold dw
  rw [← rowOf_cell ((((w.alloc _).alloc _).alloc _).alloc _) FL j hj, size_alloc, size_alloc, size_alloc, size_alloc]

theorem defaults_any (w : World) :
    Calls Trym.prog 21 #[] w fun e w' => e = .returned (.agg #[.slice (some ⟨w.heap.size + 1, 0, none⟩) 25 25, .slice none 0 0, .slice (some ⟨w.heap.size + 2, 0, none⟩) 4 4, .slice (some ⟨w.heap.size + 3, 0, none⟩) 3 3, .slice (some ⟨w.heap.size + 4, 0, none⟩) 2 2]) ∧ w' = dw w := by
  go_enter Trym.func21, Trym.ntmps21
  go_wp2
  exact bodyPost_ret (v := .agg #[.slice (some ⟨w.heap.size + 1, 0, none⟩) 25 25, .slice none 0 0, .slice (some ⟨w.heap.size + 2, 0, none⟩) 4 4, .slice (some ⟨w.heap.size + 3, 0, none⟩) 3 3, .slice (some ⟨w.heap.size + 4, 0, none⟩) 2 2]) (by simp [results, Trym.results21, go_sem]) rfl ⟨rfl, rfl⟩
end Go.Proofs.Qxb6600425aMods.words
