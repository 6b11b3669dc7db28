/-
  '==' between two pointers that came in (seat b6601613aM): some answer; the true one where they are one.
-/
import Derived.Test.Qxb6601613aModsHigh
import Derived.LaidEqlPtr
namespace Go.Proofs.Qxb6601613aMods.q
open Go.ChangeShapes Go.WideShapes Go.ChangeAt Go.RowKit
set_option linter.unusedVariables false

theorem cells_of {w : World} {a : Addr} {v : Value} (h : w.cell? a = some v) : ∃ c t m, w.heap[a.block]? = some (.cells c t m) := by
  unfold World.cell? at h
  split at h
  · exact ⟨_, _, _, by assumption⟩
  · cases h

def AnyB (w : World) (x : Result Bool) : Prop := ∃ r n, x = .ok r (w.drewN n)
theorem any_ite {w : World} {c : Prop} [Decidable c] {x y : Result Bool} (hx : AnyB w x) (hy : AnyB w y) : AnyB w (if c then x else y) := by
  split
  · exact hx
  · exact hy

theorem same_far {P : Program} (w : World) {a b : Addr} {ca cb : Array Value} {ta tb : TypeId} {ma mb : Nat × Nat} (ha : w.heap[a.block]? = some (.cells ca ta ma)) (hb : w.heap[b.block]? = some (.cells cb tb mb)) (hf : w.frozen? a = false) (hbl : ¬ a.block = b.block) :
    AnyB w ((sameAddr a b).run P w) := by
  simp [sameAddr, hbl, hf, noView, viewAt, World.shape?, ha, hb, mayBeOne, stringish]
  repeat' (first | exact ⟨_, 0, rfl⟩ | exact ⟨_, 1, rfl⟩ | refine any_ite ?_ ?_)

theorem same_any {P : Program} (w : World) {a b : Addr} {ca cb : Array Value} {ta tb : TypeId} {ma mb : Nat × Nat} (ha : w.heap[a.block]? = some (.cells ca ta ma)) (hb : w.heap[b.block]? = some (.cells cb tb mb)) (hf : w.frozen? a = false) :
    ∃ r n, (sameAddr a b).run P w = .ok r (w.drewN n) ∧ (a = b → r = true) := by
  by_cases hbl : a.block = b.block
  · refine ⟨a == b, 0, ?_, fun e => by simp [e]⟩
    simp [sameAddr, hbl, World.drewN]
  · obtain ⟨r, n, h⟩ := same_far (P := P) w ha hb hf hbl
    exact ⟨r, n, h, fun e => absurd (congrArg Addr.block e) hbl⟩

theorem info22 : ∃ j, Trym.prog.info? 22 = some j ∧ j.size = 1 := by
  have h : (Trym.prog.info? 22).map (fun i => i.size) = some 1 := by kernel_rfl
  obtain ⟨i, hi, hs⟩ := Option.map_eq_some_iff.1 h
  exact ⟨i, hi, hs⟩

theorem eql_any (w : World) (x : Option Addr) (g : Addr) (u : Value) (hg : w.cell? g = some u) (hx : ∀ a, x = some a → (∃ u', w.cell? a = some u') ∧ w.frozen? a = false) :
    ∃ r n, (binOp .eql 28 (.pointer x) (.pointer (some g))).run Trym.prog w = .ok (.bool r) (w.drewN n) ∧ (x = some g → r = true) := by
  cases x with
  | none =>
    refine ⟨false, 0, ?_, fun e => by cases e⟩
    have h : ∀ d : Nat, (Op.equalIn (d + 1) 28 (.pointer none) (.pointer (some g))).run Trym.prog w = .ok false w := fun d => by
      simp [Op.equalIn, run_underlying Trym.underlying28]
    simp only [binOp]
    simp [Op.equal, Op.maxDepth, h 9999, World.drewN]
  | some a =>
    obtain ⟨⟨u', hu⟩, hf⟩ := hx a rfl
    obtain ⟨ca, ta, ma, ha⟩ := cells_of hu
    obtain ⟨cb, tb, mb, hb⟩ := cells_of hg
    obtain ⟨r, n, hr, he⟩ := same_any (P := Trym.prog) w ha hb hf
    obtain ⟨j, hj, hs⟩ := info22
    refine ⟨r, n, ?_, fun e => he (Option.some.inj e)⟩
    have h : ∀ d : Nat, (Op.equalIn (d + 1) 28 (.pointer (some a)) (.pointer (some g))).run Trym.prog w = .ok r (w.drewN n) := fun d => by
      simp [Op.equalIn, run_underlying Trym.underlying28, sizeOf, typeInfo, hj, hs, hr]
    simp only [binOp]
    simp [Op.equal, Op.maxDepth, h 9999]
end Go.Proofs.Qxb6601613aMods.q
