/-
  The queue in memory (seat b6601613aM).
-/
import Derived.Test.Qxb6601613aModsCopy
import Derived.RegionTactic
import Derived.LaidEqlPtr
namespace Go.Proofs.Qxb6601613aMods.q
open Go.ChangeShapes Go.WideShapes Go.ChangeAt Go.RowKit
set_option linter.unusedVariables false

def adr (x : Option Nat) : Option Addr := x.map fun b => ⟨b, 0, none⟩
def pv (x : Option Nat) : Value := .pointer (adr x)
def upd (f : Nat → Option Nat) (b : Nat) (v : Option Nat) : Nat → Option Nat := fun x => if x = b then v else f x

theorem upd_same (f : Nat → Option Nat) (b : Nat) (v : Option Nat) : upd f b v b = v := by simp [upd]
theorem upd_other (f : Nat → Option Nat) {b x : Nat} (v : Option Nat) (h : x ≠ b) : upd f b v x = f x := by simp [upd, h]

/-- Block Q is the queue; each block of S is a node with its two links. -/
structure Mem (w : World) (Q : Nat) (F B : Option Nat) (S : List Nat) (P N : Nat → Option Nat) : Prop where
  q : w.heap[Q]? = some (.cells #[pv F, pv B] 36 (0, 0))
  n : ∀ b ∈ S, b ≠ Q ∧ ∃ s, w.heap[b]? = some (.cells #[.slice none 0 0, .int .i64 s, pv (P b), pv (N b)] 52 (0, 0))

/-- w' is w but for the blocks of T. -/
structure Only (T : List Nat) (w w' : World) : Prop where
  os : w'.os = w.os
  tape : w'.tape = w.tape
  output : w'.output = w.output
  size : w'.heap.size = w.heap.size
  block : ∀ k, k ∉ T → w'.heap[k]? = w.heap[k]?

theorem Only.refl (T : List Nat) (w : World) : Only T w w := ⟨rfl, rfl, rfl, rfl, fun _ _ => rfl⟩
theorem Only.trans {T : List Nat} {a b c : World} (h : Only T a b) (k : Only T b c) : Only T a c :=
  ⟨k.os.trans h.os, k.tape.trans h.tape, k.output.trans h.output, k.size.trans h.size, fun i hi => (k.block i hi).trans (h.block i hi)⟩
theorem Only.setCell {T : List Nat} {a b : World} (h : Only T a b) {B i : Nat} (hB : B ∈ T) (v : Value) : Only T a (b.setCell ⟨B, i, none⟩ v) :=
  ⟨h.os, h.tape, h.output, by rw [World.size_setCell]; exact h.size, fun k hk => (Below.heap_setCell b ⟨B, i, none⟩ v k (fun e => hk (by rw [e]; exact hB))).trans (h.block k hk)⟩
theorem Only.drew {T : List Nat} {a b : World} (h : Only T a b) : Only T a b.drew := ⟨h.os, h.tape, h.output, h.size, h.block⟩
theorem Only.drewN {T : List Nat} {a b : World} (h : Only T a b) (n : Nat) : Only T a (b.drewN n) := ⟨h.os, h.tape, h.output, h.size, h.block⟩
theorem Only.below {T : List Nat} {a b : World} (h : Only T a b) {B : Nat} (hT : ∀ x ∈ T, B ≤ x) : Below B a b :=
  ⟨h.os, h.tape, h.output, by rw [h.size]; exact Nat.le_refl _, fun k hk => h.block k (fun hm => by have := hT k hm; omega)⟩
theorem Only.mono {T T' : List Nat} {a b : World} (h : Only T a b) (hs : ∀ x ∈ T, x ∈ T') : Only T' a b := ⟨h.os, h.tape, h.output, h.size, fun k hk => h.block k (fun hm => hk (hs k hm))⟩

theorem heap_set {w : World} {b : Nat} {c : Array Value} {t : TypeId} {m : Nat × Nat} (h : w.heap[b]? = some (.cells c t m)) (i : Nat) (v : Value) : (w.setCell ⟨b, i, none⟩ v).heap[b]? = some (.cells (c.setIfInBounds i v) t m) := by
  simp [World.setCell, Array.getElem?_modify, h]
theorem heap_other {w : World} {b k : Nat} (h : k ≠ b) (i : Nat) (v : Value) : (w.setCell ⟨b, i, none⟩ v).heap[k]? = w.heap[k]? := Below.heap_setCell w ⟨b, i, none⟩ v k h
theorem cell_at {w : World} {b : Nat} {c : Array Value} {t : TypeId} {m : Nat × Nat} (h : w.heap[b]? = some (.cells c t m)) (i : Nat) : w.cell? ⟨b, i, none⟩ = c[i]? := by
  simp [World.cell?, h]
theorem frozen_at {w : World} {b : Nat} {c : Array Value} {t : TypeId} (h : w.heap[b]? = some (.cells c t (0, 0))) (i : Nat) : w.frozen? ⟨b, i, none⟩ = false := by
  simp [World.frozen?, h]

section
variable {w : World} {Q : Nat} {F B : Option Nat} {S : List Nat} {P N : Nat → Option Nat}

theorem Mem.setPrev (h : Mem w Q F B S P N) {b : Nat} (hb : b ∈ S) (v : Option Nat) : Mem (w.setCell ⟨b, 2, none⟩ (pv v)) Q F B S (upd P b v) N := by
  refine ⟨(heap_other (Ne.symm (h.n b hb).1) _ _).trans h.q, fun x hx => ⟨(h.n x hx).1, ?_⟩⟩
  obtain ⟨s, hs⟩ := (h.n x hx).2
  by_cases e : x = b
  · subst e
    refine ⟨s, (heap_set hs 2 (pv v)).trans ?_⟩
    rw [upd_same]; rfl
  · refine ⟨s, (heap_other e _ _).trans ?_⟩
    rw [upd_other _ _ e]; exact hs

theorem Mem.setNext (h : Mem w Q F B S P N) {b : Nat} (hb : b ∈ S) (v : Option Nat) : Mem (w.setCell ⟨b, 3, none⟩ (pv v)) Q F B S P (upd N b v) := by
  refine ⟨(heap_other (Ne.symm (h.n b hb).1) _ _).trans h.q, fun x hx => ⟨(h.n x hx).1, ?_⟩⟩
  obtain ⟨s, hs⟩ := (h.n x hx).2
  by_cases e : x = b
  · subst e
    refine ⟨s, (heap_set hs 3 (pv v)).trans ?_⟩
    rw [upd_same]; rfl
  · refine ⟨s, (heap_other e _ _).trans ?_⟩
    rw [upd_other _ _ e]; exact hs

theorem Mem.setFront (h : Mem w Q F B S P N) (v : Option Nat) : Mem (w.setCell ⟨Q, 0, none⟩ (pv v)) Q v B S P N :=
  ⟨(heap_set h.q 0 (pv v)).trans rfl, fun x hx => ⟨(h.n x hx).1, by obtain ⟨s, hs⟩ := (h.n x hx).2; exact ⟨s, (heap_other (h.n x hx).1 _ _).trans hs⟩⟩⟩
theorem Mem.setBack (h : Mem w Q F B S P N) (v : Option Nat) : Mem (w.setCell ⟨Q, 1, none⟩ (pv v)) Q F v S P N :=
  ⟨(heap_set h.q 1 (pv v)).trans rfl, fun x hx => ⟨(h.n x hx).1, by obtain ⟨s, hs⟩ := (h.n x hx).2; exact ⟨s, (heap_other (h.n x hx).1 _ _).trans hs⟩⟩⟩
theorem Mem.drew (h : Mem w Q F B S P N) : Mem w.drew Q F B S P N := ⟨h.q, h.n⟩
theorem Mem.drewN (h : Mem w Q F B S P N) (n : Nat) : Mem (w.drewN n) Q F B S P N := ⟨h.q, h.n⟩
theorem Mem.congr {P' N' : Nat → Option Nat} (h : Mem w Q F B S P N) (hP : ∀ b ∈ S, P b = P' b) (hN : ∀ b ∈ S, N b = N' b) : Mem w Q F B S P' N' :=
  ⟨h.q, fun b hb => ⟨(h.n b hb).1, by obtain ⟨s, hs⟩ := (h.n b hb).2; rw [hP b hb, hN b hb] at hs; exact ⟨s, hs⟩⟩⟩
/-- Kept while other blocks turn. -/
theorem Mem.kept {w' : World} (h : Mem w Q F B S P N) (hq : w'.heap[Q]? = w.heap[Q]?) (hs : ∀ b ∈ S, w'.heap[b]? = w.heap[b]?) : Mem w' Q F B S P N :=
  ⟨hq.trans h.q, fun b hb => ⟨(h.n b hb).1, by obtain ⟨s, hh⟩ := (h.n b hb).2; exact ⟨s, (hs b hb).trans hh⟩⟩⟩

theorem Mem.front (h : Mem w Q F B S P N) : w.cell? ⟨Q, 0, none⟩ = some (pv F) := cell_at h.q 0
theorem Mem.back (h : Mem w Q F B S P N) : w.cell? ⟨Q, 1, none⟩ = some (pv B) := cell_at h.q 1
theorem Mem.frozenQ (h : Mem w Q F B S P N) (i : Nat) : w.frozen? ⟨Q, i, none⟩ = false := frozen_at h.q i
theorem Mem.prev (h : Mem w Q F B S P N) {b : Nat} (hb : b ∈ S) : w.cell? ⟨b, 2, none⟩ = some (pv (P b)) := by
  obtain ⟨s, hs⟩ := (h.n b hb).2; exact cell_at hs 2
theorem Mem.next (h : Mem w Q F B S P N) {b : Nat} (hb : b ∈ S) : w.cell? ⟨b, 3, none⟩ = some (pv (N b)) := by
  obtain ⟨s, hs⟩ := (h.n b hb).2; exact cell_at hs 3
theorem Mem.frozenN (h : Mem w Q F B S P N) {b : Nat} (hb : b ∈ S) (i : Nat) : w.frozen? ⟨b, i, none⟩ = false := by
  obtain ⟨s, hs⟩ := (h.n b hb).2; exact frozen_at hs i

theorem lt_of_heap {w : World} {b : Nat} {o : Obj} (h : w.heap[b]? = some o) : b < w.heap.size := by
  rcases Nat.lt_or_ge b w.heap.size with h1 | h1
  · exact h1
  · rw [Array.getElem?_eq_none h1] at h; cases h

theorem Mem.ltQ (h : Mem w Q F B S P N) : Q < w.heap.size := lt_of_heap h.q
theorem Mem.ltS (h : Mem w Q F B S P N) {b : Nat} (hb : b ∈ S) : b < w.heap.size := by
  obtain ⟨s, hs⟩ := (h.n b hb).2; exact lt_of_heap hs

/-- A new node. -/
def nodeObj (s : Int) : Obj := .cells #[.slice none 0 0, .int .i64 s, .pointer none, .pointer none] 52 (0, 0)

theorem heap_alloc_at (w : World) (o : Obj) : (w.alloc o).heap[w.heap.size]? = some o := by
  show (w.heap.push o)[w.heap.size]? = _
  simp
theorem Mem.new (h : Mem w Q F B S P N) (s : Int) : Mem (w.alloc (nodeObj s)) Q F B (w.heap.size :: S) (upd P w.heap.size none) (upd N w.heap.size none) := by
  refine ⟨(Below.heap_alloc w _ Q h.ltQ).trans h.q, fun b hb => ?_⟩
  rcases List.mem_cons.1 hb with e | hb
  · subst e
    refine ⟨fun e => by have := h.ltQ; omega, s, ?_⟩
    rw [upd_same, upd_same]
    exact heap_alloc_at w _
  · have hlt := h.ltS hb
    refine ⟨(h.n b hb).1, ?_⟩
    obtain ⟨s', hs⟩ := (h.n b hb).2
    refine ⟨s', ?_⟩
    rw [upd_other _ _ (by omega), upd_other _ _ (by omega)]
    exact (Below.heap_alloc w _ b hlt).trans hs
end

theorem neq_same (w : World) (x : Option Addr) : (binOp .neq 34 (.pointer x) (.pointer x)).run Trym.prog w = .ok (.bool false) w := by
  cases x with
  | none =>
    have h : ∀ d : Nat, (Op.equalIn (d + 1) 34 (.pointer none) (.pointer none)).run Trym.prog w = .ok true w := fun d => by
      simp [Op.equalIn, run_underlying Trym.underlying34]
    simp only [binOp]
    simp [Op.equal, Op.maxDepth, h 9999]
  | some a =>
    have hi : (Trym.prog.info? 52).map (fun i => i.size) = some 4 := by kernel_rfl
    obtain ⟨j, hj, hs⟩ := Option.map_eq_some_iff.1 hi
    have h : ∀ d : Nat, (Op.equalIn (d + 1) 34 (.pointer (some a)) (.pointer (some a))).run Trym.prog w = .ok true w := fun d => by
      simp [Op.equalIn, run_underlying Trym.underlying34, sizeOf, typeInfo, hj, run_sameAddr_same]
    simp only [binOp]
    simp [Op.equal, Op.maxDepth, h 9999]
end Go.Proofs.Qxb6601613aMods.q
