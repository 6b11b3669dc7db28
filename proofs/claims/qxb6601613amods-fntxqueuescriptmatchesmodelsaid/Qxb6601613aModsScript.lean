/-
  FnTxQueueScriptMatchesModel: rows with room; the state (seat b6601613aM).
-/
import Derived.Test.Qxb6601613aModsTrip
namespace Go.Proofs.Qxb6601613aMods.q
open Go.ChangeShapes Go.WideShapes Go.ChangeAt Go.RowKit
set_option linter.unusedVariables false

/-- Block H is a row of n cells, the first of which are the pointers xs. -/
def ORow (w : World) (H n : Nat) (xs : List (Option Nat)) : Prop :=
  ∃ cur, w.heap[H]? = some (.cells cur 34 (0, 0)) ∧ xs.length ≤ n ∧ cur.size = n ∧ cur.toList.take xs.length = xs.map pv

theorem ORow.lt {w : World} {H n : Nat} {xs : List (Option Nat)} (h : ORow w H n xs) : H < w.heap.size := by
  obtain ⟨cur, h1, _⟩ := h; exact lt_of_heap h1
theorem ORow.le {w : World} {H n : Nat} {xs : List (Option Nat)} (h : ORow w H n xs) : xs.length ≤ n := by
  obtain ⟨cur, _, h1, _⟩ := h; exact h1
theorem ORow.cell {w : World} {H n : Nat} {xs : List (Option Nat)} (h : ORow w H n xs) {j : Nat} {x : Option Nat} (hj : xs[j]? = some x) : w.cell? ⟨H, j, none⟩ = some (.pointer (adr x)) := by
  obtain ⟨cur, h1, h2, h3, h4⟩ := h
  rw [cell_at h1 j]
  have hlt : j < xs.length := (List.getElem?_eq_some_iff.1 hj).1
  have := congrArg (fun l => l[j]?) h4
  simp only [List.getElem?_take, hlt, if_true, List.getElem?_map, hj] at this
  rw [← Array.getElem?_toList]
  simpa [pv] using this
theorem ORow.frozen {w : World} {H n : Nat} {xs : List (Option Nat)} (h : ORow w H n xs) (j : Nat) : w.frozen? ⟨H, j, none⟩ = false := by
  obtain ⟨cur, h1, _⟩ := h; exact frozen_at h1 j
theorem ORow.block {w w' : World} {H n : Nat} {xs : List (Option Nat)} (h : ORow w H n xs) (hb : w'.heap[H]? = w.heap[H]?) : ORow w' H n xs := by
  obtain ⟨cur, h1, h2⟩ := h; exact ⟨cur, hb.trans h1, h2⟩
theorem ORow.set {w : World} {H n : Nat} {xs : List (Option Nat)} (h : ORow w H n xs) (k : Nat) (v : Option Nat) : ORow (w.setCell ⟨H, k, none⟩ (pv v)) H n (xs.set k v) := by
  obtain ⟨cur, h1, h2, h3, h4⟩ := h
  refine ⟨_, heap_set h1 k (pv v), by simpa using h2, by simpa using h3, ?_⟩
  rw [List.length_set, Array.toList_setIfInBounds, List.take_set, h4, List.map_set]
theorem ORow.take {w : World} {H n : Nat} {xs : List (Option Nat)} (h : ORow w H n xs) (m : Nat) : ORow w H n (xs.take m) := by
  obtain ⟨cur, h1, h2, h3, h4⟩ := h
  have hle : (xs.take m).length ≤ xs.length := List.length_take_le' m xs
  refine ⟨cur, h1, by omega, h3, ?_⟩
  have : cur.toList.take (xs.take m).length = (cur.toList.take xs.length).take (xs.take m).length := by rw [List.take_take]; congr 1; omega
  rw [this, h4, ← List.map_take]
  congr 1
  rw [List.length_take]
  rcases Nat.le_total m xs.length with h | h
  · rw [Nat.min_eq_left h]
  · rw [Nat.min_eq_right h, List.take_length, List.take_of_length_le h]
theorem ORow.owns {w : World} {H n : Nat} {xs : List (Option Nat)} (h : ORow w H n xs) (hn : n ≤ maxLen) : w.ownsRow 0 34 1 (.slice (some ⟨H, 0, none⟩) xs.length n) xs.length (xs.map pv) := by
  obtain ⟨cur, h1, h2, h3, h4⟩ := h
  exact ⟨by simp, Or.inr ⟨H, n, cur, rfl, Nat.zero_le _, h1, h2, hn, by omega, by rw [Nat.mul_one]; exact h4⟩⟩
theorem ORow.of_owns {w : World} {base H n k : Nat} {xs : List (Option Nat)} (hk : xs.length = k) (h : w.ownsRow base 34 1 (.slice (some ⟨H, 0, none⟩) k n) k (xs.map pv)) : ORow w H n xs := by
  obtain ⟨_, h⟩ := h
  rcases h with ⟨h, _⟩ | ⟨g, cap, cur, hv, _, hb, hle, _, hcs, htk⟩
  · cases h
  · simp only [Value.slice.injEq, Option.some.injEq, Addr.mk.injEq] at hv
    obtain ⟨⟨rfl, _, _⟩, _, rfl⟩ := hv
    exact ⟨cur, hb, by omega, by omega, by rw [hk]; rw [Nat.mul_one] at htk; exact htk⟩

/-- The queue at block Q and four rows behind it; the nodes lie further on. -/
structure St (w1 w : World) (Q H1 H2 H3 H4 n : Nat) (S : List Nat) (F B : Option Nat) (P N : Nat → Option Nat) (X1 X2 X3 X4 : List (Option Nat)) : Prop where
  mem : Mem w Q F B S P N
  below : Below w1.heap.size w1 w
  hQ : w1.heap.size ≤ Q
  q1 : Q < H1
  q2 : H1 < H2
  q3 : H2 < H3
  q4 : H3 < H4
  hS : ∀ x ∈ S, H4 < x
  r1 : ORow w H1 n X1
  r2 : ORow w H2 n X2
  r3 : ORow w H3 n X3
  r4 : ORow w H4 n X4

section
variable {w1 w : World} {Q H1 H2 H3 H4 n : Nat} {S : List Nat} {F B : Option Nat} {P N : Nat → Option Nat} {X1 X2 X3 X4 : List (Option Nat)}

theorem St.apart (h : St w1 w Q H1 H2 H3 H4 n S F B P N X1 X2 X3 X4) {k : Nat} (h1 : Q < k) (h2 : k ≤ H4) : k ∉ Q :: S := fun hm => by
  rcases List.mem_cons.1 hm with e | hm
  · omega
  · have := h.hS _ hm; omega

theorem St.kept (h : St w1 w Q H1 H2 H3 H4 n S F B P N X1 X2 X3 X4) {w' : World} (hb : ∀ k, k < w.heap.size → w'.heap[k]? = w.heap[k]?) (hbel : Below w1.heap.size w1 w') : St w1 w' Q H1 H2 H3 H4 n S F B P N X1 X2 X3 X4 :=
  { mem := h.mem.kept (hb _ h.mem.ltQ) (fun b hb' => hb b (h.mem.ltS hb')), below := hbel, hQ := h.hQ, q1 := h.q1, q2 := h.q2, q3 := h.q3, q4 := h.q4, hS := h.hS, r1 := h.r1.block (hb _ h.r1.lt), r2 := h.r2.block (hb _ h.r2.lt), r3 := h.r3.block (hb _ h.r3.lt), r4 := h.r4.block (hb _ h.r4.lt) }
theorem St.alloc (h : St w1 w Q H1 H2 H3 H4 n S F B P N X1 X2 X3 X4) (o : Obj) : St w1 (w.alloc o) Q H1 H2 H3 H4 n S F B P N X1 X2 X3 X4 :=
  h.kept (fun k hk => Below.heap_alloc w o k hk) (h.below.alloc h.below.size o)
theorem St.drewN (h : St w1 w Q H1 H2 H3 H4 n S F B P N X1 X2 X3 X4) (m : Nat) : St w1 (w.drewN m) Q H1 H2 H3 H4 n S F B P N X1 X2 X3 X4 :=
  h.kept (fun _ _ => rfl) (below_drewN h.below m)
theorem St.new (h : St w1 w Q H1 H2 H3 H4 n S F B P N X1 X2 X3 X4) (s : Int) : St w1 (w.alloc (nodeObj s)) Q H1 H2 H3 H4 n (w.heap.size :: S) F B (upd P w.heap.size none) (upd N w.heap.size none) X1 X2 X3 X4 :=
  { mem := h.mem.new s, below := h.below.alloc h.below.size _, hQ := h.hQ, q1 := h.q1, q2 := h.q2, q3 := h.q3, q4 := h.q4,
    hS := fun x hx => by
      rcases List.mem_cons.1 hx with e | hx
      · rw [e]; exact h.r4.lt
      · exact h.hS x hx,
    r1 := h.r1.block (Below.heap_alloc w _ _ h.r1.lt), r2 := h.r2.block (Below.heap_alloc w _ _ h.r2.lt), r3 := h.r3.block (Below.heap_alloc w _ _ h.r3.lt), r4 := h.r4.block (Below.heap_alloc w _ _ h.r4.lt) }
theorem St.only (h : St w1 w Q H1 H2 H3 H4 n S F B P N X1 X2 X3 X4) {w' : World} {F' B' : Option Nat} {P' N' : Nat → Option Nat} (hO : Only (Q :: S) w w') (hM : Mem w' Q F' B' S P' N') : St w1 w' Q H1 H2 H3 H4 n S F' B' P' N' X1 X2 X3 X4 := by
  have hQ := h.hQ
  have q1 := h.q1
  have q2 := h.q2
  have q3 := h.q3
  have q4 := h.q4
  have hbel : Below w1.heap.size w1 w' := h.below.trans (hO.below (fun x hx => by
    rcases List.mem_cons.1 hx with e | hx
    · rw [e]; exact hQ
    · have := h.hS x hx; omega))
  exact { mem := hM, below := hbel, hQ := hQ, q1 := q1, q2 := q2, q3 := q3, q4 := q4, hS := h.hS, r1 := h.r1.block (hO.block _ (h.apart (by omega) (by omega))), r2 := h.r2.block (hO.block _ (h.apart (by omega) (by omega))), r3 := h.r3.block (hO.block _ (h.apart (by omega) (by omega))), r4 := h.r4.block (hO.block _ (h.apart (by omega) (by omega))) }

/-- One of the four rows has turned. -/
theorem St.mem_row (h : St w1 w Q H1 H2 H3 H4 n S F B P N X1 X2 X3 X4) {k : Nat} (h1 : Q < k) (h2 : k ≤ H4) {w' : World} (hg : w.grownBy w' (some k)) : Mem w' Q F B S P N ∧ Below w1.heap.size w1 w' ∧ ∀ j, j ≤ H4 → j ≠ k → w'.heap[j]? = w.heap[j]? := by
  have hQ := h.hQ
  have h4 := h.r4.lt
  refine ⟨h.mem.kept (hg.block _ h.mem.ltQ (by simp; omega)) (fun b hb => hg.block _ (h.mem.ltS hb) (fun e => ?_)), h.below.grown hg h.below.size (fun j hj => by cases hj; omega), fun j j2 jk => hg.block _ (by omega) (by simp; omega)⟩
  have := Option.some.inj e
  have := h.hS b hb
  omega
theorem St.app1 (h : St w1 w Q H1 H2 H3 H4 n S F B P N X1 X2 X3 X4) {w' : World} (hg : w.grownBy w' (some H1)) {X : List (Option Nat)} (hr : ORow w' H1 n X) : St w1 w' Q H1 H2 H3 H4 n S F B P N X X2 X3 X4 := by
  have q1 := h.q1
  have q2 := h.q2
  have q3 := h.q3
  have q4 := h.q4
  obtain ⟨hm, hb, hk⟩ := h.mem_row (k := H1) (by omega) (by omega) hg
  exact { mem := hm, below := hb, hQ := h.hQ, q1 := q1, q2 := q2, q3 := q3, q4 := q4, hS := h.hS, r1 := hr, r2 := h.r2.block (hk _ (by omega) (by omega)), r3 := h.r3.block (hk _ (by omega) (by omega)), r4 := h.r4.block (hk _ (by omega) (by omega)) }
theorem St.app2 (h : St w1 w Q H1 H2 H3 H4 n S F B P N X1 X2 X3 X4) {w' : World} (hg : w.grownBy w' (some H2)) {X : List (Option Nat)} (hr : ORow w' H2 n X) : St w1 w' Q H1 H2 H3 H4 n S F B P N X1 X X3 X4 := by
  have q1 := h.q1
  have q2 := h.q2
  have q3 := h.q3
  have q4 := h.q4
  obtain ⟨hm, hb, hk⟩ := h.mem_row (k := H2) (by omega) (by omega) hg
  exact { mem := hm, below := hb, hQ := h.hQ, q1 := q1, q2 := q2, q3 := q3, q4 := q4, hS := h.hS, r1 := h.r1.block (hk _ (by omega) (by omega)), r2 := hr, r3 := h.r3.block (hk _ (by omega) (by omega)), r4 := h.r4.block (hk _ (by omega) (by omega)) }
theorem St.app3 (h : St w1 w Q H1 H2 H3 H4 n S F B P N X1 X2 X3 X4) {w' : World} (hg : w.grownBy w' (some H3)) {X : List (Option Nat)} (hr : ORow w' H3 n X) : St w1 w' Q H1 H2 H3 H4 n S F B P N X1 X2 X X4 := by
  have q1 := h.q1
  have q2 := h.q2
  have q3 := h.q3
  have q4 := h.q4
  obtain ⟨hm, hb, hk⟩ := h.mem_row (k := H3) (by omega) (by omega) hg
  exact { mem := hm, below := hb, hQ := h.hQ, q1 := q1, q2 := q2, q3 := q3, q4 := q4, hS := h.hS, r1 := h.r1.block (hk _ (by omega) (by omega)), r2 := h.r2.block (hk _ (by omega) (by omega)), r3 := hr, r4 := h.r4.block (hk _ (by omega) (by omega)) }
theorem St.app4 (h : St w1 w Q H1 H2 H3 H4 n S F B P N X1 X2 X3 X4) {w' : World} (hg : w.grownBy w' (some H4)) {X : List (Option Nat)} (hr : ORow w' H4 n X) : St w1 w' Q H1 H2 H3 H4 n S F B P N X1 X2 X3 X := by
  have q1 := h.q1
  have q2 := h.q2
  have q3 := h.q3
  have q4 := h.q4
  obtain ⟨hm, hb, hk⟩ := h.mem_row (k := H4) (by omega) (by omega) hg
  exact { mem := hm, below := hb, hQ := h.hQ, q1 := q1, q2 := q2, q3 := q3, q4 := q4, hS := h.hS, r1 := h.r1.block (hk _ (by omega) (by omega)), r2 := h.r2.block (hk _ (by omega) (by omega)), r3 := h.r3.block (hk _ (by omega) (by omega)), r4 := hr }
theorem grownBy_setCell (w : World) (H k : Nat) (v : Value) : w.grownBy (w.setCell ⟨H, k, none⟩ v) (some H) :=
  ⟨rfl, rfl, rfl, by rw [World.size_setCell]; exact Nat.le_refl _, fun i _ hi => Below.heap_setCell w ⟨H, k, none⟩ v i (fun e => hi (by rw [e]))⟩
theorem St.set1 (h : St w1 w Q H1 H2 H3 H4 n S F B P N X1 X2 X3 X4) (k : Nat) (v : Option Nat) : St w1 (w.setCell ⟨H1, k, none⟩ (pv v)) Q H1 H2 H3 H4 n S F B P N (X1.set k v) X2 X3 X4 :=
  h.app1 (grownBy_setCell w H1 k (pv v)) (h.r1.set k v)
theorem St.rows (h : St w1 w Q H1 H2 H3 H4 n S F B P N X1 X2 X3 X4) {Y1 Y2 Y3 Y4 : List (Option Nat)} (e1 : X1 = Y1) (e2 : X2 = Y2) (e3 : X3 = Y3) (e4 : X4 = Y4) : St w1 w Q H1 H2 H3 H4 n S F B P N Y1 Y2 Y3 Y4 := by
  subst e1 e2 e3 e4; exact h
theorem St.take1 (h : St w1 w Q H1 H2 H3 H4 n S F B P N X1 X2 X3 X4) (m : Nat) : St w1 w Q H1 H2 H3 H4 n S F B P N (X1.take m) X2 X3 X4 :=
  { mem := h.mem, below := h.below, hQ := h.hQ, q1 := h.q1, q2 := h.q2, q3 := h.q3, q4 := h.q4, hS := h.hS, r1 := h.r1.take m, r2 := h.r2, r3 := h.r3, r4 := h.r4 }
end

/-- The held row while the places behind k are moved down: behind the moves up to i. -/
def shiftTo (L : List Nat) (k i : Nat) : List Nat := (List.range L.length).map fun j => if k ≤ j ∧ j < i then L.getD (j + 1) 0 else L.getD j 0

theorem shiftTo_length (L : List Nat) (k i : Nat) : (shiftTo L k i).length = L.length := by simp [shiftTo]
theorem shiftTo_at (L : List Nat) (k i j : Nat) (hj : j < L.length) : (shiftTo L k i)[j]? = some (if k ≤ j ∧ j < i then L.getD (j + 1) 0 else L.getD j 0) := by
  simp [shiftTo, hj]
theorem getD_at {L : List Nat} {j : Nat} (hj : j < L.length) : L[j]? = some (L.getD j 0) := by simp [List.getD, hj]
theorem shiftTo_start (L : List Nat) (k : Nat) : shiftTo L k k = L := by
  apply List.ext_getElem?
  intro j
  by_cases hj : j < L.length
  · rw [shiftTo_at L k k j hj, if_neg (by omega), getD_at hj]
  · rw [List.getElem?_eq_none (by rw [shiftTo_length]; omega), List.getElem?_eq_none (by omega)]
theorem shiftTo_step (L : List Nat) (k i : Nat) (hk : k ≤ i) (hi : i < L.length) : (shiftTo L k i).set i (L.getD (i + 1) 0) = shiftTo L k (i + 1) := by
  apply List.ext_getElem?
  intro j
  by_cases hj : j < L.length
  · rw [shiftTo_at L k (i + 1) j hj, List.getElem?_set]
    by_cases e : i = j
    · subst e
      rw [if_pos rfl, if_pos (by rw [shiftTo_length]; exact hi), if_pos (by omega)]
    · rw [if_neg e, shiftTo_at L k i j hj]
      congr 1
      by_cases h : k ≤ j ∧ j < i
      · rw [if_pos h, if_pos (by omega)]
      · rw [if_neg h, if_neg (by omega)]
  · rw [List.getElem?_eq_none (by rw [List.length_set, shiftTo_length]; omega), List.getElem?_eq_none (by rw [shiftTo_length]; omega)]
theorem shiftTo_end (L : List Nat) (k : Nat) (hk : k < L.length) : (shiftTo L k (L.length - 1)).take (L.length - 1) = L.eraseIdx k := by
  have hlen : (L.eraseIdx k).length = L.length - 1 := by rw [List.length_eraseIdx, if_pos hk]
  apply List.ext_getElem?
  intro j
  rw [List.getElem?_take, List.getElem?_eraseIdx]
  by_cases hj : j < L.length - 1
  · rw [if_pos hj, shiftTo_at L k _ j (by omega)]
    by_cases h : j < k
    · rw [if_pos h, if_neg (by omega), getD_at (by omega)]
    · rw [if_neg h, if_pos (by omega), getD_at (by omega)]
  · rw [if_neg hj, if_neg (by omega), List.getElem?_eq_none (by omega)]
end Go.Proofs.Qxb6601613aMods.q
