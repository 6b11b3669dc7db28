/-
  FnTxQueuePushRemoveRoundTrip: the records, and the two trips (seat b6601613aM).
-/
import Derived.Test.Qxb6601613aModsTrip
namespace Go.Proofs.Qxb6601613aMods.q
open Go.ChangeShapes Go.WideShapes Go.ChangeAt Go.RowKit
set_option linter.unusedVariables false

theorem same_as_n {Q : Nat} {F B : Option Nat} {S : List Nat} {P N : Nat → Option Nat} (n H1 H2 H3 : Nat) (c1 c2 c3 : Nat) (L : List Nat) (w : World) (hL : Hid (L.length = n)) (hM : Hid (Mem w Q F B S P N)) (h1 : Hid (PRow w H1 (L.map some))) (h2 : Hid (PRow w H2 (L.map P))) (h3 : Hid (PRow w H3 (L.map N))) (hS : Hid (∀ x ∈ L, x ∈ S)) (hn : n ≤ 65536) :
    Calls Trym.prog 23 #[.pointer (some ⟨Q, 0, none⟩), .slice (some ⟨H1, 0, none⟩) n c1, .pointer (adr F), .pointer (adr B), .slice (some ⟨H2, 0, none⟩) n c2, .slice (some ⟨H3, 0, none⟩) n c3] w fun e w' => e = .returned (.bool true) ∧ ∃ m, w' = w.drewN m := by
  have e := hL.out
  subst e
  exact same_as H1 H2 H3 c1 c2 c3 L w hM h1 h2 h3 hS hn

/-- The three rows that the law keeps beside the queue. -/
structure Fin3 (w1 w : World) (Q H H2 H3 : Nat) (L S : List Nat) (F B : Option Nat) (P N : Nat → Option Nat) (R2 R3 : List (Option Nat)) : Prop where
  mem : Mem w Q F B S P N
  chain : Chain L F B P N
  sub : ∀ x ∈ L, x ∈ S
  r1 : PRow w H (L.map some)
  r2 : PRow w H2 R2
  r3 : PRow w H3 R3
  below : Below w1.heap.size w1 w
  hQ : w1.heap.size ≤ Q
  hS : ∀ x ∈ S, w1.heap.size ≤ x
  h2 : w1.heap.size ≤ H2
  h3 : w1.heap.size ≤ H3
  a1 : H ∉ Q :: S
  a2 : H2 ∉ Q :: S
  a3 : H3 ∉ Q :: S
  n12 : H ≠ H2
  n13 : H ≠ H3
  n23 : H2 ≠ H3

theorem take_set {R : List (Option Nat)} {n k : Nat} {v : Option Nat} (hR : R.length = n) (hv : R[k]? = some v) : (R.take k ++ List.replicate (n - k) none).set k v = R.take (k + 1) ++ List.replicate (n - (k + 1)) none := by
  have hk : k < R.length := (List.getElem?_eq_some_iff.1 hv).1
  obtain ⟨d, hd⟩ : ∃ d, n - k = d + 1 := ⟨n - k - 1, by omega⟩
  have hd2 : n - (k + 1) = d := by omega
  rw [hd, hd2, List.replicate_succ, List.set_append_right _ _ (by simp; omega), List.take_add_one, hv]
  have e : k - (R.take k).length = 0 := by simp; omega
  rw [e]
  simp

section
variable {w1 w : World} {Q H H2 H3 : Nat} {L S : List Nat} {F B : Option Nat} {P N : Nat → Option Nat} {R2 R3 : List (Option Nat)}

theorem Fin3.step (h : Fin3 w1 w Q H H2 H3 L S F B P N R2 R3) (k : Nat) (u v : Option Nat) :
    Fin3 w1 ((w.setCell ⟨H2, k, none⟩ (pv u)).setCell ⟨H3, k, none⟩ (pv v)) Q H H2 H3 L S F B P N (R2.set k u) (R3.set k v) :=
  { mem := (h.mem.setCell_far h.a2 _ _).setCell_far h.a3 _ _, chain := h.chain, sub := h.sub,
    r1 := (h.r1.other h.n12 _ _).other h.n13 _ _, r2 := (h.r2.set k u).other h.n23 _ _, r3 := (h.r3.other (Ne.symm h.n23) _ _).set k v,
    below := (h.below.setCell h.h2 _).setCell h.h3 _, hQ := h.hQ, hS := h.hS, h2 := h.h2, h3 := h.h3, a1 := h.a1, a2 := h.a2, a3 := h.a3, n12 := h.n12, n13 := h.n13, n23 := h.n23 }

theorem Fin3.drewN (h : Fin3 w1 w Q H H2 H3 L S F B P N R2 R3) (n : Nat) : Fin3 w1 (w.drewN n) Q H H2 H3 L S F B P N R2 R3 :=
  { mem := h.mem.drewN n, chain := h.chain, sub := h.sub, r1 := h.r1, r2 := h.r2, r3 := h.r3, below := below_drewN h.below n, hQ := h.hQ, hS := h.hS, h2 := h.h2, h3 := h.h3, a1 := h.a1, a2 := h.a2, a3 := h.a3, n12 := h.n12, n13 := h.n13, n23 := h.n23 }

/-- Behind a trip: the same chain, so the same links. -/
theorem Fin3.again (h : Fin3 w1 w Q H H2 H3 L S F B P N (L.map P) (L.map N)) {w' : World} {S' : List Nat} {F' B' : Option Nat} {P' N' : Nat → Option Nat} (hM : Mem w' Q F' B' S' P' N') (hC : Chain L F' B' P' N') (hsub : ∀ x ∈ L, x ∈ S')
    (k1 : PRow w' H (L.map some)) (k2 : PRow w' H2 (L.map P)) (k3 : PRow w' H3 (L.map N)) (hb : Below w1.heap.size w1 w') (hS : ∀ x ∈ S', w1.heap.size ≤ x) (b1 : H ∉ Q :: S') (b2 : H2 ∉ Q :: S') (b3 : H3 ∉ Q :: S') :
    F' = F ∧ B' = B ∧ Fin3 w1 w' Q H H2 H3 L S' F' B' P' N' (L.map P') (L.map N') := by
  obtain ⟨e1, e2, e3⟩ := chain_det h.chain hC
  have eP : L.map P' = L.map P := List.map_congr_left (fun b hb => (e3 b hb).1)
  have eN : L.map N' = L.map N := List.map_congr_left (fun b hb => (e3 b hb).2)
  refine ⟨e1, e2, ?_⟩
  rw [eP, eN]
  exact { mem := hM, chain := hC, sub := hsub, r1 := k1, r2 := k2, r3 := k3, below := hb, hQ := h.hQ, hS := hS, h2 := h.h2, h3 := h.h3, a1 := b1, a2 := b2, a3 := b3, n12 := h.n12, n13 := h.n13, n23 := h.n23 }

theorem not_new {w : World} {H Q : Nat} {S : List Nat} {xs : List (Option Nat)} (h : PRow w H xs) (ha : H ∉ Q :: S) : H ∉ Q :: (w.heap.size :: S) := fun hm => by
  rcases List.mem_cons.1 hm with e | hm
  · exact ha (e ▸ List.mem_cons_self)
  · rcases List.mem_cons.1 hm with e | hm
    · have := h.lt; omega
    · exact ha (List.mem_cons_of_mem _ hm)

/-- A fresh node is pushed and taken out again. -/
theorem Fin3.trip1 (h : Fin3 w1 w Q H H2 H3 L S F B P N (L.map P) (L.map N)) (s : Int) {w3 w4 : World} {F' B' : Option Nat} {P' N' : Nat → Option Nat}
    (hO1 : Only (Q :: (w.heap.size :: S)) (w.alloc (nodeObj s)) w3) (hM : Mem w4 Q F' B' (w.heap.size :: S) P' N') (hC : Chain ((L ++ [w.heap.size]).eraseIdx L.length) F' B' P' N') (hO2 : Only (Q :: (w.heap.size :: S)) w3 w4) :
    F' = F ∧ B' = B ∧ Fin3 w1 w4 Q H H2 H3 L (w.heap.size :: S) F' B' P' N' (L.map P') (L.map N') := by
  rw [erase_push] at hC
  have hO := hO1.trans hO2
  have hle := h.below.size
  refine h.again hM hC (fun x hx => List.mem_cons_of_mem _ (h.sub x hx)) ((h.r1.alloc _).only hO (not_new h.r1 h.a1)) ((h.r2.alloc _).only hO (not_new h.r2 h.a2)) ((h.r3.alloc _).only hO (not_new h.r3 h.a3)) ?_ ?_ (not_new h.r1 h.a1) (not_new h.r2 h.a2) (not_new h.r3 h.a3)
  · refine (h.below.alloc hle _).trans (hO.below (fun x hx => ?_))
    rcases List.mem_cons.1 hx with e | hx
    · rw [e]; exact h.hQ
    · rcases List.mem_cons.1 hx with e | hx
      · rw [e]; exact hle
      · exact h.hS x hx
  · intro x hx
    rcases List.mem_cons.1 hx with e | hx
    · rw [e]; exact hle
    · exact h.hS x hx

/-- The back node is taken out and pushed again. -/
theorem Fin3.trip2 (h : Fin3 w1 w Q H H2 H3 L S F B P N (L.map P) (L.map N)) {b : Nat} (hb : L[L.length - 1]? = some b) {w3 w4 : World} {F' B' : Option Nat} {P' N' : Nat → Option Nat}
    (hO1 : Only (Q :: S) w w3) (hM : Mem w4 Q F' B' S P' N') (hC : Chain (L.eraseIdx (L.length - 1) ++ [b]) F' B' P' N') (hO2 : Only (Q :: S) w3 w4) :
    F' = F ∧ B' = B ∧ Fin3 w1 w4 Q H H2 H3 L S F' B' P' N' (L.map P') (L.map N') := by
  rw [push_erase hb] at hC
  have hO := hO1.trans hO2
  refine h.again hM hC h.sub (h.r1.only hO h.a1) (h.r2.only hO h.a2) (h.r3.only hO h.a3) (h.below.trans (hO.below (fun x hx => ?_))) h.hS h.a1 h.a2 h.a3
  rcases List.mem_cons.1 hx with e | hx
  · rw [e]; exact h.hQ
  · exact h.hS x hx
end
end Go.Proofs.Qxb6601613aMods.q
