/-
  FnTxQueueScriptMatchesModel: the state between two rounds (seat b6601613aM).
-/
import Derived.Test.Qxb6601613aModsChainIs
namespace Go.Proofs.Qxb6601613aMods.q
open Go.ChangeShapes Go.WideShapes Go.ChangeAt Go.RowKit
set_option linter.unusedVariables false

theorem zz12 (a : Option Addr) (l c : Nat) (w : World) (h : l ≤ maxLen) :
    Calls Trym.prog 12 #[.slice a l c] w fun e w' => SomeBoolT e ∧ w' = w := by
  unfold maxLen at h
  go_enter Trym.func12, Trym.ntmps12
  go_wp2_with fail
  all_goals (go_ret; exact ⟨⟨_, rfl⟩, rfl⟩)

theorem info34' : (Trym.prog.info? 34).map (fun i => (i.zero, i.size, i.bytes)) = some (some (.pointer none), 1, 8) := by kernel_rfl

theorem ORow.owns_n {w : World} {H n l : Nat} {xs : List (Option Nat)} (h : ORow w H n xs) (hx : xs.length = l) (hn : n ≤ maxLen) : w.ownsRow 0 34 1 (.slice (some ⟨H, 0, none⟩) l n) l (xs.map pv) := by
  subst hx; exact h.owns hn
theorem ORow.grew {w : World} {H n l : Nat} {xs : List (Option Nat)} (x : Option Nat) (hx : xs.length = l) (h : w.ownsRow 0 34 1 (.slice (some ⟨H, 0, none⟩) (l + 1) n) (l + 1) (xs.map pv ++ [.pointer (adr x)])) : ORow w H n (xs ++ [x]) :=
  ORow.of_owns (k := l + 1) (by simp [hx]) (by rw [List.map_append]; exact h)

theorem one_ptr (x : Option Addr) : ∀ u ∈ [Value.pointer x], u.oneCell' = true := by
  intro u hu
  simp at hu
  subst hu
  rfl

theorem cell_new (w : World) (x : Value) (t : TypeId) (m : Nat × Nat) : ∀ j u, [x][j]? = some u → (w.alloc (.cells #[x] t m)).cell? ((⟨w.heap.size, 0, none⟩ : Addr).add j) = some u := by
  intro j u hj
  match j, hj with
  | 0, hj =>
    simp at hj
    subst hj
    exact (cell_at (heap_alloc_at w _) 0).trans rfl

theorem St.start {w1 w2 w3 w4 w5 : World} {n : Nat} (P N : Nat → Option Nat) (g2 : (w1.alloc (.cells #[.pointer none, .pointer none] 36 (0, 0))).grownBy w2 none) (g3 : w2.grownBy w3 none) (g4 : w3.grownBy w4 none) (g5 : w4.grownBy w5 none)
    (r1 : ORow w2 (w1.heap.size + 1) n []) (r2 : ORow w3 w2.heap.size n []) (r3 : ORow w4 w3.heap.size n []) (r4 : ORow w5 w4.heap.size n []) :
    St w1 w5 w1.heap.size (w1.heap.size + 1) w2.heap.size w3.heap.size w4.heap.size n [] none none P N [] [] [] [] := by
  have l1 := r1.lt
  have l2 := r2.lt
  have l3 := r3.lt
  have l4 := r4.lt
  have u3 : ∀ k, k < w2.heap.size → w3.heap[k]? = w2.heap[k]? := fun k hk => g3.block k hk (by simp)
  have u4 : ∀ k, k < w3.heap.size → w4.heap[k]? = w3.heap[k]? := fun k hk => g4.block k hk (by simp)
  have u5 : ∀ k, k < w4.heap.size → w5.heap[k]? = w4.heap[k]? := fun k hk => g5.block k hk (by simp)
  have hq : w5.heap[w1.heap.size]? = some (.cells #[.pointer none, .pointer none] 36 (0, 0)) := by
    rw [u5 _ (by omega), u4 _ (by omega), u3 _ (by omega)]
    exact (g2.block w1.heap.size (by rw [size_alloc]; omega) (by simp)).trans (heap_alloc_at w1 _)
  have b2 := ((Below.refl w1.heap.size w1).alloc (Nat.le_refl _) (.cells #[.pointer none, .pointer none] 36 (0, 0))).grown g2 (by rw [size_alloc]; omega) (fun k hk => by cases hk)
  have b3 := b2.grown g3 (by omega) (fun k hk => by cases hk)
  have b4 := b3.grown g4 (by omega) (fun k hk => by cases hk)
  have b5 := b4.grown g5 (by omega) (fun k hk => by cases hk)
  exact { mem := ⟨hq, fun b hb => (by cases hb)⟩, below := b5, hQ := Nat.le_refl _, q1 := Nat.lt_succ_self _, q2 := l1, q3 := l2, q4 := l3, hS := fun x hx => (by cases hx), r1 := ((r1.block (u3 _ l1)).block (u4 _ (by omega))).block (u5 _ (by omega)), r2 := (r2.block (u4 _ l2)).block (u5 _ (by omega)), r3 := r3.block (u5 _ l3), r4 := r4 }

/-- Between two rounds: L is held, D is gone. -/
structure Now (w1 w : World) (Q H1 H2 H3 H4 n l d : Nat) (L D S : List Nat) (F B : Option Nat) (P N : Nat → Option Nat) : Prop where
  st : St w1 w Q H1 H2 H3 H4 n S F B P N (L.map some) (D.map some) (D.map P) (D.map N)
  chain : Chain L F B P N
  sub : ∀ x ∈ L, x ∈ S
  subD : ∀ x ∈ D, x ∈ S
  apart : ∀ x ∈ D, x ∉ L
  hl : L.length = l
  hd : D.length = d

section
variable {w1 w : World} {Q H1 H2 H3 H4 n l d : Nat} {L D S : List Nat} {F B : Option Nat} {P N : Nat → Option Nat}

theorem Now.drewN (h : Now w1 w Q H1 H2 H3 H4 n l d L D S F B P N) (m : Nat) : Now w1 (w.drewN m) Q H1 H2 H3 H4 n l d L D S F B P N :=
  { st := h.st.drewN m, chain := h.chain, sub := h.sub, subD := h.subD, apart := h.apart, hl := h.hl, hd := h.hd }

theorem Now.fresh (h : Now w1 w Q H1 H2 H3 H4 n l d L D S F B P N) {b : Nat} (hb : b ∈ S) : b ≠ w.heap.size := fun e => by have := h.st.mem.ltS hb; omega

theorem Now.chainNew (h : Now w1 w Q H1 H2 H3 H4 n l d L D S F B P N) : Chain L F B (upd P w.heap.size none) (upd N w.heap.size none) :=
  chain_congr h.chain (fun b hb => ⟨upd_other _ _ (h.fresh (h.sub b hb)), upd_other _ _ (h.fresh (h.sub b hb))⟩)

/-- A new node has been pushed; the held row is still the old one. -/
theorem Now.pushed (h : Now w1 w Q H1 H2 H3 H4 n l d L D S F B P N) (v : Int) {w4 : World} {F' : Option Nat} {P' N' : Nat → Option Nat}
    (hM : Mem w4 Q F' (some w.heap.size) (w.heap.size :: S) P' N') (hfr : ∀ b, b ∉ L → b ≠ w.heap.size → P' b = upd P w.heap.size none b ∧ N' b = upd N w.heap.size none b) (hO : Only (Q :: (w.heap.size :: S)) (w.alloc (nodeObj v)) w4) :
    St w1 w4 Q H1 H2 H3 H4 n (w.heap.size :: S) F' (some w.heap.size) P' N' (L.map some) (D.map some) (D.map P') (D.map N') := by
  have eP : D.map P' = D.map P := List.map_congr_left (fun b hb => by
    have hne := h.fresh (h.subD b hb)
    rw [(hfr b (h.apart b hb) hne).1, upd_other _ _ hne])
  have eN : D.map N' = D.map N := List.map_congr_left (fun b hb => by
    have hne := h.fresh (h.subD b hb)
    rw [(hfr b (h.apart b hb) hne).2, upd_other _ _ hne])
  rw [eP, eN]
  exact (h.st.new v).only hO hM

theorem Now.push_end (h : Now w1 w Q H1 H2 H3 H4 n l d L D S F B P N) {w4 w5 : World} {F' : Option Nat} {P' N' : Nat → Option Nat} {o : Obj}
    (hst : St w1 w4 Q H1 H2 H3 H4 n (w.heap.size :: S) F' (some w.heap.size) P' N' (L.map some) (D.map some) (D.map P') (D.map N')) (hC : Chain (L ++ [w.heap.size]) F' (some w.heap.size) P' N')
    (hg : (w4.alloc o).grownBy w5 (some H1)) (hr : ORow w5 H1 n (L.map some ++ [some w.heap.size])) :
    Now w1 w5 Q H1 H2 H3 H4 n (l + 1) d (L ++ [w.heap.size]) D (w.heap.size :: S) F' (some w.heap.size) P' N' := by
  have hr' : ORow w5 H1 n ((L ++ [w.heap.size]).map some) := by rw [List.map_append]; exact hr
  refine { st := (hst.alloc o).app1 hg hr', chain := hC, sub := fun x hx => ?_, subD := fun x hx => List.mem_cons_of_mem _ (h.subD x hx), apart := fun x hx hm => ?_, hl := by simp [h.hl], hd := h.hd }
  · rcases List.mem_append.1 hx with hx | hx
    · exact List.mem_cons_of_mem _ (h.sub x hx)
    · rw [List.mem_singleton] at hx; rw [hx]; exact List.mem_cons_self
  · rcases List.mem_append.1 hm with hm | hm
    · exact h.apart x hx hm
    · rw [List.mem_singleton] at hm
      exact h.fresh (h.subD x hx) hm

/-- The node at place k has been taken out; the rows are still the old ones. -/
theorem Now.removed (h : Now w1 w Q H1 H2 H3 H4 n l d L D S F B P N) {k : Nat} {w4 : World} {F' B' : Option Nat} {P' N' : Nat → Option Nat}
    (hM : Mem w4 Q F' B' S P' N') (hfr : ∀ b, b ∉ L.eraseIdx k → P' b = P b ∧ N' b = N b) (hO : Only (Q :: S) w w4) :
    St w1 w4 Q H1 H2 H3 H4 n S F' B' P' N' ((shiftTo L k k).map some) (D.map some) (D.map P') (D.map N') := by
  have hx : ∀ b ∈ D, b ∉ L.eraseIdx k := fun b hb hm => h.apart b hb (List.mem_of_mem_eraseIdx hm)
  have eP : D.map P' = D.map P := List.map_congr_left (fun b hb => (hfr b (hx b hb)).1)
  have eN : D.map N' = D.map N := List.map_congr_left (fun b hb => (hfr b (hx b hb)).2)
  rw [eP, eN, shiftTo_start]
  exact h.st.only hO hM

/-- One place has been moved down. -/
theorem shifted {X2 X3 X4 : List (Option Nat)} {k i : Nat} (h : St w1 w Q H1 H2 H3 H4 n S F B P N ((shiftTo L k i).map some) X2 X3 X4) (hk : k ≤ i) (hi : i < L.length) :
    St w1 (w.setCell ⟨H1, i, none⟩ (pv (some (L.getD (i + 1) 0)))) Q H1 H2 H3 H4 n S F B P N ((shiftTo L k (i + 1)).map some) X2 X3 X4 := by
  have := h.set1 i (some (L.getD (i + 1) 0))
  rw [← List.map_set, shiftTo_step L k i hk hi] at this
  exact this

theorem shift_end {X2 X3 X4 : List (Option Nat)} {k i : Nat} (h : St w1 w Q H1 H2 H3 H4 n S F B P N ((shiftTo L k i).map some) X2 X3 X4) (hk : k < L.length) (hi : i = L.length - 1) :
    St w1 w Q H1 H2 H3 H4 n S F B P N ((L.eraseIdx k).map some) X2 X3 X4 := by
  have := h.take1 (L.length - 1)
  rw [hi, ← List.map_take, shiftTo_end L k hk] at this
  exact this

theorem Now.remove_end (h : Now w1 w Q H1 H2 H3 H4 n l d L D S F B P N) {k b : Nat} (hb : L[k]? = some b) {w5 : World} {F' B' : Option Nat} {P' N' : Nat → Option Nat}
    (hfr : ∀ b, b ∉ L.eraseIdx k → P' b = P b ∧ N' b = N b) (hC : Chain (L.eraseIdx k) F' B' P' N')
    (hst : St w1 w5 Q H1 H2 H3 H4 n S F' B' P' N' ((L.eraseIdx k).map some) (D.map some ++ [some b]) (D.map P' ++ [P b]) (D.map N' ++ [N b])) :
    Now w1 w5 Q H1 H2 H3 H4 n (l - 1) (d + 1) (L.eraseIdx k) (D ++ [b]) S F' B' P' N' := by
  have hbn : b ∉ L.eraseIdx k := not_mem_erase h.chain.nodup hb
  have e := hfr b hbn
  have hk := at_lt hb
  refine { st := hst.rows rfl (by simp) (by simp [e.1]) (by simp [e.2]), chain := hC, sub := fun x hx => h.sub x (List.mem_of_mem_eraseIdx hx), subD := fun x hx => ?_, apart := fun x hx hm => ?_, hl := by rw [List.length_eraseIdx, if_pos hk, h.hl], hd := by simp [h.hd] }
  · rcases List.mem_append.1 hx with hx | hx
    · exact h.subD x hx
    · rw [List.mem_singleton] at hx; rw [hx]; exact h.sub b (at_mem hb)
  · rcases List.mem_append.1 hx with hx | hx
    · exact h.apart x hx (List.mem_of_mem_eraseIdx hm)
    · rw [List.mem_singleton] at hx
      rw [hx] at hm
      exact hbn hm

theorem chain_is_n {V : World} (H c k : Nat) (M : List Nat) (hk : Hid (M.length = k)) (hM : Hid (Mem V Q F B S P N)) (HC : Hid (Chain M F B P N)) (hS : Hid (∀ x ∈ M, x ∈ S)) (hR : Hid (ORow V H c (M.map some))) (hn : k ≤ 4096) :
    Calls Trym.prog 19 #[.pointer (some ⟨Q, 0, none⟩), .slice (some ⟨H, 0, none⟩) k c] V fun e w' => e = .returned (.bool true) ∧ ∃ m, w' = V.drewN m := by
  have e := hk.out
  subst e
  exact chain_is H c M V hM HC hS hR hn
end
end Go.Proofs.Qxb6601613aMods.q
