/-
  FnTxQueuePushRemoveRoundTrip: the building (seat b6601613aM).
-/
import Derived.Test.Qxb6601613aModsSame
namespace Go.Proofs.Qxb6601613aMods.q
open Go.ChangeShapes Go.WideShapes Go.ChangeAt Go.RowKit
set_option linter.unusedVariables false

def SomeBoolT (e : Ending) : Prop := ∃ r : Bool, e = .returned (.bool r)

theorem zz20 (a : Option Addr) (l c : Nat) (t : Int) (w : World) (h : l ≤ maxLen) :
    Calls Trym.prog 20 #[.slice a l c, .int .i64 t] w fun e w' => SomeBoolT e ∧ w' = w := by
  unfold maxLen at h
  go_enter Trym.func20, Trym.ntmps20
  go_wp2_with fail
  all_goals (go_ret; exact ⟨⟨_, rfl⟩, rfl⟩)

theorem chain_congr {L : List Nat} {F B : Option Nat} {P N P' N' : Nat → Option Nat} (h : Chain L F B P N) (hc : ∀ b ∈ L, P' b = P b ∧ N' b = N b) : Chain L F B P' N' :=
  ⟨h.nodup, h.front, h.back, fun i b hi => by rw [(hc b (at_mem hi)).1]; exact h.prev i b hi, fun i b hi => by rw [(hc b (at_mem hi)).2]; exact h.next i b hi⟩

theorem chain_det {L : List Nat} {F B F' B' : Option Nat} {P N P' N' : Nat → Option Nat} (h : Chain L F B P N) (h' : Chain L F' B' P' N') : F' = F ∧ B' = B ∧ ∀ b ∈ L, P' b = P b ∧ N' b = N b := by
  refine ⟨h'.front.trans h.front.symm, h'.back.trans h.back.symm, fun b hb => ?_⟩
  obtain ⟨i, hi⟩ := List.getElem?_of_mem hb
  exact ⟨(h'.prev i b hi).trans (h.prev i b hi).symm, (h'.next i b hi).trans (h.next i b hi).symm⟩

theorem erase_push (L : List Nat) (p : Nat) : (L ++ [p]).eraseIdx L.length = L := by
  apply List.ext_getElem?
  intro i
  rw [List.getElem?_eraseIdx]
  split
  · rename_i h; rw [List.getElem?_append_left h]
  · rename_i h
    rw [List.getElem?_eq_none (by simp; omega), List.getElem?_eq_none (by omega)]

theorem push_erase {L : List Nat} {b : Nat} (hb : L[L.length - 1]? = some b) : L.eraseIdx (L.length - 1) ++ [b] = L := by
  have hlt := at_lt hb
  have hlen : (L.eraseIdx (L.length - 1)).length = L.length - 1 := by rw [List.length_eraseIdx, if_pos (by omega)]
  apply List.ext_getElem?
  intro i
  rcases Nat.lt_trichotomy i (L.length - 1) with h | h | h
  · rw [List.getElem?_append_left (by omega), List.getElem?_eraseIdx, if_pos h]
  · subst h
    rw [List.getElem?_append_right (by omega), hlen, hb]
    simp
  · rw [List.getElem?_eq_none (by simp; omega), List.getElem?_eq_none (by omega)]

theorem not_mem_erase {L : List Nat} (hn : L.Nodup) {k b : Nat} (hb : L[k]? = some b) : b ∉ L.eraseIdx k := fun h => by
  obtain ⟨i, hi⟩ := List.getElem?_of_mem h
  rw [List.getElem?_eraseIdx] at hi
  split at hi
  · have := at_inj hn hi hb; omega
  · have := at_inj hn hi hb; omega

/-- The queue built so far: L pushed; row H holds them, the rest nil. -/
structure Built (w1 wr : World) (Q H n : Nat) (L S : List Nat) (F B : Option Nat) (P N : Nat → Option Nat) : Prop where
  mem : Mem wr Q F B S P N
  chain : Chain L F B P N
  sub : ∀ x ∈ L, x ∈ S
  row : PRow wr H (L.map some ++ List.replicate (n - L.length) none)
  below : Below w1.heap.size w1 wr
  hQ : w1.heap.size ≤ Q
  hH : w1.heap.size ≤ H
  hS : ∀ x ∈ S, w1.heap.size ≤ x
  apart : H ∉ Q :: S

theorem set_row (L : List Nat) (p n : Nat) (h : L.length < n) : (L.map some ++ List.replicate (n - L.length) none).set L.length (some p) = (L ++ [p]).map some ++ List.replicate (n - (L ++ [p]).length) none := by
  obtain ⟨d, hd⟩ : ∃ d, n - L.length = d + 1 := ⟨n - L.length - 1, by omega⟩
  have hd2 : n - (L ++ [p]).length = d := by simp; omega
  rw [hd, hd2, List.replicate_succ, List.set_append_right _ _ (by simp)]
  simp

theorem Mem.setCell_far {w : World} {Q : Nat} {F B : Option Nat} {S : List Nat} {P N : Nat → Option Nat} (h : Mem w Q F B S P N) {H : Nat} (hH : H ∉ Q :: S) (i : Nat) (v : Value) : Mem (w.setCell ⟨H, i, none⟩ v) Q F B S P N :=
  h.kept (heap_other (fun e => hH (by rw [← e]; simp)) i v) (fun b hb => heap_other (fun e => hH (by rw [← e]; simp [hb])) i v)

section
variable {w1 wr : World} {Q H n : Nat} {L S : List Nat} {F B : Option Nat} {P N : Nat → Option Nat}

/-- A node is made. -/
theorem Built.memNew (h : Built w1 wr Q H n L S F B P N) (s : Int) : Mem (wr.alloc (nodeObj s)) Q F B (wr.heap.size :: S) (upd P wr.heap.size none) (upd N wr.heap.size none) := h.mem.new s
theorem Built.fresh (h : Built w1 wr Q H n L S F B P N) {b : Nat} (hb : b ∈ L) : b ≠ wr.heap.size := fun e => by have := h.mem.ltS (h.sub b hb); omega
theorem Built.chainNew (h : Built w1 wr Q H n L S F B P N) : Chain L F B (upd P wr.heap.size none) (upd N wr.heap.size none) :=
  chain_congr h.chain (fun b hb => ⟨upd_other _ _ (h.fresh hb), upd_other _ _ (h.fresh hb)⟩)
theorem Built.apartNew (h : Built w1 wr Q H n L S F B P N) : H ∉ Q :: (wr.heap.size :: S) := fun hm => by
  rcases List.mem_cons.1 hm with e | hm
  · exact h.apart (e ▸ List.mem_cons_self)
  · rcases List.mem_cons.1 hm with e | hm
    · have := h.row.lt; omega
    · exact h.apart (List.mem_cons_of_mem _ hm)

/-- .. pushed, and laid into the row. -/
theorem Built.step (h : Built w1 wr Q H n L S F B P N) (s : Int) {w3 : World} {F' : Option Nat} {P' N' : Nat → Option Nat} (hlt : L.length < n)
    (hM : Mem w3 Q F' (some wr.heap.size) (wr.heap.size :: S) P' N') (hC : Chain (L ++ [wr.heap.size]) F' (some wr.heap.size) P' N') (hO : Only (Q :: (wr.heap.size :: S)) (wr.alloc (nodeObj s)) w3) :
    Built w1 (w3.setCell ⟨H, L.length, none⟩ (pv (some wr.heap.size))) Q H n (L ++ [wr.heap.size]) (wr.heap.size :: S) F' (some wr.heap.size) P' N' := by
  have hle := h.below.size
  refine { mem := hM.setCell_far h.apartNew _ _, chain := hC, sub := ?_, row := ?_, below := ?_, hQ := h.hQ, hH := h.hH, hS := ?_, apart := h.apartNew }
  · intro x hx
    rcases List.mem_append.1 hx with hx | hx
    · exact List.mem_cons_of_mem _ (h.sub x hx)
    · rw [List.mem_singleton] at hx; subst hx; exact List.mem_cons_self
  · have := ((h.row.alloc (nodeObj s)).only hO h.apartNew).set L.length (some wr.heap.size)
    rw [set_row L _ n hlt] at this
    exact this
  · refine Below.setCell ((h.below.alloc hle _).trans (hO.below (fun x hx => ?_))) h.hH _
    rcases List.mem_cons.1 hx with e | hx
    · rw [e]; exact h.hQ
    · rcases List.mem_cons.1 hx with e | hx
      · rw [e]; exact hle
      · exact h.hS x hx
  · intro x hx
    rcases List.mem_cons.1 hx with e | hx
    · rw [e]; exact hle
    · exact h.hS x hx
end
end Go.Proofs.Qxb6601613aMods.q
