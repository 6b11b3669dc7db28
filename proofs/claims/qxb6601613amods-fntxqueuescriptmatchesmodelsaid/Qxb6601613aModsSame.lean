/-
  Rows of pointers; sameAs (seat b6601613aM).
-/
import Derived.Test.Qxb6601613aModsChain
namespace Go.Proofs.Qxb6601613aMods.q
open Go.ChangeShapes Go.WideShapes Go.ChangeAt Go.RowKit
set_option linter.unusedVariables false

/-- Block H is a row of pointers to nodes. -/
def PRow (w : World) (H : Nat) (xs : List (Option Nat)) : Prop := w.heap[H]? = some (.cells (xs.map pv).toArray 34 (0, 0))

theorem PRow.cell {w : World} {H : Nat} {xs : List (Option Nat)} (h : PRow w H xs) {j : Nat} {x : Option Nat} (hj : xs[j]? = some x) : w.cell? ⟨H, j, none⟩ = some (.pointer (adr x)) := by
  rw [cell_at h j]
  simp [hj]; rfl
theorem PRow.frozen {w : World} {H : Nat} {xs : List (Option Nat)} (h : PRow w H xs) (j : Nat) : w.frozen? ⟨H, j, none⟩ = false := frozen_at h j
theorem PRow.set {w : World} {H : Nat} {xs : List (Option Nat)} (h : PRow w H xs) (k : Nat) (v : Option Nat) : PRow (w.setCell ⟨H, k, none⟩ (pv v)) H (xs.set k v) := by
  unfold PRow
  rw [heap_set h k (pv v)]
  congr 2
  simp [List.map_set]
theorem PRow.other {w : World} {H : Nat} {xs : List (Option Nat)} (h : PRow w H xs) {b : Nat} (hb : H ≠ b) (i : Nat) (v : Value) : PRow (w.setCell ⟨b, i, none⟩ v) H xs := (heap_other hb i v).trans h
theorem PRow.lt {w : World} {H : Nat} {xs : List (Option Nat)} (h : PRow w H xs) : H < w.heap.size := lt_of_heap h
theorem PRow.alloc {w : World} {H : Nat} {xs : List (Option Nat)} (h : PRow w H xs) (o : Obj) : PRow (w.alloc o) H xs := (Below.heap_alloc w o H h.lt).trans h
theorem PRow.only {w w' : World} {H : Nat} {xs : List (Option Nat)} {T : List Nat} (h : PRow w H xs) (ho : Only T w w') (hH : H ∉ T) : PRow w' H xs := (ho.block H hH).trans h
theorem PRow.drewN {w : World} {H : Nat} {xs : List (Option Nat)} (h : PRow w H xs) (n : Nat) : PRow (w.drewN n) H xs := h

theorem PRow.made {wr : World} {base g n : Nat} (h : wr.ownsRow base 34 1 (.slice (some ⟨g, 0, none⟩) n n) n (madeCells #[.pointer none] n).toList) : PRow wr g (List.replicate n none) := by
  obtain ⟨_, h⟩ := h
  rcases h with ⟨h, _⟩ | ⟨g, cap, cur, hv, _, hb, _, _, hcs, htk⟩
  · cases h
  · simp only [Value.slice.injEq, Option.some.injEq, Addr.mk.injEq] at hv
    obtain ⟨⟨rfl, _, _⟩, _, rfl⟩ := hv
    unfold PRow
    rw [hb]
    congr 2
    rw [made_cells] at htk
    have e : cur.toList = List.replicate n (Value.pointer none) := by
      rw [← htk, List.take_of_length_le (by simp; omega)]
    rw [← Array.toList_inj, e]
    simp [pv, adr]

section
variable {Q : Nat} {F B : Option Nat} {S : List Nat} {P N : Nat → Option Nat}

set_option maxRecDepth 100000 in
set_option maxHeartbeats 1000000 in
theorem same_as (H1 H2 H3 : Nat) (c1 c2 c3 : Nat) (L : List Nat) (w : World) (hM : Hid (Mem w Q F B S P N)) (h1 : Hid (PRow w H1 (L.map some))) (h2 : Hid (PRow w H2 (L.map P))) (h3 : Hid (PRow w H3 (L.map N))) (hS : Hid (∀ x ∈ L, x ∈ S)) (hn : L.length ≤ 65536) :
    Calls Trym.prog 23 #[.pointer (some ⟨Q, 0, none⟩), .slice (some ⟨H1, 0, none⟩) L.length c1, .pointer (adr F), .pointer (adr B), .slice (some ⟨H2, 0, none⟩) L.length c2, .slice (some ⟨H3, 0, none⟩) L.length c3] w fun e w' => e = .returned (.bool true) ∧ ∃ m, w' = w.drewN m := by
  have hnq := neq_same
  go_enter Trym.func23, Trym.ntmps23
  go_wp2_with fail
  refine (front_any w hM).mono ?_
  rintro e w' ⟨rfl, rfl⟩
  go_wp2_with fail
  refine (back_any _ hM).mono ?_
  rintro e w' ⟨rfl, rfl⟩
  go_wp2_with fail
  go_loopw [13] (fun i wr => ∃ k n : Nat, k ≤ L.length ∧ i = .int .i64 k ∧ wr = w'.drewN n) (fun i _ => L.length - (intOf i).toNat)
  case atStart => exact ⟨0, 0, Nat.zero_le _, rfl, rfl⟩
  case round =>
    obtain ⟨k, n, hk, rfl, rfl⟩ := hrel
    by_cases hlt : k < L.length
    · obtain ⟨b, hb⟩ : ∃ b, L[k]? = some b := ⟨_, List.getElem?_eq_getElem hlt⟩
      have hbS : Hid (b ∈ S) := hS.out b (at_mem hb)
      have k1 : (w'.drewN n).cell? ⟨H1, k, none⟩ = some (.pointer (some ⟨b, 0, none⟩)) := h1.out.cell (x := some b) (by simp [hb])
      have k2 : (w'.drewN n).cell? ⟨H2, k, none⟩ = some (.pointer (adr (P b))) := h2.out.cell (x := P b) (by simp [hb])
      have k3 : (w'.drewN n).cell? ⟨H3, k, none⟩ = some (.pointer (adr (N b))) := h3.out.cell (x := N b) (by simp [hb])
      have hMV : Hid (Mem (w'.drewN n) Q F B S P N) := hM.out.drewN n
      clear hb
      obtain ⟨V, hV⟩ : ∃ V, V = w'.drewN n := ⟨_, rfl⟩
      rw [← hV] at k1 k2 k3 hMV
      rw [← hV]
      have HV : Hid (V = w'.drewN n) := hV
      clear hV
      have hki : (k : Int) < (L.length : Int) := by omega
      go_wp2_with fail
      refine wp_region_quiet_lit (by kernel_rfl) (by kernel_rfl) ?_
      repeat (first | go_big_quiet_step (first | (go_at_call 16; refine Calls.quiet_of_same (prev_any _ b (hMV.out.drewN _) hbS)) | (go_at_call 17; refine Calls.quiet_of_same (next_any _ b (hMV.out.drewN _) hbS))) | quiet_step (first | (go_at_call 16; refine Calls.quiet_of_same (prev_any _ b (hMV.out.drewN _) hbS)) | (go_at_call 17; refine Calls.quiet_of_same (next_any _ b (hMV.out.drewN _) hbS))))
      refine wpQuiet_nil ?_
      intro _ hw'
      obtain ⟨nq, hw''⟩ := hw'
      subst hw''
      go_wp2_with fail
      exact ⟨⟨k + 1, n + nq, by omega, by go_num, by rw [HV.out, World.drewN_drewN]⟩, by simp [intOf]; omega⟩
    · go_wp2_with fail
      go_ret
      exact ⟨rfl, _, rfl⟩
end
end Go.Proofs.Qxb6601613aMods.q
