/-
  Slices of one-cell elements: what came in, and the clones (seat b6601613aM).
-/
import Derived.Test.Qxb6601613aModsRows
import Derived.WalkKit
import Derived.ProofKit
import Derived.Deep.QuietTactic
import Derived.BigQuiet
import Derived.WalkSmall
import Derived.Lib.SliceRun
namespace Go.Proofs.Qxb6601613aMods.q
open Go.ChangeShapes Go.WideShapes Go.ChangeAt Go.RowKit
set_option linter.unusedVariables false

theorem size_alloc (w : World) (o : Obj) : (w.alloc o).heap.size = w.heap.size + 1 := by
  show (w.heap.push o).size = _
  rw [Array.size_push]

/-- The slice at address a holds the elements xs, each one cell. -/
def Row {α : Type} (mk : α → Value) (d : α) (w : World) (a : Option Addr) (xs : List α) : Prop :=
  xs = [] ∨ ∃ b off, a = some ⟨b, off, none⟩ ∧ b < w.heap.size ∧ ∀ j, j < xs.length → w.cell? ⟨b, off + j, none⟩ = some (mk (xs.getD j d))

theorem Row.below {α : Type} {mk : α → Value} {d : α} {w w' : World} {a : Option Addr} {xs : List α} (h : Row mk d w a xs) (hb : Below w.heap.size w w') : Row mk d w' a xs := by
  rcases h with h | ⟨b, off, ha, hlt, hc⟩
  · exact Or.inl h
  · exact Or.inr ⟨b, off, ha, Nat.lt_of_lt_of_le hlt hb.size, fun j hj => (hb.cell (p := ⟨b, off + j, none⟩) hlt).trans (hc j hj)⟩

theorem Row.some {α : Type} {mk : α → Value} {d : α} {w : World} {a : Option Addr} {xs : List α} (h : Row mk d w a xs) {k : Nat} (hk : k < xs.length) :
    ∃ b off, a = some ⟨b, off, none⟩ ∧ b < w.heap.size ∧ ∀ j, j < xs.length → w.cell? ⟨b, off + j, none⟩ = some (mk (xs.getD j d)) := by
  rcases h with h | h
  · subst h; simp at hk
  · exact h

/-- The new row behind w: of n cells, of which the first k are those of xs. -/
def Fill {α : Type} (mk : α → Value) (d : α) (w wr : World) (n k : Nat) (xs : List α) : Prop :=
  Below w.heap.size w wr ∧ w.heap.size < wr.heap.size ∧ (∀ j, j < n → wr.frozen? ⟨w.heap.size, j, none⟩ = false) ∧ (∀ j, j < n → ∃ s, wr.cell? ⟨w.heap.size, j, none⟩ = some (mk s)) ∧
    ∀ j, j < k → wr.cell? ⟨w.heap.size, j, none⟩ = some (mk (xs.getD j d))

theorem made_cells (z : Value) (n : Nat) : (madeCells #[z] n).toList = List.replicate n z := by
  apply List.ext_getElem
  · simp [madeCells]
  · intro i h1 h2
    have e : i % 1 = 0 := Nat.mod_one i
    simp [madeCells, e]

theorem Fill.start {α : Type} {mk : α → Value} {d : α} {z : α} {e : TypeId} {w wr : World} {n : Nat} (xs : List α) (h : wr.ownsRow w.heap.size e 1 (.slice (some ⟨w.heap.size, 0, none⟩) n n) n (madeCells #[mk z] n).toList) (hg : w.grownBy wr none) : Fill mk d w wr n 0 xs := by
  obtain ⟨_, h⟩ := h
  rcases h with ⟨h, _⟩ | ⟨g, cap, cur, hv, _, hb, _, _, hcs, htk⟩
  · cases h
  · simp only [Value.slice.injEq, Option.some.injEq, Addr.mk.injEq] at hv
    obtain ⟨⟨rfl, _, _⟩, _, rfl⟩ := hv
    have hlt : w.heap.size < wr.heap.size := by
      rcases Nat.lt_or_ge w.heap.size wr.heap.size with h | h
      · exact h
      · rw [Array.getElem?_eq_none h] at hb; cases hb
    refine ⟨(Below.refl _ _).grown hg (Nat.le_refl _) (fun k hk => by cases hk), hlt, ?_, ?_, fun j hj => by omega⟩
    · intro j hj
      simp [World.frozen?, hb]
    · intro j hj
      refine ⟨z, ?_⟩
      rw [made_cells] at htk
      have hz : cur.toList[j]? = Option.some (mk z) := by
        have := congrArg (fun l => l[j]?) htk
        simpa [List.getElem?_take, hj, Nat.mul_one] using this
      simpa [World.cell?, hb] using hz

theorem Fill.step {α : Type} {mk : α → Value} {d : α} {w wr : World} {n k : Nat} {xs : List α} (h : Fill mk d w wr n k xs) (hk : k < n) : Fill mk d w (wr.setCell ⟨w.heap.size, k, none⟩ (mk (xs.getD k d))) n (k + 1) xs := by
  obtain ⟨h1, h2, h3, h4, h5⟩ := h
  obtain ⟨s0, hs0⟩ := h4 k hk
  refine ⟨h1.setCell (Nat.le_refl _) _, by simpa using h2, fun j hj => by simpa using h3 j hj, fun j hj => ?_, fun j hj => ?_⟩
  · by_cases e : j = k
    · subst e; exact ⟨_, World.cell?_setCell_same _ _ _ hs0⟩
    · obtain ⟨s1, hs1⟩ := h4 j hj
      exact ⟨s1, by rw [World.cell?_setCell_other _ _ _ _ (fun h => e (congrArg Addr.off h).symm)]; exact hs1⟩
  · by_cases e : j = k
    · subst e; exact World.cell?_setCell_same _ _ _ hs0
    · rw [World.cell?_setCell_other _ _ _ _ (fun h => e (congrArg Addr.off h).symm)]; exact h5 j (by omega)

theorem Trym.info5 : (Trym.prog.info? 5).map (fun i => (i.zero, i.size, i.bytes)) = some (some (.int .u8 0), 1, 1) := by kernel_rfl

set_option maxHeartbeats 400000 in
theorem bytes_copy (a : Option Addr) (c : Nat) (ss : List (Int)) (w : World) (hn : ss.length ≤ 1048576) (hS : Hid (Row (Value.int .u8) 0 w a ss)) :
    Calls Trym.prog 8 #[.slice a ss.length c] w fun e w' => ∃ a', e = .returned (.slice a' ss.length ss.length) ∧ Row (Value.int .u8) 0 w' a' ss ∧ Below w.heap.size w w' := by
  have qT : ∀ (w : World) (a : Option Addr) (n c n' c' : Nat), (binOp .eql 23 (.slice a n c) (.slice none n' c')).run Trym.prog w = .ok (.bool a.isNone) w := fun w a n c n' c' => Lib.run_eql_slice_nil w _ _ a n c n' c' Trym.underlying23
  cases a with
  | none =>
    have h0 : ss = [] := by
      rcases hS.out with h | ⟨b, off, h, _⟩
      · exact h
      · cases h
    subst h0
    go_enter Trym.func8, Trym.ntmps8
    go_wp2
    go_ret
    exact ⟨_, rfl, Or.inl rfl, Below.refl _ _⟩
  | some ad =>
    obtain ⟨i0, hi, hz0, hz1, hz2⟩ := info_parts Trym.info5
    go_enter Trym.func8, Trym.ntmps8
    go_wp2_with (first | (at_make; refine wpList_make_full _ rfl _ _ 23 rfl w.heap.size 5 i0 _ 1 Trym.underlying23 hi hz0 hz1 _ _ _ _ ss.length rfl rfl rfl rfl (by rw [hz2]; omega) (by unfold maxLen; omega) (Nat.le_refl _) ?_))
    intro w1 hown hgrow
    go_wp2_with fail
    have hF : Fill (Value.int .u8) 0 w w1 ss.length 0 ss := Fill.start (z := 0) ss hown hgrow
    clear hown hgrow qT
    have HF : Hid (Fill (Value.int .u8) 0 w w1 ss.length 0 ss) := hF
    clear hF
    go_loopw [4] (fun i wr => ∃ k : Nat, k ≤ ss.length ∧ i = .int .i64 k ∧ Hid (Fill (Value.int .u8) 0 w wr ss.length k ss)) (fun i _ => ss.length - (intOf i).toNat)
    case atStart => exact ⟨0, Nat.zero_le _, rfl, HF⟩
    case round =>
      clear HF
      obtain ⟨k, hk, rfl, HF⟩ := hrel
      by_cases hlt : k < ss.length
      · obtain ⟨b, off, had, hbl, hc⟩ := hS.out.some hlt
        cases had
        have hck := hc k hlt
        clear hc
        have hsrc : wr.cell? ⟨b, off + k, none⟩ = some ((Value.int .u8) (ss.getD k 0)) := (HF.out.1.cell (p := ⟨b, off + k, none⟩) hbl).trans hck
        have hfz : wr.frozen? ⟨w.heap.size, k, none⟩ = false := HF.out.2.2.1 k hlt
        obtain ⟨s0, hdst⟩ := HF.out.2.2.2.1 k hlt
        have hstep := HF.out.step hlt
        clear hck HF
        have HF : Hid (Fill (Value.int .u8) 0 w (wr.setCell ⟨w.heap.size, k, none⟩ ((Value.int .u8) (ss.getD k 0))) ss.length (k + 1) ss) := hstep
        clear hstep
        generalize ss.getD k 0 = s at hsrc HF
        go_wp2
        exact ⟨⟨k + 1, by omega, by go_num, HF⟩, by simp [intOf]; omega⟩
      · go_wp2
        go_ret
        have hq := HF.out
        have hkn : k = ss.length := by omega
        subst hkn
        exact ⟨_, rfl, Or.inr ⟨_, _, rfl, hq.2.1, fun j hj => by rw [Nat.zero_add]; exact hq.2.2.2.2 j hj⟩, hq.1⟩

theorem Trym.info28 : (Trym.prog.info? 28).map (fun i => (i.zero, i.size, i.bytes)) = some (some (.pointer none), 1, 8) := by kernel_rfl

set_option maxHeartbeats 400000 in
theorem ptrs_copy (a : Option Addr) (c : Nat) (ss : List (Option Addr)) (w : World) (hn : ss.length ≤ 1048576) (hS : Hid (Row Value.pointer none w a ss)) :
    Calls Trym.prog 9 #[.slice a ss.length c] w fun e w' => ∃ a', e = .returned (.slice a' ss.length ss.length) ∧ Row Value.pointer none w' a' ss ∧ Below w.heap.size w w' := by
  have qT : ∀ (w : World) (a : Option Addr) (n c n' c' : Nat), (binOp .eql 24 (.slice a n c) (.slice none n' c')).run Trym.prog w = .ok (.bool a.isNone) w := fun w a n c n' c' => Lib.run_eql_slice_nil w _ _ a n c n' c' Trym.underlying24
  cases a with
  | none =>
    have h0 : ss = [] := by
      rcases hS.out with h | ⟨b, off, h, _⟩
      · exact h
      · cases h
    subst h0
    go_enter Trym.func9, Trym.ntmps9
    go_wp2
    go_ret
    exact ⟨_, rfl, Or.inl rfl, Below.refl _ _⟩
  | some ad =>
    obtain ⟨i0, hi, hz0, hz1, hz2⟩ := info_parts Trym.info28
    go_enter Trym.func9, Trym.ntmps9
    go_wp2_with (first | (at_make; refine wpList_make_full _ rfl _ _ 24 rfl w.heap.size 28 i0 _ 1 Trym.underlying24 hi hz0 hz1 _ _ _ _ ss.length rfl rfl rfl rfl (by rw [hz2]; omega) (by unfold maxLen; omega) (Nat.le_refl _) ?_))
    intro w1 hown hgrow
    go_wp2_with fail
    have hF : Fill Value.pointer none w w1 ss.length 0 ss := Fill.start (z := none) ss hown hgrow
    clear hown hgrow qT
    have HF : Hid (Fill Value.pointer none w w1 ss.length 0 ss) := hF
    clear hF
    go_loopw [4] (fun i wr => ∃ k : Nat, k ≤ ss.length ∧ i = .int .i64 k ∧ Hid (Fill Value.pointer none w wr ss.length k ss)) (fun i _ => ss.length - (intOf i).toNat)
    case atStart => exact ⟨0, Nat.zero_le _, rfl, HF⟩
    case round =>
      clear HF
      obtain ⟨k, hk, rfl, HF⟩ := hrel
      by_cases hlt : k < ss.length
      · obtain ⟨b, off, had, hbl, hc⟩ := hS.out.some hlt
        cases had
        have hck := hc k hlt
        clear hc
        have hsrc : wr.cell? ⟨b, off + k, none⟩ = some (Value.pointer (ss.getD k none)) := (HF.out.1.cell (p := ⟨b, off + k, none⟩) hbl).trans hck
        have hfz : wr.frozen? ⟨w.heap.size, k, none⟩ = false := HF.out.2.2.1 k hlt
        obtain ⟨s0, hdst⟩ := HF.out.2.2.2.1 k hlt
        have hstep := HF.out.step hlt
        clear hck HF
        have HF : Hid (Fill Value.pointer none w (wr.setCell ⟨w.heap.size, k, none⟩ (Value.pointer (ss.getD k none))) ss.length (k + 1) ss) := hstep
        clear hstep
        generalize ss.getD k none = s at hsrc HF
        go_wp2
        exact ⟨⟨k + 1, by omega, by go_num, HF⟩, by simp [intOf]; omega⟩
      · go_wp2
        go_ret
        have hq := HF.out
        have hkn : k = ss.length := by omega
        subst hkn
        exact ⟨_, rfl, Or.inr ⟨_, _, rfl, hq.2.1, fun j hj => by rw [Nat.zero_add]; exact hq.2.2.2.2 j hj⟩, hq.1⟩

theorem Trym.info3 : (Trym.prog.info? 3).map (fun i => (i.zero, i.size, i.bytes)) = some (some (.int .i64 0), 1, 8) := by kernel_rfl

set_option maxHeartbeats 400000 in
theorem ints_copy (a : Option Addr) (c : Nat) (ss : List (Int)) (w : World) (hn : ss.length ≤ 1048576) (hS : Hid (Row (Value.int .i64) 0 w a ss)) :
    Calls Trym.prog 13 #[.slice a ss.length c] w fun e w' => ∃ a', e = .returned (.slice a' ss.length ss.length) ∧ Row (Value.int .i64) 0 w' a' ss ∧ Below w.heap.size w w' := by
  have qT : ∀ (w : World) (a : Option Addr) (n c n' c' : Nat), (binOp .eql 31 (.slice a n c) (.slice none n' c')).run Trym.prog w = .ok (.bool a.isNone) w := fun w a n c n' c' => Lib.run_eql_slice_nil w _ _ a n c n' c' Trym.underlying31
  cases a with
  | none =>
    have h0 : ss = [] := by
      rcases hS.out with h | ⟨b, off, h, _⟩
      · exact h
      · cases h
    subst h0
    go_enter Trym.func13, Trym.ntmps13
    go_wp2
    go_ret
    exact ⟨_, rfl, Or.inl rfl, Below.refl _ _⟩
  | some ad =>
    obtain ⟨i0, hi, hz0, hz1, hz2⟩ := info_parts Trym.info3
    go_enter Trym.func13, Trym.ntmps13
    go_wp2_with (first | (at_make; refine wpList_make_full _ rfl _ _ 31 rfl w.heap.size 3 i0 _ 1 Trym.underlying31 hi hz0 hz1 _ _ _ _ ss.length rfl rfl rfl rfl (by rw [hz2]; omega) (by unfold maxLen; omega) (Nat.le_refl _) ?_))
    intro w1 hown hgrow
    go_wp2_with fail
    have hF : Fill (Value.int .i64) 0 w w1 ss.length 0 ss := Fill.start (z := 0) ss hown hgrow
    clear hown hgrow qT
    have HF : Hid (Fill (Value.int .i64) 0 w w1 ss.length 0 ss) := hF
    clear hF
    go_loopw [4] (fun i wr => ∃ k : Nat, k ≤ ss.length ∧ i = .int .i64 k ∧ Hid (Fill (Value.int .i64) 0 w wr ss.length k ss)) (fun i _ => ss.length - (intOf i).toNat)
    case atStart => exact ⟨0, Nat.zero_le _, rfl, HF⟩
    case round =>
      clear HF
      obtain ⟨k, hk, rfl, HF⟩ := hrel
      by_cases hlt : k < ss.length
      · obtain ⟨b, off, had, hbl, hc⟩ := hS.out.some hlt
        cases had
        have hck := hc k hlt
        clear hc
        have hsrc : wr.cell? ⟨b, off + k, none⟩ = some ((Value.int .i64) (ss.getD k 0)) := (HF.out.1.cell (p := ⟨b, off + k, none⟩) hbl).trans hck
        have hfz : wr.frozen? ⟨w.heap.size, k, none⟩ = false := HF.out.2.2.1 k hlt
        obtain ⟨s0, hdst⟩ := HF.out.2.2.2.1 k hlt
        have hstep := HF.out.step hlt
        clear hck HF
        have HF : Hid (Fill (Value.int .i64) 0 w (wr.setCell ⟨w.heap.size, k, none⟩ ((Value.int .i64) (ss.getD k 0))) ss.length (k + 1) ss) := hstep
        clear hstep
        generalize ss.getD k 0 = s at hsrc HF
        go_wp2
        exact ⟨⟨k + 1, by omega, by go_num, HF⟩, by simp [intOf]; omega⟩
      · go_wp2
        go_ret
        have hq := HF.out
        have hkn : k = ss.length := by omega
        subst hkn
        exact ⟨_, rfl, Or.inr ⟨_, _, rfl, hq.2.1, fun j hj => by rw [Nat.zero_add]; exact hq.2.2.2.2 j hj⟩, hq.1⟩

end Go.Proofs.Qxb6601613aMods.q
