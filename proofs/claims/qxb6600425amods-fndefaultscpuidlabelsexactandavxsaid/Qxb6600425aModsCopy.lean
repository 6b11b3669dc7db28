/-
  The contract of lawCopy (seat b6600425aM).
-/
import Derived.Test.Qxb6600425aModsStrs
import Derived.Lib.SliceRun
namespace Go.Proofs.Qxb6600425aMods.words
open Go.ChangeShapes Go.WideShapes Go.ChangeAt Go.RowKit
set_option linter.unusedVariables false

theorem Trym.info9 : (Trym.prog.info? 9).map (fun i => (i.zero, i.size, i.bytes)) = some (some (.string ByteArray.empty), 1, 16) := by kernel_rfl

/-- Block g is a new row of n strings, of which the first k are those of ss. -/
def Fill (w wr : World) (n k : Nat) (ss : List ByteArray) : Prop :=
  Below w.heap.size w wr ∧ w.heap.size < wr.heap.size ∧ (∀ j, j < n → wr.frozen? ⟨w.heap.size, j, none⟩ = false) ∧ (∀ j, j < n → ∃ s, wr.cell? ⟨w.heap.size, j, none⟩ = some (.string s)) ∧
    ∀ j, j < k → wr.cell? ⟨w.heap.size, j, none⟩ = some (.string (ss.getD j ByteArray.empty))

theorem made_cells (n : Nat) : (madeCells #[Value.string ByteArray.empty] n).toList = List.replicate n (Value.string ByteArray.empty) := by
  apply List.ext_getElem
  · simp [madeCells]
  · intro i h1 h2
    have e : i % 1 = 0 := Nat.mod_one i
    simp [madeCells, e]

theorem Fill.start {w wr : World} {n : Nat} (ss : List ByteArray) (h : wr.ownsRow w.heap.size 9 1 (.slice (some ⟨w.heap.size, 0, none⟩) n n) n (madeCells #[Value.string ByteArray.empty] n).toList) (hg : w.grownBy wr none) : Fill w wr n 0 ss := by
  obtain ⟨_, h⟩ := h
  rcases h with ⟨h, _⟩ | ⟨g, cap, cur, hv, _, hb, _, _, hcs, htk⟩
  · cases h
  · simp only [Value.slice.injEq, Option.some.injEq, Addr.mk.injEq] at hv
    obtain ⟨⟨rfl, _, _⟩, _, rfl⟩ := hv
    have hlt : w.heap.size < wr.heap.size := by
      rcases Nat.lt_or_ge w.heap.size wr.heap.size with h | h
      · exact h
      · rw [Array.getElem?_eq_none h] at hb; cases hb
    refine ⟨(Below.refl _ _).grown hg (Nat.le_refl _) (fun k hk => by cases hk), hlt, ?_, ?_, fun j hj => by omega⟩
    · intro j hj
      simp [World.frozen?, hb]
    · intro j hj
      refine ⟨ByteArray.empty, ?_⟩
      rw [made_cells] at htk
      have hz : cur.toList[j]? = some (Value.string ByteArray.empty) := by
        have := congrArg (fun l => l[j]?) htk
        simpa [List.getElem?_take, hj, Nat.mul_one] using this
      simpa [World.cell?, hb] using hz

theorem Fill.step {w wr : World} {n k : Nat} {ss : List ByteArray} (h : Fill w wr n k ss) (hk : k < n) : Fill w (wr.setCell ⟨w.heap.size, k, none⟩ (.string (ss.getD k ByteArray.empty))) n (k + 1) ss := by
  obtain ⟨h1, h2, h3, h4, h5⟩ := h
  obtain ⟨s0, hs0⟩ := h4 k hk
  refine ⟨h1.setCell (Nat.le_refl _) _, by simpa using h2, fun j hj => by simpa using h3 j hj, fun j hj => ?_, fun j hj => ?_⟩
  · by_cases e : j = k
    · subst e; exact ⟨_, World.cell?_setCell_same _ _ _ hs0⟩
    · obtain ⟨s1, hs1⟩ := h4 j hj
      exact ⟨s1, by rw [World.cell?_setCell_other _ _ _ _ (fun h => e (congrArg Addr.off h).symm)]; exact hs1⟩
  · by_cases e : j = k
    · subst e; exact World.cell?_setCell_same _ _ _ hs0
    · rw [World.cell?_setCell_other _ _ _ _ (fun h => e (congrArg Addr.off h).symm)]; exact h5 j (by omega)

set_option maxHeartbeats 400000 in
theorem copy_any (a : Option Addr) (c : Nat) (ss : List ByteArray) (w : World) (hn : ss.length ≤ 4096) (hS : Hid (Strs w a ss)) :
    Calls Trym.prog 11 #[.slice a ss.length c] w fun e w' => ∃ a', e = .returned (.slice a' ss.length ss.length) ∧ Strs w' a' ss ∧ Below w.heap.size w w' := by
  have qT : ∀ (w : World) (a : Option Addr) (n c n' c' : Nat), (binOp .eql 22 (.slice a n c) (.slice none n' c')).run Trym.prog w = .ok (.bool a.isNone) w := fun w a n c n' c' => Lib.run_eql_slice_nil w _ _ a n c n' c' Trym.underlying22
  cases a with
  | none =>
    have h0 : ss = [] := by
      rcases hS.out with h | ⟨b, off, h, _⟩
      · exact h
      · cases h
    subst h0
    go_enter Trym.func11, Trym.ntmps11
    go_wp2
    go_ret
    exact ⟨_, rfl, Or.inl rfl, Below.refl _ _⟩
  | some ad =>
    obtain ⟨i0, hi, hz0, hz1, hz2⟩ := info_parts Trym.info9
    go_enter Trym.func11, Trym.ntmps11
    go_wp2_with (first | (at_make; refine wpList_make_full _ rfl _ _ 22 rfl w.heap.size 9 i0 _ 1 Trym.underlying22 hi hz0 hz1 _ _ _ _ ss.length rfl rfl rfl rfl (by rw [hz2]; omega) (by unfold maxLen; omega) (Nat.le_refl _) ?_))
    intro w1 hown hgrow
    go_wp2_with fail
    have hF := Fill.start ss hown hgrow
    clear hown hgrow qT
    have HF : Hid (Fill w w1 ss.length 0 ss) := hF
    clear hF
    go_loopw [4] (fun i wr => ∃ k : Nat, k ≤ ss.length ∧ i = .int .i64 k ∧ Hid (Fill w wr ss.length k ss)) (fun i _ => ss.length - (intOf i).toNat)
    case atStart => exact ⟨0, Nat.zero_le _, rfl, HF⟩
    case round =>
      clear HF
      obtain ⟨k, hk, rfl, HF⟩ := hrel
      by_cases hlt : k < ss.length
      · obtain ⟨b, off, had, hbl, hc⟩ := hS.out.some hlt
        cases had
        have hck := hc k hlt
        clear hc
        have hsrc : wr.cell? ⟨b, off + k, none⟩ = some (.string (ss.getD k ByteArray.empty)) := (HF.out.1.cell (p := ⟨b, off + k, none⟩) hbl).trans hck
        have hfz : wr.frozen? ⟨w.heap.size, k, none⟩ = false := HF.out.2.2.1 k hlt
        obtain ⟨s0, hdst⟩ := HF.out.2.2.2.1 k hlt
        have hstep := HF.out.step hlt
        clear hck HF
        have HF : Hid (Fill w (wr.setCell ⟨w.heap.size, k, none⟩ (.string (ss.getD k ByteArray.empty))) ss.length (k + 1) ss) := hstep
        clear hstep
        generalize ss.getD k ByteArray.empty = s at hsrc HF
        go_wp2
        exact ⟨⟨k + 1, by omega, by go_num, HF⟩, by simp [intOf]; omega⟩
      · go_wp2
        go_ret
        have hq := HF.out
        have hkn : k = ss.length := by omega
        subst hkn
        exact ⟨_, rfl, Or.inr ⟨_, _, rfl, hq.2.1, fun j hj => by rw [Nat.zero_add]; exact hq.2.2.2.2 j hj⟩, hq.1⟩
end Go.Proofs.Qxb6600425aMods.words
