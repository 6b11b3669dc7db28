/-
  Slices of strings: what came in, and zzClone (seat b6600856aM).
-/
import Derived.Test.Qxb6600856aModsIpam
import Derived.Lib.SliceRun
import Derived.ShutString
import Derived.ChangeOld
import Derived.SliceStrings
import Derived.Carry
namespace Go.Proofs.Qxb6600856aMods.net
open Go.ChangeShapes Go.WideShapes Go.ChangeAt Go.RowKit
set_option linter.unusedVariables false

theorem size_alloc (w : World) (o : Obj) : (w.alloc o).heap.size = w.heap.size + 1 := by
  show (w.heap.push o).size = _
  rw [Array.size_push]

/-- The slice at address a holds the strings ss. -/
def Strs (w : World) (a : Option Addr) (ss : List ByteArray) : Prop :=
  ss = [] ∨ ∃ b off, a = some ⟨b, off, none⟩ ∧ b < w.heap.size ∧ ∀ j, j < ss.length → w.cell? ⟨b, off + j, none⟩ = some (.string (ss.getD j ByteArray.empty))

theorem Strs.below {w w' : World} {a : Option Addr} {ss : List ByteArray} (h : Strs w a ss) (hb : Below w.heap.size w w') : Strs w' a ss := by
  rcases h with h | ⟨b, off, ha, hlt, hc⟩
  · exact Or.inl h
  · exact Or.inr ⟨b, off, ha, Nat.lt_of_lt_of_le hlt hb.size, fun j hj => (hb.cell (p := ⟨b, off + j, none⟩) hlt).trans (hc j hj)⟩

theorem Strs.drewN {w : World} {a : Option Addr} {ss : List ByteArray} (h : Strs w a ss) (n : Nat) : Strs (w.drewN n) a ss := h

theorem Strs.some {w : World} {a : Option Addr} {ss : List ByteArray} (h : Strs w a ss) {k : Nat} (hk : k < ss.length) :
    ∃ b off, a = some ⟨b, off, none⟩ ∧ b < w.heap.size ∧ ∀ j, j < ss.length → w.cell? ⟨b, off + j, none⟩ = some (.string (ss.getD j ByteArray.empty)) := by
  rcases h with h | h
  · subst h; simp at hk
  · exact h

theorem Trym.info9 : (Trym.prog.info? 9).map (fun i => (i.zero, i.size, i.bytes)) = some (some (.string ByteArray.empty), 1, 16) := by kernel_rfl

/-- Block g is a new row of n strings, of which the first k are those of ss. -/
def Fill (w wr : World) (n k : Nat) (ss : List ByteArray) : Prop :=
  Below w.heap.size w wr ∧ w.heap.size < wr.heap.size ∧ (∀ j, j < n → wr.frozen? ⟨w.heap.size, j, none⟩ = false) ∧ (∀ j, j < n → ∃ s, wr.cell? ⟨w.heap.size, j, none⟩ = some (.string s)) ∧
    ∀ j, j < k → wr.cell? ⟨w.heap.size, j, none⟩ = some (.string (ss.getD j ByteArray.empty))

theorem made_cells (n : Nat) : (madeCells #[Value.string ByteArray.empty] n).toList = List.replicate n (Value.string ByteArray.empty) := by
  apply List.ext_getElem
  · simp [madeCells]
  · intro i h1 h2
    have e : i % 1 = 0 := Nat.mod_one i
    simp [madeCells, e]

theorem Fill.start {w wr : World} {n : Nat} (ss : List ByteArray) (h : wr.ownsRow w.heap.size 9 1 (.slice (some ⟨w.heap.size, 0, none⟩) n n) n (madeCells #[Value.string ByteArray.empty] n).toList) (hg : w.grownBy wr none) : Fill w wr n 0 ss := by
  obtain ⟨_, h⟩ := h
  rcases h with ⟨h, _⟩ | ⟨g, cap, cur, hv, _, hb, _, _, hcs, htk⟩
  · cases h
  · simp only [Value.slice.injEq, Option.some.injEq, Addr.mk.injEq] at hv
    obtain ⟨⟨rfl, _, _⟩, _, rfl⟩ := hv
    have hlt : w.heap.size < wr.heap.size := by
      rcases Nat.lt_or_ge w.heap.size wr.heap.size with h | h
      · exact h
      · rw [Array.getElem?_eq_none h] at hb; cases hb
    refine ⟨(Below.refl _ _).grown hg (Nat.le_refl _) (fun k hk => by cases hk), hlt, ?_, ?_, fun j hj => by omega⟩
    · intro j hj
      simp [World.frozen?, hb]
    · intro j hj
      refine ⟨ByteArray.empty, ?_⟩
      rw [made_cells] at htk
      have hz : cur.toList[j]? = some (Value.string ByteArray.empty) := by
        have := congrArg (fun l => l[j]?) htk
        simpa [List.getElem?_take, hj, Nat.mul_one] using this
      simpa [World.cell?, hb] using hz

theorem Fill.step {w wr : World} {n k : Nat} {ss : List ByteArray} (h : Fill w wr n k ss) (hk : k < n) : Fill w (wr.setCell ⟨w.heap.size, k, none⟩ (.string (ss.getD k ByteArray.empty))) n (k + 1) ss := by
  obtain ⟨h1, h2, h3, h4, h5⟩ := h
  obtain ⟨s0, hs0⟩ := h4 k hk
  refine ⟨h1.setCell (Nat.le_refl _) _, by simpa using h2, fun j hj => by simpa using h3 j hj, fun j hj => ?_, fun j hj => ?_⟩
  · by_cases e : j = k
    · subst e; exact ⟨_, World.cell?_setCell_same _ _ _ hs0⟩
    · obtain ⟨s1, hs1⟩ := h4 j hj
      exact ⟨s1, by rw [World.cell?_setCell_other _ _ _ _ (fun h => e (congrArg Addr.off h).symm)]; exact hs1⟩
  · by_cases e : j = k
    · subst e; exact World.cell?_setCell_same _ _ _ hs0
    · rw [World.cell?_setCell_other _ _ _ _ (fun h => e (congrArg Addr.off h).symm)]; exact h5 j (by omega)

set_option maxHeartbeats 400000 in
theorem copy_any (a : Option Addr) (c : Nat) (ss : List ByteArray) (w : World) (hn : ss.length ≤ 1048576) (hS : Hid (Strs w a ss)) :
    Calls Trym.prog 8 #[.slice a ss.length c] w fun e w' => ∃ a', e = .returned (.slice a' ss.length ss.length) ∧ Strs w' a' ss ∧ Below w.heap.size w w' := by
  have qT : ∀ (w : World) (a : Option Addr) (n c n' c' : Nat), (binOp .eql 22 (.slice a n c) (.slice none n' c')).run Trym.prog w = .ok (.bool a.isNone) w := fun w a n c n' c' => Lib.run_eql_slice_nil w _ _ a n c n' c' Trym.underlying22
  cases a with
  | none =>
    have h0 : ss = [] := by
      rcases hS.out with h | ⟨b, off, h, _⟩
      · exact h
      · cases h
    subst h0
    go_enter Trym.func8, Trym.ntmps8
    go_wp2
    go_ret
    exact ⟨_, rfl, Or.inl rfl, Below.refl _ _⟩
  | some ad =>
    obtain ⟨i0, hi, hz0, hz1, hz2⟩ := info_parts Trym.info9
    go_enter Trym.func8, Trym.ntmps8
    go_wp2_with (first | (at_make; refine wpList_make_full _ rfl _ _ 22 rfl w.heap.size 9 i0 _ 1 Trym.underlying22 hi hz0 hz1 _ _ _ _ ss.length rfl rfl rfl rfl (by rw [hz2]; omega) (by unfold maxLen; omega) (Nat.le_refl _) ?_))
    intro w1 hown hgrow
    go_wp2_with fail
    have hF := Fill.start ss hown hgrow
    clear hown hgrow qT
    have HF : Hid (Fill w w1 ss.length 0 ss) := hF
    clear hF
    go_loopw [4] (fun i wr => ∃ k : Nat, k ≤ ss.length ∧ i = .int .i64 k ∧ Hid (Fill w wr ss.length k ss)) (fun i _ => ss.length - (intOf i).toNat)
    case atStart => exact ⟨0, Nat.zero_le _, rfl, HF⟩
    case round =>
      clear HF
      obtain ⟨k, hk, rfl, HF⟩ := hrel
      by_cases hlt : k < ss.length
      · obtain ⟨b, off, had, hbl, hc⟩ := hS.out.some hlt
        cases had
        have hck := hc k hlt
        clear hc
        have hsrc : wr.cell? ⟨b, off + k, none⟩ = some (.string (ss.getD k ByteArray.empty)) := (HF.out.1.cell (p := ⟨b, off + k, none⟩) hbl).trans hck
        have hfz : wr.frozen? ⟨w.heap.size, k, none⟩ = false := HF.out.2.2.1 k hlt
        obtain ⟨s0, hdst⟩ := HF.out.2.2.2.1 k hlt
        have hstep := HF.out.step hlt
        clear hck HF
        have HF : Hid (Fill w (wr.setCell ⟨w.heap.size, k, none⟩ (.string (ss.getD k ByteArray.empty))) ss.length (k + 1) ss) := hstep
        clear hstep
        generalize ss.getD k ByteArray.empty = s at hsrc HF
        go_wp2
        exact ⟨⟨k + 1, by omega, by go_num, HF⟩, by simp [intOf]; omega⟩
      · go_wp2
        go_ret
        have hq := HF.out
        have hkn : k = ss.length := by omega
        subst hkn
        exact ⟨_, rfl, Or.inr ⟨_, _, rfl, hq.2.1, fun j hj => by rw [Nat.zero_add]; exact hq.2.2.2.2 j hj⟩, hq.1⟩
theorem own : ownKnob Trym.prog.godebug = none := by kernel_rfl
theorem laidOut : laidOutB Trym.prog = true := by kernel_rfl
theorem cells9 : Trym.prog.cellsOf 9 = 1 := by kernel_rfl

theorem lt_of_cell {w : World} {a : Addr} {v : Value} (h : w.cell? a = some v) : a.block < w.heap.size := by
  rcases Nat.lt_or_ge a.block w.heap.size with h1 | h1
  · exact h1
  · unfold World.cell? at h
    rw [Array.getElem?_eq_none h1] at h
    cases h

theorem open_strs {H : Type} {enc : TypeId × Value → H} {W : World} {a : Option Addr} {len cap : Nat} {d : DataW H} {ps : List MemPlace} (h : DataW.Trod enc Trym.prog W 0 (fun _ => true) true 22 (.slice a len cap) d ps) :
    ∃ ss : List ByteArray, len = ss.length ∧ ss.length ≤ maxLen ∧ Strs W a ss ∧ ∀ s ∈ ss, s.size ≤ maxLen := by
  obtain ⟨fuel, hf⟩ := h
  rcases open_strings Trym.underlying22 Trym.underlying9 cells9 hf with ⟨hcs, _⟩ | ⟨x, l, c, ss, hcs, _, hl, hm, hz, _, hcell, hws⟩
  · simp [Value.cells] at hcs
    obtain ⟨rfl, rfl, rfl⟩ := hcs
    exact ⟨[], rfl, Nat.zero_le _, Or.inl rfl, by simp⟩
  · simp [Value.cells] at hcs
    obtain ⟨rfl, rfl, rfl⟩ := hcs
    simp only [if_true] at hz
    have hlen : (ss.take len).length = len := by simp; omega
    refine ⟨ss.take len, hlen.symm, by omega, ?_, fun s hs => hws s (List.mem_of_mem_take hs)⟩
    by_cases h0 : len = 0
    · left; rw [h0]; simp
    · right
      obtain ⟨b, off, spot⟩ := x
      have hspot : spot = none := by simpa [Addr.add] using World.cell?_spot (hcell 0 (by omega))
      subst hspot
      refine ⟨b, off, rfl, ?_, fun j hj => ?_⟩
      · have := lt_of_cell (hcell 0 (by omega)); simpa [Addr.add] using this
      · have := hcell j (by omega)
        rw [add_plain] at this
        rw [this]
        congr 2
        have hj' : j < len := by omega
        simp [List.getD, hj']
end Go.Proofs.Qxb6600856aMods.net
