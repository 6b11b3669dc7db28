/-
  Contracts of the helpers over slices of strings (seat b6600425aM): lawHas, lawBytes, slices.Index, slices.Contains, lawCpuidModel.
-/
import Derived.Test.Qxb6600425aModsFacts
namespace Go.Proofs.Qxb6600425aMods.words
open Go.ChangeShapes Go.WideShapes Go.ChangeAt Go.RowKit
set_option linter.unusedVariables false

/-- The slice at address a holds the strings ss. -/
def Strs (w : World) (a : Option Addr) (ss : List ByteArray) : Prop :=
  ss = [] ∨ ∃ b off, a = some ⟨b, off, none⟩ ∧ b < w.heap.size ∧ ∀ j, j < ss.length → w.cell? ⟨b, off + j, none⟩ = some (.string (ss.getD j ByteArray.empty))

theorem Strs.below {w w' : World} {a : Option Addr} {ss : List ByteArray} (h : Strs w a ss) (hb : Below w.heap.size w w') : Strs w' a ss := by
  rcases h with h | ⟨b, off, ha, hlt, hc⟩
  · exact Or.inl h
  · exact Or.inr ⟨b, off, ha, Nat.lt_of_lt_of_le hlt hb.size, fun j hj => (hb.cell (p := ⟨b, off + j, none⟩) hlt).trans (hc j hj)⟩

theorem Strs.drewN {w : World} {a : Option Addr} {ss : List ByteArray} (h : Strs w a ss) (n : Nat) : Strs (w.drewN n) a ss := h

theorem Strs.some {w : World} {a : Option Addr} {ss : List ByteArray} (h : Strs w a ss) {k : Nat} (hk : k < ss.length) :
    ∃ b off, a = some ⟨b, off, none⟩ ∧ b < w.heap.size ∧ ∀ j, j < ss.length → w.cell? ⟨b, off + j, none⟩ = some (.string (ss.getD j ByteArray.empty)) := by
  rcases h with h | h
  · subst h; simp at hk
  · exact h

def hasB : List ByteArray → ByteArray → Bool
  | [], _ => false
  | s :: r, x => if s = x then true else hasB r x

theorem hasB_iff : ∀ (ss : List ByteArray) (x : ByteArray), hasB ss x = true ↔ x ∈ ss
  | [], x => by simp [hasB]
  | s :: r, x => by
    unfold hasB
    split
    · rename_i h; subst h; simp
    · rename_i h
      rw [hasB_iff r x, List.mem_cons]
      exact ⟨Or.inr, fun h' => h'.resolve_left (fun e => h e.symm)⟩

theorem drop_getD (ss : List ByteArray) (k : Nat) (hk : k < ss.length) : ss.drop k = ss.getD k ByteArray.empty :: ss.drop (k + 1) := by
  rw [List.drop_eq_getElem_cons hk]
  congr 1
  simp [List.getD, hk]

set_option maxHeartbeats 400000 in
theorem has_any (a : Option Addr) (c : Nat) (ss : List ByteArray) (x : ByteArray) (w : World) (hn : ss.length ≤ maxLen) (r : Bool) (hr : Hid (hasB ss x = r)) (hS : Hid (Strs w a ss)) :
    Calls Trym.prog 19 #[.slice a ss.length c, .string x] w fun e w' => e = .returned (.bool r) ∧ w' = w := by
  unfold maxLen at hn
  go_enter Trym.func19, Trym.ntmps19
  go_wp2
  go_loop [5] (fun i => ∃ k : Nat, k ≤ ss.length ∧ i = .int .i64 k ∧ Hid (hasB (ss.drop k) x = r)) (fun i => ss.length - (intOf i).toNat)
  case atStart => exact ⟨0, Nat.zero_le _, rfl, hr⟩
  case round =>
    obtain ⟨k, hk, rfl, hL⟩ := hrel
    clear hr
    by_cases hlt : k < ss.length
    · obtain ⟨b, off, rfl, _, hc⟩ := hS.out.some hlt
      have hck := hc k hlt
      clear hc
      have hL' : Hid (hasB (ss.getD k ByteArray.empty :: ss.drop (k + 1)) x = r) := by rw [← drop_getD ss k hlt]; exact hL
      clear hL
      generalize ss.getD k ByteArray.empty = s at hck hL'
      go_wp2
      · go_ret
        rename_i heq _
        refine ⟨ret_bool ?_, rfl⟩
        have hq := hL'.out
        simp only [hasB, if_pos ((toList_beq s x).1 heq)] at hq
        exact hq
      · rename_i hne
        have hq := hL'.out
        have hne' : ¬ s = x := fun e => by rw [(toList_beq s x).2 e] at hne; cases hne
        simp only [hasB, if_neg hne'] at hq
        exact ⟨⟨k + 1, by omega, by go_num, hq⟩, by simp [intOf]; omega⟩
    · go_wp2
      go_ret
      have hq := hL.out
      rw [List.drop_of_length_le (by omega)] at hq
      exact ⟨ret_bool hq, rfl⟩

set_option maxHeartbeats 400000 in
theorem index_any (a : Option Addr) (c : Nat) (ss : List ByteArray) (x : ByteArray) (w : World) (hn : ss.length ≤ maxLen) (r : Bool) (hr : Hid (hasB ss x = r)) (hS : Hid (Strs w a ss)) :
    Calls Trym.prog 33 #[.slice a ss.length c, .string x] w fun e w' => ∃ i : Int, e = .returned (.int .i64 i) ∧ Hid (decide (0 ≤ i) = r) ∧ w' = w := by
  unfold maxLen at hn
  go_enter Trym.func33, Trym.ntmps33
  go_wp2
  go_loop [8] (fun i => ∃ k : Nat, k ≤ ss.length ∧ i = .int .i64 k ∧ Hid (hasB (ss.drop k) x = r)) (fun i => ss.length - (intOf i).toNat)
  case atStart => exact ⟨0, Nat.zero_le _, rfl, hr⟩
  case round =>
    obtain ⟨k, hk, rfl, hL⟩ := hrel
    clear hr
    by_cases hlt : k < ss.length
    · obtain ⟨b, off, rfl, _, hc⟩ := hS.out.some hlt
      have hck := hc k hlt
      clear hc
      have hL' : Hid (hasB (ss.getD k ByteArray.empty :: ss.drop (k + 1)) x = r) := by rw [← drop_getD ss k hlt]; exact hL
      clear hL
      generalize ss.getD k ByteArray.empty = s at hck hL'
      go_wp2
      · go_ret
        rename_i heq _
        refine ⟨_, rfl, ?_, rfl⟩
        have hq := hL'.out
        simp only [hasB, if_pos ((toList_beq x s).1 heq).symm] at hq
        show decide _ = r
        rw [← hq]; simp
      · rename_i hne
        have hq := hL'.out
        have hne' : ¬ s = x := fun e => by rw [(toList_beq x s).2 e.symm] at hne; cases hne
        simp only [hasB, if_neg hne'] at hq
        exact ⟨⟨k + 1, by omega, by go_num, hq⟩, by simp [intOf]; omega⟩
    · go_wp2
      go_ret
      have hq := hL.out
      rw [List.drop_of_length_le (by omega)] at hq
      exact ⟨_, rfl, hq, rfl⟩

theorem contains_any (a : Option Addr) (c : Nat) (ss : List ByteArray) (x : ByteArray) (w : World) (hn : ss.length ≤ maxLen) (r : Bool) (hr : Hid (hasB ss x = r)) (hS : Hid (Strs w a ss)) :
    Calls Trym.prog 32 #[.slice a ss.length c, .string x] w fun e w' => e = .returned (.bool r) ∧ w' = w := by
  go_enter Trym.func32, Trym.ntmps32
  go_wp2_with fail
  refine (index_any a c ss x _ hn r hr hS).mono ?_
  rintro e w' ⟨i, rfl, hi, rfl⟩
  go_wp2_with fail
  go_ret
  exact ⟨ret_bool hi, rfl⟩

/-- lawBytes: some number from 0 to 1048577. -/
theorem bytes_any (a : Option Addr) (c : Nat) (ss : List ByteArray) (w : World) (hn : ss.length ≤ maxLen) (hS : Hid (Strs w a ss)) :
    Calls Trym.prog 10 #[.slice a ss.length c] w fun e w' => ∃ n : Int, e = .returned (.int .i64 n) ∧ 0 ≤ n ∧ n ≤ 1048577 ∧ w' = w := by
  unfold maxLen at hn
  go_enter Trym.func10, Trym.ntmps10
  go_wp2
  go_loop [3, 4] (fun t i => ∃ k : Nat, ∃ n : Int, k ≤ ss.length ∧ i = .int .i64 k ∧ t = .int .i64 n ∧ 0 ≤ n ∧ n ≤ 1048576) (fun _ i => ss.length - (intOf i).toNat)
  case atStart => exact ⟨0, 0, Nat.zero_le _, rfl, rfl, by omega, by omega⟩
  case round =>
    obtain ⟨k, n, hk, rfl, rfl, hn0, hn1⟩ := hrel
    by_cases hlt : k < ss.length
    · obtain ⟨b, off, rfl, _, hc⟩ := hS.out.some hlt
      have hck := hc k hlt
      clear hc
      generalize ss.getD k ByteArray.empty = s at hck
      by_cases hs : (1048576 : Int) < (s.size : Int)
      · go_wp2
        go_ret
        exact ⟨_, rfl, by omega, by omega, rfl⟩
      · by_cases ht : (1048576 : Int) < n + ((s.size : Int) + 16)
        · go_wp2
          go_ret
          exact ⟨_, rfl, by omega, by omega, rfl⟩
        · go_wp2
          exact ⟨⟨k + 1, _, by omega, by go_num, rfl, by omega, by omega⟩, by simp [intOf]; omega⟩
    · go_wp2
      go_ret
      exact ⟨_, rfl, hn0, by omega, rfl⟩

def modelB (un la : List ByteArray) (x : ByteArray) : Bool := if 0 < la.length then hasB la x else !(hasB un x)

theorem model_any (a1 a2 : Option Addr) (c1 c2 : Nat) (un la : List ByteArray) (x : ByteArray) (w : World) (h1 : un.length ≤ maxLen) (h2 : la.length ≤ maxLen) (r : Bool) (hr : Hid (modelB un la x = r)) (hS1 : Hid (Strs w a1 un)) (hS2 : Hid (Strs w a2 la)) :
    Calls Trym.prog 15 #[.slice a1 un.length c1, .slice a2 la.length c2, .string x] w fun e w' => e = .returned (.bool r) ∧ w' = w := by
  by_cases hl : 0 < la.length
  · have hr' : Hid (hasB la x = r) := by have := hr.out; unfold modelB at this; rw [if_pos hl] at this; exact this
    go_enter Trym.func15, Trym.ntmps15
    go_wp2_with fail
    refine (has_any a2 c2 la x _ h2 r hr' hS2).mono ?_
    rintro e w' ⟨rfl, rfl⟩
    go_wp2_with fail
    go_ret
    exact ⟨rfl, rfl⟩
  · obtain ⟨q, hq⟩ : ∃ q, hasB un x = q := ⟨_, rfl⟩
    have hr' : Hid ((!q) = r) := by have := hr.out; unfold modelB at this; rw [if_neg hl, hq] at this; exact this
    have hq' : Hid (hasB un x = q) := hq
    clear hq hr
    go_enter Trym.func15, Trym.ntmps15
    go_wp2_with fail
    refine (has_any a1 c1 un x _ h1 q hq' hS1).mono ?_
    rintro e w' ⟨rfl, rfl⟩
    go_wp2_with fail
    go_ret
    exact ⟨ret_bool hr', rfl⟩
end Go.Proofs.Qxb6600425aMods.words
