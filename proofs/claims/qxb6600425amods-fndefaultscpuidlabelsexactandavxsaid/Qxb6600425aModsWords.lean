/-
  Contracts of the string helpers of seat b6600425aM.
-/
import Derived.Test.Qxb6600425aModsRows
import Derived.WalkKit
import Derived.ProofKit
import Derived.Deep.QuietTactic
import Derived.BigQuiet
namespace Go.Proofs.Qxb6600425aMods.words
open Go.ChangeShapes Go.WideShapes Go.ChangeAt Go.RowKit
set_option linter.unusedVariables false

theorem ret_bool {a b : Bool} (h : a = b) : Ending.returned (.bool a) = .returned (.bool b) := by rw [h]

def upB (c : Int) : Prop := (65 ≤ c ∧ c ≤ 90) ∨ (48 ≤ c ∧ c ≤ 57) ∨ c = 95
def loB (c : Int) : Prop := (97 ≤ c ∧ c ≤ 122) ∨ c = 95
def hexB (c : Int) : Prop := (48 ≤ c ∧ c ≤ 57) ∨ (97 ≤ c ∧ c ≤ 102)

set_option maxHeartbeats 400000 in
theorem upper_yes (s : ByteArray) (w : World) (hs : s.size ≤ maxLen) (h0 : 0 < s.size) (h : Hid (∀ k (hk : k < s.size), upB (s[k].toNat : Int))) :
    Calls Trym.prog 22 #[.string s] w fun e w' => e = .returned (.bool true) ∧ w' = w := by
  unfold maxLen at hs
  have h1 : ((s.size : Int) == 0) = false := beq_eq_false_iff_ne.2 (by omega)
  go_enter Trym.func22, Trym.ntmps22
  go_wp2
  go_loop [3] (fun i => ∃ k : Nat, k ≤ s.size ∧ i = .int .i64 k) (fun i => s.size - (intOf i).toNat)
  case atStart => exact ⟨0, Nat.zero_le _, rfl⟩
  case round =>
    obtain ⟨k, hk, rfl⟩ := hrel
    by_cases hlt : k < s.size
    · have hc := h.out k hlt
      go_wp2
      all_goals first
        | (refine ⟨⟨k + 1, ?_, ?_⟩, ?_⟩ <;> first | omega | (go_num; done) | (simp [intOf]; omega))
        | (exfalso; unfold upB at hc; omega)
        | (exfalso; rename_i h4 _; simp at h4; unfold upB at hc; omega)
        | (exfalso; rename_i h4; simp at h4; unfold upB at hc; omega)
        | (exfalso; rename_i h4 _ _; simp at h4; unfold upB at hc; omega)
    · go_wp2
      go_ret
      exact ⟨rfl, rfl⟩

set_option maxHeartbeats 400000 in
theorem lower_yes (s : ByteArray) (w : World) (hs : s.size ≤ maxLen) (h0 : 0 < s.size) (h : Hid (∀ k (hk : k < s.size), loB (s[k].toNat : Int))) :
    Calls Trym.prog 26 #[.string s] w fun e w' => e = .returned (.bool true) ∧ w' = w := by
  unfold maxLen at hs
  have h1 : ((s.size : Int) == 0) = false := beq_eq_false_iff_ne.2 (by omega)
  go_enter Trym.func26, Trym.ntmps26
  go_wp2
  go_loop [3] (fun i => ∃ k : Nat, k ≤ s.size ∧ i = .int .i64 k) (fun i => s.size - (intOf i).toNat)
  case atStart => exact ⟨0, Nat.zero_le _, rfl⟩
  case round =>
    obtain ⟨k, hk, rfl⟩ := hrel
    by_cases hlt : k < s.size
    · have hc := h.out k hlt
      go_wp2
      all_goals first
        | (refine ⟨⟨k + 1, ?_, ?_⟩, ?_⟩ <;> first | omega | (go_num; done) | (simp [intOf]; omega))
        | (exfalso; unfold loB at hc; omega)
        | (exfalso; rename_i h4 _; simp at h4; unfold loB at hc; omega)
        | (exfalso; rename_i h4; simp at h4; unfold loB at hc; omega)
        | (exfalso; rename_i h4 _ _; simp at h4; unfold loB at hc; omega)
    · go_wp2
      go_ret
      exact ⟨rfl, rfl⟩

set_option maxHeartbeats 400000 in
theorem hex_yes (s : ByteArray) (w : World) (hs : s.size ≤ maxLen) (h : Hid (∀ k (hk : k < s.size), hexB (s[k].toNat : Int))) :
    Calls Trym.prog 24 #[.string s] w fun e w' => e = .returned (.bool true) ∧ w' = w := by
  unfold maxLen at hs
  go_enter Trym.func24, Trym.ntmps24
  go_wp2
  go_loop [3] (fun i => ∃ k : Nat, k ≤ s.size ∧ i = .int .i64 k) (fun i => s.size - (intOf i).toNat)
  case atStart => exact ⟨0, Nat.zero_le _, rfl⟩
  case round =>
    obtain ⟨k, hk, rfl⟩ := hrel
    by_cases hlt : k < s.size
    · have hc := h.out k hlt
      go_wp2
      all_goals first
        | (refine ⟨⟨k + 1, ?_, ?_⟩, ?_⟩ <;> first | omega | (go_num; done) | (simp [intOf]; omega))
        | (exfalso; unfold hexB at hc; omega)
        | (exfalso; rename_i h4 _; simp at h4; unfold hexB at hc; omega)
        | (exfalso; rename_i h4; simp at h4; unfold hexB at hc; omega)
        | (exfalso; rename_i h4 _ _; simp at h4; unfold hexB at hc; omega)
    · go_wp2
      go_ret
      exact ⟨rfl, rfl⟩

def lessL : List UInt8 → List UInt8 → Bool
  | [], b => !b.isEmpty
  | _ :: _, [] => false
  | a :: ar, b :: br => if a = b then lessL ar br else decide ((a.toNat : Int) < b.toNat)

theorem drop_cons (s : ByteArray) (k : Nat) (h : k < s.size) : s.data.toList.drop k = s[k] :: s.data.toList.drop (k + 1) := by
  rw [List.drop_eq_getElem_cons (by simpa using h)]; rfl

theorem toNat_inj {a b : UInt8} (h : (a.toNat : Int) = b.toNat) : a = b := by
  apply UInt8.toNat_inj.1; omega

set_option maxHeartbeats 400000 in
theorem less_yes (a b : ByteArray) (w : World) (ha : a.size ≤ maxLen) (hb : b.size ≤ maxLen) (h : Hid (lessL a.data.toList b.data.toList = true)) :
    Calls Trym.prog 23 #[.string a, .string b] w fun e w' => e = .returned (.bool true) ∧ ∃ m, w' = w.drewN m := by
  unfold maxLen at ha hb
  go_enter Trym.func23, Trym.ntmps23
  go_wp2
  go_loopw [5] (fun i wr => ∃ k n : Nat, k ≤ a.size ∧ k ≤ b.size ∧ i = .int .i64 k ∧ wr = w.drewN n ∧ Hid (lessL (a.data.toList.drop k) (b.data.toList.drop k) = true)) (fun i _ => a.size - (intOf i).toNat)
  case atStart => exact ⟨0, 0, Nat.zero_le _, Nat.zero_le _, rfl, rfl, h⟩
  case round =>
    obtain ⟨k, n, hka, hkb, rfl, rfl, hL⟩ := hrel
    clear h
    by_cases hlt : k < a.size
    · by_cases hlb : k < b.size
      · have hL' : Hid (lessL (a[k] :: a.data.toList.drop (k + 1)) (b[k] :: b.data.toList.drop (k + 1)) = true) := by
          have := hL.out; rw [drop_cons a k hlt, drop_cons b k hlb] at this; exact this
        clear hL
        go_wp2
        go_quiet (fail)
        go_wp2
        · go_quiet (fail)
          go_wp2
          go_ret
          rename_i hne
          refine ⟨ret_bool ?_, _, by rw [World.drewN_drewN, World.drewN_drewN]⟩
          have hq := hL'.out
          have hne' : ¬ a[k] = b[k] := fun e => by rw [e] at hne; simp at hne
          simp only [lessL, if_neg hne'] at hq
          simpa using hq
        · rename_i heq
          have hq := hL'.out
          have he : a[k] = b[k] := toNat_inj (by simpa using heq)
          simp only [lessL, if_pos he] at hq
          exact ⟨⟨k + 1, n + nq, by omega, by omega, by go_num, rfl, hq⟩, by simp [intOf]; omega⟩
      · go_wp2
        go_ret
        exfalso
        have hq := hL.out
        rw [drop_cons a k hlt, List.drop_of_length_le (l := b.data.toList) (by simp; omega)] at hq
        simp [lessL] at hq
    · go_wp2
      go_ret
      have hq := hL.out
      rw [List.drop_of_length_le (l := a.data.toList) (by simp; omega)] at hq
      refine ⟨ret_bool ?_, _, rfl⟩
      simp [lessL] at hq
      simp
      omega
end Go.Proofs.Qxb6600425aMods.words
