/-
  The bounds' helpers (seat b6600856aM): zzBytes_.., zzAddList, zzTooBig, zzOther.
-/
import Derived.Test.Qxb6600856aModsStrs
namespace Go.Proofs.Qxb6600856aMods.net
open Go.ChangeShapes Go.WideShapes Go.ChangeAt Go.RowKit
set_option linter.unusedVariables false

def BoolIf (e : Ending) (p : Prop) : Prop := ∃ r : Bool, e = .returned (.bool r) ∧ (r = true → p)

set_option maxRecDepth 100000 in
set_option maxHeartbeats 1000000 in
theorem zz12 (t0 t1 : ByteArray) (m : Int) (a3 a4 a5 : Option Addr) (c3 c4 c5 : Nat) (s3 s4 s5 : List ByteArray) (x : Bool) (t7 t8 : ByteArray) (w : World)
    (ht0 : t0.size ≤ maxLen) (ht1 : t1.size ≤ maxLen) (ht7 : t7.size ≤ maxLen) (ht8 : t8.size ≤ maxLen) (h3 : s3.length ≤ maxLen) (h4 : s4.length ≤ maxLen) (h5 : s5.length ≤ maxLen)
    (S3 : Hid (Strs w a3 s3)) (S4 : Hid (Strs w a4 s4)) (S5 : Hid (Strs w a5 s5)) :
    Calls Trym.prog 12 #[.string t0, .string t1, .int .i32 m, .slice a3 s3.length c3, .slice a4 s4.length c4, .slice a5 s5.length c5, .bool x, .string t7, .string t8] w fun e w' => BoolIf e (s3.length ≤ 1048576 ∧ s4.length ≤ 1048576 ∧ s5.length ≤ 1048576) ∧ w' = w := by
  unfold maxLen at ht0 ht1 ht7 ht8 h3 h4 h5
  go_enter Trym.func12, Trym.ntmps12
  go_wp2_with fail
  any_goals (go_ret; refine ⟨⟨_, rfl, ?_⟩, rfl⟩; intro h; first | (cases h; done) | exact ⟨by omega, by omega, by omega⟩)
  go_loop [19, 20] (fun t i => ∃ k : Nat, ∃ m : Int, k ≤ s3.length ∧ i = .int .i64 k ∧ t = .int .i64 m ∧ 0 ≤ m ∧ m ≤ 1048576) (fun _ i => s3.length - (intOf i).toNat)
  case atStart => exact ⟨0, _, Nat.zero_le _, rfl, rfl, by omega, by omega⟩
  case round =>
    obtain ⟨k, m, hk, rfl, rfl, hm0, hm1⟩ := hrel
    by_cases hlt : k < s3.length
    · obtain ⟨b, off, rfl, _, hc⟩ := S3.out.some hlt
      have hck := hc k hlt
      clear hc
      generalize s3.getD k ByteArray.empty = s at hck
      go_wp2_with fail
      · (go_ret; refine ⟨⟨_, rfl, ?_⟩, rfl⟩; intro h; first | (cases h; done) | exact ⟨by omega, by omega, by omega⟩)
      · (go_ret; refine ⟨⟨_, rfl, ?_⟩, rfl⟩; intro h; first | (cases h; done) | exact ⟨by omega, by omega, by omega⟩)
      · exact ⟨⟨k + 1, _, by omega, by go_num, rfl, by omega, by omega⟩, by simp [intOf]; omega⟩
    clear S3 hk
    go_wp2_with fail
    any_goals (go_ret; refine ⟨⟨_, rfl, ?_⟩, rfl⟩; intro h; first | (cases h; done) | exact ⟨by omega, by omega, by omega⟩)
    go_loop [19, 21] (fun t i => ∃ k : Nat, ∃ m : Int, k ≤ s4.length ∧ i = .int .i64 k ∧ t = .int .i64 m ∧ 0 ≤ m ∧ m ≤ 1048576) (fun _ i => s4.length - (intOf i).toNat)
    case atStart => exact ⟨0, _, Nat.zero_le _, rfl, rfl, by omega, by omega⟩
    case round =>
      obtain ⟨k, m, hk, rfl, rfl, hm0, hm1⟩ := hrel
      by_cases hlt : k < s4.length
      · obtain ⟨b, off, rfl, _, hc⟩ := S4.out.some hlt
        have hck := hc k hlt
        clear hc
        generalize s4.getD k ByteArray.empty = s at hck
        go_wp2_with fail
        · (go_ret; refine ⟨⟨_, rfl, ?_⟩, rfl⟩; intro h; first | (cases h; done) | exact ⟨by omega, by omega, by omega⟩)
        · (go_ret; refine ⟨⟨_, rfl, ?_⟩, rfl⟩; intro h; first | (cases h; done) | exact ⟨by omega, by omega, by omega⟩)
        · exact ⟨⟨k + 1, _, by omega, by go_num, rfl, by omega, by omega⟩, by simp [intOf]; omega⟩
      clear S4 hk
      go_wp2_with fail
      any_goals (go_ret; refine ⟨⟨_, rfl, ?_⟩, rfl⟩; intro h; first | (cases h; done) | exact ⟨by omega, by omega, by omega⟩)
      go_loop [19, 22] (fun t i => ∃ k : Nat, ∃ m : Int, k ≤ s5.length ∧ i = .int .i64 k ∧ t = .int .i64 m ∧ 0 ≤ m ∧ m ≤ 1048576) (fun _ i => s5.length - (intOf i).toNat)
      case atStart => exact ⟨0, _, Nat.zero_le _, rfl, rfl, by omega, by omega⟩
      case round =>
        obtain ⟨k, m, hk, rfl, rfl, hm0, hm1⟩ := hrel
        by_cases hlt : k < s5.length
        · obtain ⟨b, off, rfl, _, hc⟩ := S5.out.some hlt
          have hck := hc k hlt
          clear hc
          generalize s5.getD k ByteArray.empty = s at hck
          go_wp2_with fail
          · (go_ret; refine ⟨⟨_, rfl, ?_⟩, rfl⟩; intro h; first | (cases h; done) | exact ⟨by omega, by omega, by omega⟩)
          · (go_ret; refine ⟨⟨_, rfl, ?_⟩, rfl⟩; intro h; first | (cases h; done) | exact ⟨by omega, by omega, by omega⟩)
          · exact ⟨⟨k + 1, _, by omega, by go_num, rfl, by omega, by omega⟩, by simp [intOf]; omega⟩
        clear S5 hk
        go_wp2_with fail
        all_goals (go_ret; refine ⟨⟨_, rfl, ?_⟩, rfl⟩; intro h; first | (cases h; done) | exact ⟨by omega, by omega, by omega⟩)

set_option maxRecDepth 100000 in
set_option maxHeartbeats 1000000 in
theorem add_any (n : Int) (a : Option Addr) (c : Nat) (ss : List ByteArray) (w : World) (h0 : 0 ≤ n) (h1 : n ≤ 33554432) (hl : ss.length ≤ maxLen) (hS : Hid (Strs w a ss)) :
    Calls Trym.prog 16 #[.int .i64 n, .slice a ss.length c] w fun e w' => ∃ m : Int, e = .returned (.int .i64 m) ∧ 0 ≤ m ∧ m ≤ 33554432 ∧ w' = w := by
  unfold maxLen at hl
  by_cases hA : 1048576 < n
  · go_enter Trym.func16, Trym.ntmps16
    go_wp2_with fail
    go_ret
    exact ⟨_, rfl, by omega, by omega, rfl⟩
  by_cases hB : (1048576 : Int) < (ss.length : Int)
  · go_enter Trym.func16, Trym.ntmps16
    go_wp2_with fail
    go_ret
    exact ⟨_, rfl, by omega, by omega, rfl⟩
  go_enter Trym.func16, Trym.ntmps16
  go_wp2_with fail
  go_loop [0, 5] (fun t i => ∃ k : Nat, ∃ m : Int, k ≤ ss.length ∧ i = .int .i64 k ∧ t = .int .i64 m ∧ 0 ≤ m ∧ m ≤ 33554432) (fun _ i => ss.length - (intOf i).toNat)
  case atStart => exact ⟨0, _, Nat.zero_le _, rfl, rfl, by omega, by omega⟩
  case round =>
    obtain ⟨k, m, hk, rfl, rfl, hm0, hm1⟩ := hrel
    by_cases hlt : k < ss.length
    · obtain ⟨b, off, rfl, _, hc⟩ := hS.out.some hlt
      have hck := hc k hlt
      clear hc
      generalize ss.getD k ByteArray.empty = s at hck
      by_cases h2 : 1048576 < m
      · go_wp2_with fail
        go_ret
        exact ⟨_, rfl, by omega, by omega, rfl⟩
      by_cases h3 : (1048576 : Int) < (s.size : Int)
      · go_wp2_with fail
        go_ret
        exact ⟨_, rfl, by omega, by omega, rfl⟩
      go_wp2_with fail
      exact ⟨⟨k + 1, _, by omega, by go_num, rfl, by omega, by omega⟩, by simp [intOf]; omega⟩
    · go_wp2_with fail
      go_ret
      exact ⟨_, rfl, by omega, by omega, rfl⟩

set_option maxRecDepth 100000 in
set_option maxHeartbeats 1000000 in
theorem big_any (t0 t1 t2 t3 : ByteArray) (a3 a4 a5 : Option Addr) (c3 c4 c5 : Nat) (s3 s4 s5 : List ByteArray) (w : World)
    (ht0 : t0.size ≤ maxLen) (ht1 : t1.size ≤ maxLen) (ht2 : t2.size ≤ maxLen) (ht3 : t3.size ≤ maxLen) (h3 : s3.length ≤ maxLen) (h4 : s4.length ≤ maxLen) (h5 : s5.length ≤ maxLen)
    (S3 : Hid (Strs w a3 s3)) (S4 : Hid (Strs w a4 s4)) (S5 : Hid (Strs w a5 s5)) :
    Calls Trym.prog 7 #[.string t0, .string t1, .string t2, .string t3, .slice a3 s3.length c3, .slice a4 s4.length c4, .slice a5 s5.length c5] w fun e w' => SomeBool e ∧ w' = w := by
  have h3' := h3
  have h4' := h4
  have h5' := h5
  unfold maxLen at ht0 ht1 ht2 ht3 h3' h4' h5'
  go_enter Trym.func7, Trym.ntmps7
  go_wp2_with fail
  any_goals (go_ret; exact ⟨⟨_, rfl⟩, rfl⟩)
  refine (add_any _ a3 c3 s3 _ (by omega) (by omega) h3 S3).mono ?_
  rintro e w' ⟨n0, rfl, g0, g0', rfl⟩
  go_wp2_with fail
  refine (add_any _ a4 c4 s4 _ (by omega) (by omega) h4 S4).mono ?_
  rintro e w' ⟨n1, rfl, g1, g1', rfl⟩
  go_wp2_with fail
  refine (add_any _ a5 c5 s5 _ (by omega) (by omega) h5 S5).mono ?_
  rintro e w' ⟨n2, rfl, g2, g2', rfl⟩
  go_wp2_with fail
  go_ret
  exact ⟨⟨_, rfl⟩, rfl⟩

theorem other_any (s : ByteArray) (w : World) : Calls Trym.prog 14 #[.string s] w fun e w' => ∃ u : ByteArray, e = .returned (.string u) ∧ w' = w := by
  go_enter Trym.func14, Trym.ntmps14
  go_wp2
  all_goals (go_ret; exact ⟨_, rfl, rfl⟩)
end Go.Proofs.Qxb6600856aMods.net
