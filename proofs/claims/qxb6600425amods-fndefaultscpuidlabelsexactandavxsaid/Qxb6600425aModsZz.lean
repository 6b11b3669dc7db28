/-
  zzBytes of two laws (seat b6600425aM): each returns some bool and leaves the world alone.
-/
import Derived.Test.Qxb6600425aModsStrs
namespace Go.Proofs.Qxb6600425aMods.words
open Go.ChangeShapes Go.WideShapes Go.ChangeAt Go.RowKit
set_option linter.unusedVariables false

def SomeBool (e : Ending) : Prop := ∃ r : Bool, e = .returned (.bool r)

set_option maxRecDepth 100000 in
set_option maxHeartbeats 1000000 in
theorem zz29 (a0 : Option Addr) (c0 : Nat) (s0 : List ByteArray) (t0 : ByteArray) (w : World) (h0 : s0.length ≤ maxLen) (S0 : Hid (Strs w a0 s0)) (ht0 : t0.size ≤ maxLen) :
    Calls Trym.prog 29 #[.slice a0 s0.length c0, .string t0] w fun e w' => SomeBool e ∧ w' = w := by
  unfold maxLen at h0 ht0
  go_enter Trym.func29, Trym.ntmps29
  go_wp2_with fail
  · go_ret; exact ⟨⟨_, rfl⟩, rfl⟩
  go_loop [5, 6] (fun t i => ∃ k : Nat, ∃ m : Int, k ≤ s0.length ∧ i = .int .i64 k ∧ t = .int .i64 m ∧ 0 ≤ m ∧ m ≤ 1048576) (fun _ i => s0.length - (intOf i).toNat)
  case atStart => exact ⟨0, _, Nat.zero_le _, rfl, rfl, by omega, by omega⟩
  case round =>
    obtain ⟨k, m, hk, rfl, rfl, hm0, hm1⟩ := hrel
    by_cases hlt : k < s0.length
    · obtain ⟨b, off, rfl, _, hc⟩ := S0.out.some hlt
      have hck := hc k hlt
      clear hc
      generalize s0.getD k ByteArray.empty = s at hck
      go_wp2_with fail
      · go_ret; exact ⟨⟨_, rfl⟩, rfl⟩
      · go_ret; exact ⟨⟨_, rfl⟩, rfl⟩
      · exact ⟨⟨k + 1, _, by omega, by go_num, rfl, by omega, by omega⟩, by simp [intOf]; omega⟩
    clear S0 hk
    go_wp2_with fail
    all_goals (go_ret; exact ⟨⟨_, rfl⟩, rfl⟩)

set_option maxRecDepth 100000 in
set_option maxHeartbeats 1000000 in
theorem zz9 (a0 : Option Addr) (c0 : Nat) (s0 : List ByteArray) (a1 : Option Addr) (c1 : Nat) (s1 : List ByteArray) (a2 : Option Addr) (c2 : Nat) (s2 : List ByteArray) (a3 : Option Addr) (c3 : Nat) (s3 : List ByteArray) (t0 : ByteArray) (t1 : ByteArray) (w : World) (h0 : s0.length ≤ maxLen) (S0 : Hid (Strs w a0 s0)) (h1 : s1.length ≤ maxLen) (S1 : Hid (Strs w a1 s1)) (h2 : s2.length ≤ maxLen) (S2 : Hid (Strs w a2 s2)) (h3 : s3.length ≤ maxLen) (S3 : Hid (Strs w a3 s3)) (ht0 : t0.size ≤ maxLen) (ht1 : t1.size ≤ maxLen) :
    Calls Trym.prog 9 #[.slice a0 s0.length c0, .slice a1 s1.length c1, .slice a2 s2.length c2, .slice a3 s3.length c3, .string t0, .string t1] w fun e w' => SomeBool e ∧ w' = w := by
  unfold maxLen at h0 h1 h2 h3 ht0 ht1
  go_enter Trym.func9, Trym.ntmps9
  go_wp2_with fail
  · go_ret; exact ⟨⟨_, rfl⟩, rfl⟩
  go_loop [13, 14] (fun t i => ∃ k : Nat, ∃ m : Int, k ≤ s0.length ∧ i = .int .i64 k ∧ t = .int .i64 m ∧ 0 ≤ m ∧ m ≤ 1048576) (fun _ i => s0.length - (intOf i).toNat)
  case atStart => exact ⟨0, _, Nat.zero_le _, rfl, rfl, by omega, by omega⟩
  case round =>
    obtain ⟨k, m, hk, rfl, rfl, hm0, hm1⟩ := hrel
    by_cases hlt : k < s0.length
    · obtain ⟨b, off, rfl, _, hc⟩ := S0.out.some hlt
      have hck := hc k hlt
      clear hc
      generalize s0.getD k ByteArray.empty = s at hck
      go_wp2_with fail
      · go_ret; exact ⟨⟨_, rfl⟩, rfl⟩
      · go_ret; exact ⟨⟨_, rfl⟩, rfl⟩
      · exact ⟨⟨k + 1, _, by omega, by go_num, rfl, by omega, by omega⟩, by simp [intOf]; omega⟩
    clear S0 hk
    go_wp2_with fail
    · go_ret; exact ⟨⟨_, rfl⟩, rfl⟩
    · go_ret; exact ⟨⟨_, rfl⟩, rfl⟩
    go_loop [13, 15] (fun t i => ∃ k : Nat, ∃ m : Int, k ≤ s1.length ∧ i = .int .i64 k ∧ t = .int .i64 m ∧ 0 ≤ m ∧ m ≤ 1048576) (fun _ i => s1.length - (intOf i).toNat)
    case atStart => exact ⟨0, _, Nat.zero_le _, rfl, rfl, by omega, by omega⟩
    case round =>
      obtain ⟨k, m, hk, rfl, rfl, hm0, hm1⟩ := hrel
      by_cases hlt : k < s1.length
      · obtain ⟨b, off, rfl, _, hc⟩ := S1.out.some hlt
        have hck := hc k hlt
        clear hc
        generalize s1.getD k ByteArray.empty = s at hck
        go_wp2_with fail
        · go_ret; exact ⟨⟨_, rfl⟩, rfl⟩
        · go_ret; exact ⟨⟨_, rfl⟩, rfl⟩
        · exact ⟨⟨k + 1, _, by omega, by go_num, rfl, by omega, by omega⟩, by simp [intOf]; omega⟩
      clear S1 hk
      go_wp2_with fail
      · go_ret; exact ⟨⟨_, rfl⟩, rfl⟩
      · go_ret; exact ⟨⟨_, rfl⟩, rfl⟩
      go_loop [13, 16] (fun t i => ∃ k : Nat, ∃ m : Int, k ≤ s2.length ∧ i = .int .i64 k ∧ t = .int .i64 m ∧ 0 ≤ m ∧ m ≤ 1048576) (fun _ i => s2.length - (intOf i).toNat)
      case atStart => exact ⟨0, _, Nat.zero_le _, rfl, rfl, by omega, by omega⟩
      case round =>
        obtain ⟨k, m, hk, rfl, rfl, hm0, hm1⟩ := hrel
        by_cases hlt : k < s2.length
        · obtain ⟨b, off, rfl, _, hc⟩ := S2.out.some hlt
          have hck := hc k hlt
          clear hc
          generalize s2.getD k ByteArray.empty = s at hck
          go_wp2_with fail
          · go_ret; exact ⟨⟨_, rfl⟩, rfl⟩
          · go_ret; exact ⟨⟨_, rfl⟩, rfl⟩
          · exact ⟨⟨k + 1, _, by omega, by go_num, rfl, by omega, by omega⟩, by simp [intOf]; omega⟩
        clear S2 hk
        go_wp2_with fail
        · go_ret; exact ⟨⟨_, rfl⟩, rfl⟩
        · go_ret; exact ⟨⟨_, rfl⟩, rfl⟩
        go_loop [13, 17] (fun t i => ∃ k : Nat, ∃ m : Int, k ≤ s3.length ∧ i = .int .i64 k ∧ t = .int .i64 m ∧ 0 ≤ m ∧ m ≤ 1048576) (fun _ i => s3.length - (intOf i).toNat)
        case atStart => exact ⟨0, _, Nat.zero_le _, rfl, rfl, by omega, by omega⟩
        case round =>
          obtain ⟨k, m, hk, rfl, rfl, hm0, hm1⟩ := hrel
          by_cases hlt : k < s3.length
          · obtain ⟨b, off, rfl, _, hc⟩ := S3.out.some hlt
            have hck := hc k hlt
            clear hc
            generalize s3.getD k ByteArray.empty = s at hck
            go_wp2_with fail
            · go_ret; exact ⟨⟨_, rfl⟩, rfl⟩
            · go_ret; exact ⟨⟨_, rfl⟩, rfl⟩
            · exact ⟨⟨k + 1, _, by omega, by go_num, rfl, by omega, by omega⟩, by simp [intOf]; omega⟩
          clear S3 hk
          go_wp2_with fail
          all_goals (go_ret; exact ⟨⟨_, rfl⟩, rfl⟩)
end Go.Proofs.Qxb6600425aMods.words
