/-
  The walk of FnCpuidLabelsExact (seat b6600425aM).
-/
import Derived.Test.Qxb6600425aModsCount
import Derived.Test.Qxb6600425aModsZz
import Derived.Deep.RegionWith
import Derived.Deep.DeepMust
namespace Go.Proofs.Qxb6600425aMods.exact
open Go.ChangeShapes Go.WideShapes Go.ChangeAt Go.RowKit Go.Maps Go.WideMaps
open Go.Proofs.Qxb6600425aMods.words
set_option linter.unusedVariables false

set_option maxRecDepth 100000 in
set_option maxHeartbeats 1000000 in
theorem walk (a0 a1 a2 a3 : Option Addr) (c0 c1 c2 c3 : Nat) (s0 s1 s2 s3 : List ByteArray) (nm ot : ByteArray) (w : World)
    (h0 : s0.length ≤ maxLen) (h1 : s1.length ≤ maxLen) (h2 : s2.length ≤ maxLen) (h3 : s3.length ≤ maxLen) (hnm : nm.size ≤ maxLen) (hot : ot.size ≤ maxLen)
    (S0 : Hid (Strs w a0 s0)) (S1 : Hid (Strs w a1 s1)) (S2 : Hid (Strs w a2 s2)) (S3 : Hid (Strs w a3 s3))
    (Z2 : Hid (∀ s ∈ s2, s.size ≤ maxLen)) (Z3 : Hid (∀ s ∈ s3, s.size ≤ maxLen)) :
    Calls Trym.prog 3 #[.slice a0 s0.length c0, .slice a1 s1.length c1, .slice a2 s2.length c2, .slice a3 s3.length c3, .string nm, .string ot] w fun e w' => e = .returned (.bool true) ∧ Below w.heap.size w w' := by
  go_enter Trym.func3, Trym.ntmps3
  go_wp2_with fail
  refine (zz9 a0 c0 s0 a1 c1 s1 a2 c2 s2 a3 c3 s3 nm ot _ h0 S0 h1 S1 h2 S2 h3 S3 hnm hot).mono ?_
  rintro e w' ⟨⟨r, rfl⟩, rfl⟩
  cases r with
  | false =>
    go_wp2_with fail
    go_ret
    exact ⟨rfl, Below.refl _ _⟩
  | true =>
    by_cases hlen : s0.length ≤ 4096 ∧ s1.length ≤ 4096 ∧ s2.length ≤ 4096 ∧ s3.length ≤ 4096
    · obtain ⟨b0, b1, b2, b3⟩ := hlen
      go_wp2_with fail
      any_goals (go_ret; exact ⟨rfl, Below.refl _ _⟩)
      refine (bytes_any a0 c0 s0 _ h0 S0).mono ?_
      rintro e w' ⟨n0, rfl, g0, g0', rfl⟩
      go_wp2_with fail
      refine (bytes_any a1 c1 s1 _ h1 S1).mono ?_
      rintro e w' ⟨n1, rfl, g1, g1', rfl⟩
      go_wp2_with fail
      refine (bytes_any a2 c2 s2 _ h2 S2).mono ?_
      rintro e w' ⟨n2, rfl, g2, g2', rfl⟩
      go_wp2_with fail
      refine (bytes_any a3 c3 s3 _ h3 S3).mono ?_
      rintro e w' ⟨n3, rfl, g3, g3', rfl⟩
      go_wp2_with fail
      · go_ret
        exact ⟨rfl, Below.refl _ _⟩
      refine (copy_any a0 c0 s0 _ b0 S0).mono ?_
      rintro e w1 ⟨a0', rfl, hS0, hB1⟩
      clear S0
      have S0 : Hid (Strs w1 a0' s0) := hS0
      clear hS0
      have S1 : Hid (Strs w1 a1 s1) := S1.out.below hB1
      have S2 : Hid (Strs w1 a2 s2) := S2.out.below hB1
      have S3 : Hid (Strs w1 a3 s3) := S3.out.below hB1
      go_wp2_with fail
      refine (copy_any a1 c1 s1 _ b1 S1).mono ?_
      rintro e w2 ⟨a1', rfl, hS1, hB2⟩
      have S0 : Hid (Strs w2 a0' s0) := S0.out.below hB2
      have S1 : Hid (Strs w2 a1' s1) := hS1
      have S2 : Hid (Strs w2 a2 s2) := S2.out.below hB2
      have S3 : Hid (Strs w2 a3 s3) := S3.out.below hB2
      have hB2 := hB1.trans (hB2.mono hB1.size)
      clear hB1 hS1
      go_wp2_with fail
      refine (copy_any a2 c2 s2 _ b2 S2).mono ?_
      rintro e w3 ⟨a2', rfl, hS2, hB3⟩
      have S0 : Hid (Strs w3 a0' s0) := S0.out.below hB3
      have S1 : Hid (Strs w3 a1' s1) := S1.out.below hB3
      have S2 : Hid (Strs w3 a2' s2) := hS2
      have S3 : Hid (Strs w3 a3 s3) := S3.out.below hB3
      have hB3 := hB2.trans (hB3.mono hB2.size)
      clear hB2 hS2
      go_wp2_with fail
      refine (copy_any a3 c3 s3 _ b3 S3).mono ?_
      rintro e w4 ⟨a3', rfl, hS3, hB4⟩
      have S0 : Hid (Strs w4 a0' s0) := S0.out.below hB4
      have S1 : Hid (Strs w4 a1' s1) := S1.out.below hB4
      have S2 : Hid (Strs w4 a2' s2) := S2.out.below hB4
      have S3 : Hid (Strs w4 a3' s3) := hS3
      have hB4 := hB3.trans (hB4.mono hB3.size)
      clear hB3 hS3
      go_wp2_with fail
      obtain ⟨W, hW⟩ : ∃ W, W = w4.alloc (.cells #[.slice a0' s0.length s0.length, .slice a1' s1.length s1.length, .slice none 0 0, .slice none 0 0, .slice none 0 0] 27) := ⟨_, rfl⟩
      have hBW : Below w'.heap.size w' W := by rw [hW]; exact hB4.alloc hB4.size _
      have hB5 : Below w4.heap.size w4 W := by rw [hW]; exact (Below.refl _ _).alloc (Nat.le_refl _) _
      have S0 : Hid (Strs W a0' s0) := S0.out.below hB5
      have S1 : Hid (Strs W a1' s1) := S1.out.below hB5
      have S2 : Hid (Strs W a2' s2) := S2.out.below hB5
      have S3 : Hid (Strs W a3' s3) := S3.out.below hB5
      have q0 : W.cell? ⟨w4.heap.size, 0, none⟩ = some (.slice a0' s0.length s0.length) := by rw [hW, World.cell?_alloc_at _ _ _ _ rfl]; rfl
      have q1 : W.cell? ⟨w4.heap.size, 1, none⟩ = some (.slice a1' s1.length s1.length) := by rw [hW, World.cell?_alloc_at _ _ _ _ rfl]; rfl
      have q2 : W.cell? ⟨w4.heap.size, 2, none⟩ = some (.slice none 0 0) := by rw [hW, World.cell?_alloc_at _ _ _ _ rfl]; rfl
      have q3 : W.cell? ⟨w4.heap.size, 3, none⟩ = some (.slice none 0 0) := by rw [hW, World.cell?_alloc_at _ _ _ _ rfl]; rfl
      have q4 : W.cell? ⟨w4.heap.size, 4, none⟩ = some (.slice none 0 0) := by rw [hW, World.cell?_alloc_at _ _ _ _ rfl]; rfl
      have hPW : w4.heap.size < W.heap.size := by rw [hW, size_alloc]; omega
      rw [← hW]
      clear hW hB5 hB4 g0 g1 g2 g3 g0' g1' g2' g3' h0 h1 h2 h3
      generalize w4.heap.size = p at *
      go_region_with (first
        | (go_at_call 13; go_must ((refine (two_any a2' a3' _ _ s2 s3 nm ot _ b2 b3 hnm hot Z2 Z3 ?_ ?_).mono ?_; exact S2; exact S3; rintro e w5 ⟨v, rfl, hH, hB5'⟩; have hB5 : Below W.heap.size W w5 := ((Below.refl _ _).drew).trans hB5'; clear hB5'; have q0' := (hB5.cell (p := ⟨p, 0, none⟩) hPW).trans q0; have q1' := (hB5.cell (p := ⟨p, 1, none⟩) hPW).trans q1; have q2' := (hB5.cell (p := ⟨p, 2, none⟩) hPW).trans q2; have q3' := (hB5.cell (p := ⟨p, 3, none⟩) hPW).trans q3; have q4' := (hB5.cell (p := ⟨p, 4, none⟩) hPW).trans q4; have T0 : Hid (Strs w5 a0' s0) := S0.out.below hB5; have T1 : Hid (Strs w5 a1' s1) := S1.out.below hB5; have T2 : Hid (Strs w5 a2' s2) := S2.out.below hB5; have T3 : Hid (Strs w5 a3' s3) := S3.out.below hB5; have hB5w := hBW.trans (hB5.mono hBW.size); have hP5 := Nat.lt_of_lt_of_le hPW hB5.size)))
        | (go_at_call 12; go_must ((refine (zz_has a0' a1' none none none _ _ 0 0 0 0 0 0 s0 s1 _ nm (setS s2) _ b0 b1 hnm ?_ ?_ ?_).mono ?_; exact T0; exact T1; exact hH; rintro e w6 ⟨L, rfl, hLab, hB6⟩))))
      all_goals
        have hB6w := hB5w.trans (hB6.mono hB5w.size)
        have T0 : Hid (Strs w6 a0' s0) := T0.out.below hB6
        have T1 : Hid (Strs w6 a1' s1) := T1.out.below hB6
        have T2 : Hid (Strs w6 a2' s2) := T2.out.below hB6
        have T3 : Hid (Strs w6 a3' s3) := T3.out.below hB6
        have q0 := (hB6.cell (p := ⟨p, 0, none⟩) hP5).trans q0'
        have q1 := (hB6.cell (p := ⟨p, 1, none⟩) hP5).trans q1'
        have q2 := (hB6.cell (p := ⟨p, 2, none⟩) hP5).trans q2'
        have q3 := (hB6.cell (p := ⟨p, 3, none⟩) hP5).trans q3'
        have q4 := (hB6.cell (p := ⟨p, 4, none⟩) hP5).trans q4'
        have hP6 := Nat.lt_of_lt_of_le hP5 hB6.size
        have hR : Hid (Right w6 L s2 (modelB s0 s1)) := hLab.right
        clear hLab hB6 hB5w q0' q1' q2' q3' q4' hP5 hH hB5 S0 S1 S2 S3 hPW hBW
        go_wp2_with fail
        go_loop [15, 16] (fun t i => ∃ k : Nat, k ≤ s2.length ∧ i = .int .i64 k ∧ t = .int .i64 ((selTo s2 (modelB s0 s1) k).length : Nat)) (fun _ i => s2.length - (intOf i).toNat)
        case atStart => exact ⟨0, Nat.zero_le _, rfl, rfl⟩
        case round =>
          obtain ⟨k, hk, rfl, rfl⟩ := hrel
          have hsel := selTo_le s2 (modelB s0 s1) k
          by_cases hlt : k < s2.length
          · obtain ⟨b, off, rfl, hbl, hc⟩ := T2.out.some hlt
            have hck := hc k hlt
            have HC : Hid (∀ j, j < s2.length → w6.cell? ⟨b, off + j, none⟩ = some (.string (s2.getD j ByteArray.empty))) := hc
            clear hc
            have hmem : Hid (s2.getD k ByteArray.empty ∈ s2) := getD_mem hlt
            have hsz := Z2.out _ hmem.out
            have hstep : Hid (selTo s2 (modelB s0 s1) (k + 1) = if firstN s2 (s2.getD k ByteArray.empty) = k ∧ modelB s0 s1 (s2.getD k ByteArray.empty) = true then selTo s2 (modelB s0 s1) k ++ [litS (s2.getD k ByteArray.empty)] else selTo s2 (modelB s0 s1) k) := rfl
            generalize hs : s2.getD k ByteArray.empty = s at hck hmem hsz hstep
            clear hs
            by_cases hf : firstN s2 s = k
            · have hF : Hid (firstN s2 s = k) := hf
              obtain ⟨r, hr⟩ : ∃ r, Hid (modelB s0 s1 s = r) := ⟨_, rfl⟩
              obtain ⟨v', hrun, hv⟩ := hR.out.look s hmem.out hsz
              rw [hr.out] at hrun hv
              have hv' : Hid (r = true → v' = trueB) := hv
              have hstep' : Hid (selTo s2 (modelB s0 s1) (k + 1) = if r = true then selTo s2 (modelB s0 s1) k ++ [litS s] else selTo s2 (modelB s0 s1) k) := by
                have h := hstep.out; rw [hr.out] at h; simp only [hf, true_and] at h; exact h
              clear hv hstep hf
              cases r with
              | true =>
                have hvt := hv'.out rfl
                unfold trueB at hvt
                subst hvt
                go_wp2_with fail
                refine (first_is b off _ _ s2 s k _ (by unfold maxLen; omega) rfl hmem hF HC).mono ?_
                rintro e w7 ⟨rfl, rfl⟩
                go_wp2_with fail
                refine (model_any a0' a1' _ _ s0 s1 s _ (by unfold maxLen; omega) (by unfold maxLen; omega) true hr T0 T1).mono ?_
                rintro e w8 ⟨rfl, rfl⟩
                go_wp2_with fail
                exact ⟨⟨k + 1, by omega, by go_num, by rw [hstep'.out]; simp⟩, by simp [intOf]; omega⟩
              | false =>
                go_wp2_with fail
                refine (first_is b off _ _ s2 s k _ (by unfold maxLen; omega) rfl hmem hF HC).mono ?_
                rintro e w7 ⟨rfl, rfl⟩
                go_wp2_with fail
                refine (model_any a0' a1' _ _ s0 s1 s _ (by unfold maxLen; omega) (by unfold maxLen; omega) false hr T0 T1).mono ?_
                rintro e w8 ⟨rfl, rfl⟩
                go_wp2_with fail
                exact ⟨⟨k + 1, by omega, by go_num, by rw [hstep'.out]; simp⟩, by simp [intOf]; omega⟩
            · have hfb : (((firstN s2 s : Nat) : Int) != (k : Int)) = true := by rw [bne_iff_ne]; omega
              go_wp2_with fail
              refine (first_any b off _ s2 s _ (by unfold maxLen; omega) hmem HC.out).mono ?_
              rintro e w7 ⟨rfl, rfl⟩
              go_wp2_with fail
              exact ⟨⟨k + 1, by omega, by go_num, by rw [hstep.out, if_neg (fun h => hf h.1)]⟩, by simp [intOf]; omega⟩
          · have hkn : k = s2.length := by omega
            subst hkn
            have hlen := hR.out.len
            by_cases hno : nm = ot
            · have hbeq : (nm.toList == ot.toList) = true := (toList_beq nm ot).2 hno
              clear hno
              go_wp2_with fail
              go_ret
              exact ⟨rfl, hB6w⟩
            · have hbeq : (nm.toList == ot.toList) = false := by
                cases h : (nm.toList == ot.toList)
                · rfl
                · exact absurd ((toList_beq nm ot).1 h) hno
              have hno' : Hid (nm ≠ ot) := hno
              clear hno
              go_wp2_with fail
              clear hlen
              go_region_with (first
                | (go_at_call 16; go_must ((refine (other_any a3' _ s3 nm ot _ b3 hot Z3 ?_ hno').mono ?_; exact T3; rintro e w7 ⟨v7, rfl, hH7, hB7'⟩; have hB7 : Below w6.heap.size w6 w7 := ((Below.refl _ _).drew).trans hB7'; clear hB7'; have q0' := (hB7.cell (p := ⟨p, 0, none⟩) hP6).trans q0; have q1' := (hB7.cell (p := ⟨p, 1, none⟩) hP6).trans q1; have q2' := (hB7.cell (p := ⟨p, 2, none⟩) hP6).trans q2; have q3' := (hB7.cell (p := ⟨p, 3, none⟩) hP6).trans q3; have q4' := (hB7.cell (p := ⟨p, 4, none⟩) hP6).trans q4; have hB7w := hB6w.trans (hB7.mono hB6w.size))))
                | (go_at_call 12; go_must ((refine (zz_lacks a0' a1' none none none _ _ _ _ 0 0 0 0 0 0 _ nm _ hnm ?_).mono ?_; exact hH7; rintro e w8 ⟨L8, rfl, hL8, hB8⟩))))
              all_goals
                have hlen8 : ∀ ty, (Builtin.len_ #[28] ty #[.map (some L8)]).run Trym.prog w8 = .ok (.int .i64 0) w8 := fun ty => hL8.len Trym.underlying28 ty
                go_wp2_with fail
                go_ret
                exact ⟨rfl, hB7w.trans (hB8.mono hB7w.size)⟩
    · go_wp2_with fail
      any_goals (go_ret; exact ⟨rfl, Below.refl _ _⟩)
      all_goals (exfalso; omega)
end Go.Proofs.Qxb6600425aMods.exact
