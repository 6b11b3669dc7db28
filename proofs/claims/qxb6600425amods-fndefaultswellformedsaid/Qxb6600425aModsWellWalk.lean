/-
  The walk of FnDefaultsWellFormed (seat b6600425aM).
-/
import Derived.Test.Qxb6600425aModsFacts
namespace Go.Proofs.Qxb6600425aMods.well
open Go.ChangeShapes Go.WideShapes Go.ChangeAt Go.RowKit
open Go.Proofs.Qxb6600425aMods.words
set_option linter.unusedVariables false

set_option maxRecDepth 100000 in
set_option maxHeartbeats 1000000 in
theorem walk (w : World) :
    Calls Trym.prog 6 #[] w fun e w' => e = .returned (.bool true) ∧ Grown w w' := by
  have hsz := dw_size w
  have hU := dw_U w
  have hK := dw_K w
  have hP := dw_P w
  have hF := dw_F w
  have hG := dw_grown w
  go_enter Trym.func6, Trym.ntmps6
  go_wp2_with fail
  refine (defaults_any _).mono ?_
  rintro e w1 ⟨rfl, rfl⟩
  generalize dw w = w1 at *
  generalize w.heap.size = B at *
  go_wp2_with fail
  obtain ⟨W, hW⟩ : ∃ W, W = w1.alloc (.cells #[.slice (some ⟨B + 1, 0, none⟩) 25 25, .slice none 0 0, .slice (some ⟨B + 2, 0, none⟩) 4 4, .slice (some ⟨B + 3, 0, none⟩) 3 3, .slice (some ⟨B + 4, 0, none⟩) 2 2] 27) := ⟨_, rfl⟩
  have cU : Hid (∀ j, j < 25 → W.cell? ⟨B + 1, 0 + j, none⟩ = some (.string (UL.getD j ByteArray.empty))) := fun j hj => by
    rw [hW, World.cell?_alloc_past _ _ _ (by omega), Nat.zero_add]; exact hU j hj
  have cK : Hid (∀ j, j < 4 → W.cell? ⟨B + 2, 0 + j, none⟩ = some (.string (KL.getD j ByteArray.empty))) := fun j hj => by
    rw [hW, World.cell?_alloc_past _ _ _ (by omega), Nat.zero_add]; exact hK j hj
  have cP : Hid (∀ j, j < 3 → W.cell? ⟨B + 3, 0 + j, none⟩ = some (.string (PL.getD j ByteArray.empty))) := fun j hj => by
    rw [hW, World.cell?_alloc_past _ _ _ (by omega), Nat.zero_add]; exact hP j hj
  have cF : Hid (∀ j, j < 2 → W.cell? ⟨B + 4, 0 + j, none⟩ = some (.string (FL.getD j ByteArray.empty))) := fun j hj => by
    rw [hW, World.cell?_alloc_past _ _ _ (by omega), Nat.zero_add]; exact hF j hj
  have d0 : W.cell? ⟨B + 5, 0, none⟩ = some (.slice (some ⟨B + 1, 0, none⟩) 25 25) := by rw [hW, World.cell?_alloc_at _ _ _ _ hsz.symm]; rfl
  have d2 : W.cell? ⟨B + 5, 2, none⟩ = some (.slice (some ⟨B + 2, 0, none⟩) 4 4) := by rw [hW, World.cell?_alloc_at _ _ _ _ hsz.symm]; rfl
  have d3 : W.cell? ⟨B + 5, 3, none⟩ = some (.slice (some ⟨B + 3, 0, none⟩) 3 3) := by rw [hW, World.cell?_alloc_at _ _ _ _ hsz.symm]; rfl
  have d4 : W.cell? ⟨B + 5, 4, none⟩ = some (.slice (some ⟨B + 4, 0, none⟩) 2 2) := by rw [hW, World.cell?_alloc_at _ _ _ _ hsz.symm]; rfl
  have hGW : Grown w W := by rw [hW]; exact hG.alloc _ _
  rw [← hW]
  clear hW hU hK hP hF hG hsz
  go_loopw [2] (fun i wr => ∃ k n : Nat, k ≤ 25 ∧ i = .int .i64 k ∧ wr = W.drewN n) (fun i _ => 25 - (intOf i).toNat)
  case atStart => exact ⟨0, 0, Nat.zero_le _, rfl, rfl⟩
  case round =>
    obtain ⟨k, n, hk, rfl, rfl⟩ := hrel
    by_cases hlt : k < 25
    · have hck : (W.drewN n).cell? ⟨B + 1, k, none⟩ = some (.string (UL.getD k ByteArray.empty)) := by
        have := cU.out k hlt; rw [Nat.zero_add] at this; exact this
      have d0' : (W.drewN n).cell? ⟨B + 5, 0, none⟩ = some (.slice (some ⟨B + 1, 0, none⟩) 25 25) := d0
      clear d0 d2 d3 d4 cK cP cF
      obtain ⟨V, hV⟩ : ∃ V, V = W.drewN n := ⟨_, rfl⟩
      obtain ⟨f1, f2, f3⟩ := U_facts k hlt
      have HL : Hid (∀ m, k = m + 1 → lessL (UL.getD m ByteArray.empty).data.toList (UL.getD k ByteArray.empty).data.toList = true) := fun m hm => by
        rw [hm]; exact U_less m (by omega)
      generalize UL.getD k ByteArray.empty = s at *
      have f4 : Hid (s.data.toList.all upb = true) := f3
      clear f3
      cases k with
      | zero =>
        rw [← hV] at hck d0'
        rw [← hV]
        have HV : Hid (V = W.drewN n) := hV
        clear hV
        go_wp2_with fail
        refine (upper_yes s _ (by unfold maxLen; omega) f1 (up_of f4.out)).mono ?_
        rintro e w' ⟨rfl, rfl⟩
        go_wp2_with fail
        go_quiet (fail)
        go_wp2
        exact ⟨⟨1, n + nq, by omega, rfl, by rw [HV.out, World.drewN_drewN]⟩, by simp [intOf]⟩
      | succ m =>
        have hcm : (W.drewN n).cell? ⟨B + 1, m, none⟩ = some (.string (UL.getD m ByteArray.empty)) := by
          have := cU.out m (by omega); rw [Nat.zero_add] at this; exact this
        rw [← hV] at hck d0' hcm
        rw [← hV]
        have HV : Hid (V = W.drewN n) := hV
        clear hV
        obtain ⟨g1, g2, g3⟩ := U_facts m (by omega)
        clear g3
        have HL' : Hid (lessL (UL.getD m ByteArray.empty).data.toList s.data.toList = true) := HL.out m rfl
        clear HL
        generalize UL.getD m ByteArray.empty = t at *
        have hpos : decide ((0 : Int) < (m : Int) + 1) = true := decide_eq_true (by omega)
        have hlt1 : (m : Int) + 1 < 25 := by omega
        have hlt2 : (m : Int) < 25 := by omega
        go_wp2_with fail
        refine (upper_yes s _ (by unfold maxLen; omega) f1 (up_of f4.out)).mono ?_
        rintro e w' ⟨rfl, rfl⟩
        go_wp2_with fail
        refine wp_region_quiet_lit (by kernel_rfl) (by kernel_rfl) ?_
        repeat (first | go_big_quiet_step ((go_at_call 23; refine Calls.quiet_of (less_yes _ _ _ (by unfold maxLen; omega) (by unfold maxLen; omega) HL'))) | quiet_step ((go_at_call 23; refine Calls.quiet_of (less_yes _ _ _ (by unfold maxLen; omega) (by unfold maxLen; omega) HL'))))
        refine wpQuiet_nil ?_
        intro _ hw'
        obtain ⟨nq, hw''⟩ := hw'
        subst hw''
        go_wp2
        exact ⟨⟨m + 1 + 1, n + nq, by omega, by go_num, by rw [HV.out, World.drewN_drewN]⟩, by simp [intOf]; omega⟩
    · go_wp2_with fail
      clear cU hlt d0
      go_loopw [3] (fun i wr => ∃ k m : Nat, k ≤ 4 ∧ i = .int .i64 k ∧ wr = W.drewN m) (fun i _ => 4 - (intOf i).toNat)
      case atStart => exact ⟨0, n, Nat.zero_le _, rfl, rfl⟩
      case round =>
        clear hk
        rename_i k0 n0 _ _
        obtain ⟨k, n, hk, rfl, rfl⟩ := hrel
        by_cases hlt : k < 4
        · have hck : (W.drewN n).cell? ⟨B + 2, k, none⟩ = some (.string (KL.getD k ByteArray.empty)) := by
            have := cK.out k hlt; rw [Nat.zero_add] at this; exact this
          have d2' : (W.drewN n).cell? ⟨B + 5, 2, none⟩ = some (.slice (some ⟨B + 2, 0, none⟩) 4 4) := d2
          have hKV : Hid (∀ j, j < 4 → (W.drewN n).cell? ⟨B + 2, 0 + j, none⟩ = some (.string (KL.getD j ByteArray.empty))) := cK
          clear d2 d3 d4 cK cP cF
          obtain ⟨V, hV⟩ : ∃ V, V = W.drewN n := ⟨_, rfl⟩
          obtain ⟨f1, f2, f3, f5⟩ := K_facts k hlt
          have f6 : Hid (KL.getD k ByteArray.empty ∈ KL) := getD_mem hlt
          have f5 : Hid (firstN KL (KL.getD k ByteArray.empty) = k) := f5
          have f4 : Hid ((KL.getD k ByteArray.empty).data.toList.all upb = true) := f3
          clear f3
          have hs : Hid (∀ j, j < 4 → V.cell? ⟨B + 2, 0 + j, none⟩ = some (.string (KL.getD j ByteArray.empty))) := by rw [hV]; exact hKV
          clear hKV
          rw [← hV] at hck d2'
          rw [← hV]
          generalize KL.getD k ByteArray.empty = s at hck f1 f2 f4 f5 f6
          have hKV := hs
          clear hs
          have HV : Hid (V = W.drewN n) := hV
          clear hV
          have hlt1 : (k : Int) < 4 := by omega
          go_wp2_with fail
          refine wp_region_quiet_lit (by kernel_rfl) (by kernel_rfl) ?_
          repeat (first | go_big_quiet_step (first | (go_at_call 22; refine Calls.quiet_of_same (upper_yes _ _ (by unfold maxLen; omega) f1 (up_of f4.out))) | (go_at_call 14; refine Calls.quiet_of_same (first_is _ _ _ _ KL _ k _ (by unfold maxLen; omega) KL_length f6 f5 (by exact hKV)))) | quiet_step (first | (go_at_call 22; refine Calls.quiet_of_same (upper_yes _ _ (by unfold maxLen; omega) f1 (up_of f4.out))) | (go_at_call 14; refine Calls.quiet_of_same (first_is _ _ _ _ KL _ k _ (by unfold maxLen; omega) KL_length f6 f5 (by exact hKV)))))
          refine wpQuiet_nil ?_
          intro _ hw'
          obtain ⟨nq, hw''⟩ := hw'
          subst hw''
          go_wp2
          exact ⟨⟨k + 1, n + nq, by omega, by go_num, by rw [HV.out, World.drewN_drewN]⟩, by simp [intOf]; omega⟩
        · go_wp2_with fail
          clear cK hlt d2
          go_loopw [4] (fun i wr => ∃ k m : Nat, k ≤ 3 ∧ i = .int .i64 k ∧ wr = W.drewN m) (fun i _ => 3 - (intOf i).toNat)
          case atStart => exact ⟨0, n, Nat.zero_le _, rfl, rfl⟩
          case round =>
            clear hk
            rename_i k1 n1 _ _
            obtain ⟨k, n, hk, rfl, rfl⟩ := hrel
            by_cases hlt : k < 3
            · have hck : (W.drewN n).cell? ⟨B + 3, k, none⟩ = some (.string (PL.getD k ByteArray.empty)) := by
                have := cP.out k hlt; rw [Nat.zero_add] at this; exact this
              have hlt1 : (k : Int) < 3 := by omega
              obtain ⟨f1, f2⟩ := P_facts k hlt
              have f4 : Hid ((PL.getD k ByteArray.empty).data.toList.all hexb = true) := f2
              clear f2 d4 cF
              have HP : Hid (∀ j, j < 3 → j ≠ k → preL (PL.getD k ByteArray.empty).data.toList (PL.getD j ByteArray.empty).data.toList = false) := fun j hj hne => P_pre k hlt j hj hne
              generalize hs : PL.getD k ByteArray.empty = s at hck f1 f4 HP
              clear hs
              rcases f1 with f1 | f1
              all_goals
                go_wp2_with fail
                refine (hex_yes s _ (by unfold maxLen; omega) (hex_of f4.out)).mono ?_
                rintro e w' ⟨rfl, rfl⟩
                go_wp2_with fail
                go_loopw [6] (fun i wr => ∃ j m : Nat, j ≤ 3 ∧ i = .int .i64 j ∧ wr = W.drewN m) (fun i _ => 3 - (intOf i).toNat)
                case atStart => exact ⟨0, n, Nat.zero_le _, rfl, rfl⟩
                case round =>
                  rename_i n2 _ _ _
                  obtain ⟨j, n, hj, rfl, rfl⟩ := hrel
                  by_cases hjl : j < 3
                  · have hcj : (W.drewN n).cell? ⟨B + 3, j, none⟩ = some (.string (PL.getD j ByteArray.empty)) := by
                      have := cP.out j hjl; rw [Nat.zero_add] at this; exact this
                    have hjl1 : (j : Int) < 3 := by omega
                    by_cases hjk : j = k
                    · subst hjk
                      go_wp2
                      exact ⟨⟨j + 1, n, by omega, by go_num, rfl⟩, by simp [intOf]; omega⟩
                    · have hne : ((j : Int) != (k : Int)) = true := by rw [bne_iff_ne]; omega
                      have HQ : Hid (preL s.data.toList (PL.getD j ByteArray.empty).data.toList = false) := HP.out j hjl hjk
                      obtain ⟨g1, g2⟩ := P_facts j hjl
                      clear g2
                      generalize hs : PL.getD j ByteArray.empty = t at hcj HQ g1
                      clear hs
                      go_wp2_with fail
                      refine (prefix_any s t _ (by unfold maxLen; omega) (by unfold maxLen; omega) false HQ).mono ?_
                      rintro e w' ⟨rfl, nq, rfl⟩
                      go_wp2_with fail
                      exact ⟨⟨j + 1, n + nq, by omega, by go_num, rfl⟩, by simp [intOf]; omega⟩
                  · go_wp2_with fail
                    exact ⟨⟨k + 1, n, by omega, by go_num, rfl⟩, by simp [intOf]; omega⟩
            · go_wp2_with fail
              clear cP hlt d3
              go_loopw [7] (fun i wr => ∃ k m : Nat, k ≤ 2 ∧ i = .int .i64 k ∧ wr = W.drewN m) (fun i _ => 2 - (intOf i).toNat)
              case atStart => exact ⟨0, n, Nat.zero_le _, rfl, rfl⟩
              case round =>
                clear hk
                rename_i k2 n2 _ _
                obtain ⟨k, n, hk, rfl, rfl⟩ := hrel
                by_cases hlt : k < 2
                · have hck : (W.drewN n).cell? ⟨B + 4, k, none⟩ = some (.string (FL.getD k ByteArray.empty)) := by
                    have := cF.out k hlt; rw [Nat.zero_add] at this; exact this
                  have d4' : (W.drewN n).cell? ⟨B + 5, 4, none⟩ = some (.slice (some ⟨B + 4, 0, none⟩) 2 2) := d4
                  have hKV : Hid (∀ j, j < 2 → (W.drewN n).cell? ⟨B + 4, 0 + j, none⟩ = some (.string (FL.getD j ByteArray.empty))) := cF
                  clear d4 cF
                  obtain ⟨V, hV⟩ : ∃ V, V = W.drewN n := ⟨_, rfl⟩
                  obtain ⟨f1, f2, f3, f5⟩ := F_facts k hlt
                  have f6 : Hid (FL.getD k ByteArray.empty ∈ FL) := getD_mem hlt
                  have f5 : Hid (firstN FL (FL.getD k ByteArray.empty) = k) := f5
                  have f4 : Hid ((FL.getD k ByteArray.empty).data.toList.all lob = true) := f3
                  clear f3
                  have hs : Hid (∀ j, j < 2 → V.cell? ⟨B + 4, 0 + j, none⟩ = some (.string (FL.getD j ByteArray.empty))) := by rw [hV]; exact hKV
                  clear hKV
                  rw [← hV] at hck d4'
                  rw [← hV]
                  generalize FL.getD k ByteArray.empty = s at hck f1 f2 f4 f5 f6
                  have hKV := hs
                  clear hs
                  have HV : Hid (V = W.drewN n) := hV
                  clear hV
                  have hlt1 : (k : Int) < 2 := by omega
                  go_wp2_with fail
                  refine wp_region_quiet_lit (by kernel_rfl) (by kernel_rfl) ?_
                  repeat (first | go_big_quiet_step (first | (go_at_call 26; refine Calls.quiet_of_same (lower_yes _ _ (by unfold maxLen; omega) f1 (lo_of f4.out))) | (go_at_call 14; refine Calls.quiet_of_same (first_is _ _ _ _ FL _ k _ (by unfold maxLen; omega) FL_length f6 f5 (by exact hKV)))) | quiet_step (first | (go_at_call 26; refine Calls.quiet_of_same (lower_yes _ _ (by unfold maxLen; omega) f1 (lo_of f4.out))) | (go_at_call 14; refine Calls.quiet_of_same (first_is _ _ _ _ FL _ k _ (by unfold maxLen; omega) FL_length f6 f5 (by exact hKV)))))
                  refine wpQuiet_nil ?_
                  intro _ hw'
                  obtain ⟨nq, hw''⟩ := hw'
                  subst hw''
                  go_wp2
                  exact ⟨⟨k + 1, n + nq, by omega, by go_num, by rw [HV.out, World.drewN_drewN]⟩, by simp [intOf]; omega⟩
                · go_wp2_with fail
                  go_ret
                  exact ⟨rfl, hGW⟩
end Go.Proofs.Qxb6600425aMods.well
