/-
  The walk of FnDefaultsCpuidLabelsExactAndAVX (seat b6600425aM).
-/
import Derived.Test.Qxb6600425aModsCount
import Derived.Test.Qxb6600425aModsZz
import Derived.Deep.RegionWith
import Derived.Deep.DeepMust
namespace Go.Proofs.Qxb6600425aMods.avx
open Go.ChangeShapes Go.WideShapes Go.ChangeAt Go.RowKit Go.Maps Go.WideMaps
open Go.Proofs.Qxb6600425aMods.words
set_option linter.unusedVariables false

def avxB : ByteArray := ⟨#[65, 86, 88]⟩

theorem UL_avx : ∀ u ∈ UL, preL u.data.toList avxB.data.toList = false := by decide +kernel

theorem Labels.drewN {w : World} {L : Nat} {S : DataW Unit} {m : Lit → Bool} (h : Labels w L S m) (n : Nat) : Labels (w.drewN n) L S m := h

theorem model_UL (s : ByteArray) : modelB UL [] s = !(hasB UL s) := rfl

theorem zz_def (B : Nat) (v : Value) (nm : ByteArray) (S : DataW Unit) (w : World) (hnm : nm.size ≤ maxLen) (hU : Hid (Strs w (some ⟨B + 1, 0, none⟩) UL)) (hH : SetHas w v nm S) :
    Calls Trym.prog 12 #[.agg #[.slice (some ⟨B + 1, 0, none⟩) 25 25, .slice none 0 0, .slice (some ⟨B + 2, 0, none⟩) 4 4, .slice (some ⟨B + 3, 0, none⟩) 3 3, .slice (some ⟨B + 4, 0, none⟩) 2 2], v, .string nm] w fun e w' => ∃ L, e = .returned (.map (some L)) ∧ Labels w' L S (modL UL []) ∧ Below w.heap.size w w' :=
  zz_has (some ⟨B + 1, 0, none⟩) none (some ⟨B + 2, 0, none⟩) (some ⟨B + 3, 0, none⟩) (some ⟨B + 4, 0, none⟩) 25 0 4 4 3 3 2 2 UL [] v nm S w (by decide) (by decide) hnm hU (Or.inl rfl) hH

theorem has_def (B : Nat) (x : ByteArray) (w : World) (r : Bool) (hr : Hid (hasB UL x = r)) (hU : Hid (Strs w (some ⟨B + 1, 0, none⟩) UL)) :
    Calls Trym.prog 19 #[.slice (some ⟨B + 1, 0, none⟩) 25 25, .string x] w fun e w' => e = .returned (.bool r) ∧ w' = w :=
  has_any (some ⟨B + 1, 0, none⟩) 25 UL x w (by decide) r hr hU

set_option maxRecDepth 100000 in
set_option maxHeartbeats 1000000 in
theorem walk (a2 : Option Addr) (c2 : Nat) (s2 : List ByteArray) (nm : ByteArray) (w : World)
    (h2 : s2.length ≤ maxLen) (hnm : nm.size ≤ maxLen) (S2 : Hid (Strs w a2 s2)) (Z2 : Hid (∀ s ∈ s2, s.size ≤ maxLen)) :
    Calls Trym.prog 8 #[.slice a2 s2.length c2, .string nm] w fun e w' => e = .returned (.bool true) ∧ Below w.heap.size w w' := by
  go_enter Trym.func8, Trym.ntmps8
  go_wp2_with fail
  refine (zz29 a2 c2 s2 nm _ h2 S2 hnm).mono ?_
  rintro e w' ⟨⟨r, rfl⟩, rfl⟩
  cases r with
  | false =>
    go_wp2_with fail
    go_ret
    exact ⟨rfl, Below.refl _ _⟩
  | true =>
    by_cases b2 : s2.length ≤ 4096
    · go_wp2_with fail
      any_goals (go_ret; exact ⟨rfl, Below.refl _ _⟩)
      refine (bytes_any a2 c2 s2 _ h2 S2).mono ?_
      rintro e w' ⟨n0, rfl, g0, g0', rfl⟩
      go_wp2_with fail
      · go_ret
        exact ⟨rfl, Below.refl _ _⟩
      refine (copy_any a2 c2 s2 _ b2 S2).mono ?_
      rintro e w1 ⟨a2', rfl, hS2, hB1⟩
      clear S2
      have S2 : Hid (Strs w1 a2' s2) := hS2
      clear hS2
      go_wp2_with fail
      refine (defaults_any _).mono ?_
      rintro e w3 ⟨rfl, rfl⟩
      have hsz := dw_size w1
      have hU : Hid (Strs (dw w1) (some ⟨w1.heap.size + 1, 0, none⟩) UL) := Or.inr ⟨_, _, rfl, by omega, fun j hj => by rw [Nat.zero_add]; exact dw_U w1 j hj⟩
      have hBd := dw_below w1
      have S2 : Hid (Strs (dw w1) a2' s2) := S2.out.below hBd
      have hB3 := hB1.trans (hBd.mono hB1.size)
      clear hBd hB1
      generalize dw w1 = w3 at *
      generalize w1.heap.size = B at *
      go_wp2_with fail
      obtain ⟨W, hW⟩ : ∃ W, W = w3.alloc (.cells #[.slice (some ⟨B + 1, 0, none⟩) 25 25, .slice none 0 0, .slice (some ⟨B + 2, 0, none⟩) 4 4, .slice (some ⟨B + 3, 0, none⟩) 3 3, .slice (some ⟨B + 4, 0, none⟩) 2 2] 27) := ⟨_, rfl⟩
      have hBW : Below w'.heap.size w' W := by rw [hW]; exact hB3.alloc hB3.size _
      have hB5 : Below w3.heap.size w3 W := by rw [hW]; exact (Below.refl _ _).alloc (Nat.le_refl _) _
      have hU : Hid (Strs W (some ⟨B + 1, 0, none⟩) UL) := hU.out.below hB5
      have S2 : Hid (Strs W a2' s2) := S2.out.below hB5
      have q0 : W.cell? ⟨B + 5, 0, none⟩ = some (.slice (some ⟨B + 1, 0, none⟩) 25 25) := by rw [hW, World.cell?_alloc_at _ _ _ _ hsz.symm]; rfl
      have q1 : W.cell? ⟨B + 5, 1, none⟩ = some (.slice none 0 0) := by rw [hW, World.cell?_alloc_at _ _ _ _ hsz.symm]; rfl
      have q2 : W.cell? ⟨B + 5, 2, none⟩ = some (.slice (some ⟨B + 2, 0, none⟩) 4 4) := by rw [hW, World.cell?_alloc_at _ _ _ _ hsz.symm]; rfl
      have q3 : W.cell? ⟨B + 5, 3, none⟩ = some (.slice (some ⟨B + 3, 0, none⟩) 3 3) := by rw [hW, World.cell?_alloc_at _ _ _ _ hsz.symm]; rfl
      have q4 : W.cell? ⟨B + 5, 4, none⟩ = some (.slice (some ⟨B + 4, 0, none⟩) 2 2) := by rw [hW, World.cell?_alloc_at _ _ _ _ hsz.symm]; rfl
      have hPW : B + 5 < W.heap.size := by rw [hW, size_alloc, hsz]; omega
      rw [← hW]
      clear hW hB5 hB3 g0 g0' h2 hsz
      go_region_with (first
        | (go_at_call 18; go_must ((refine (one_any a2' _ s2 nm _ b2 hnm Z2 ?_).mono ?_; exact S2; rintro e w5 ⟨v, rfl, hH, hB5'⟩; have hB5 : Below W.heap.size W w5 := ((Below.refl _ _).drew).trans hB5'; clear hB5'; have q0' := (hB5.cell (p := ⟨B + 5, 0, none⟩) hPW).trans q0; have q1' := (hB5.cell (p := ⟨B + 5, 1, none⟩) hPW).trans q1; have q2' := (hB5.cell (p := ⟨B + 5, 2, none⟩) hPW).trans q2; have q3' := (hB5.cell (p := ⟨B + 5, 3, none⟩) hPW).trans q3; have q4' := (hB5.cell (p := ⟨B + 5, 4, none⟩) hPW).trans q4; have T0 : Hid (Strs w5 (some ⟨B + 1, 0, none⟩) UL) := hU.out.below hB5; have T2 : Hid (Strs w5 a2' s2) := S2.out.below hB5; have hB5w := hBW.trans (hB5.mono hBW.size); have hP5 := Nat.lt_of_lt_of_le hPW hB5.size)))
        | (go_at_call 12; go_must ((refine (zz_def B _ nm (setS s2) _ hnm ?_ ?_).mono ?_; exact T0; exact hH; rintro e w6 ⟨L, rfl, hLab, hB6⟩))))
      all_goals
        have hB6w := hB5w.trans (hB6.mono hB5w.size)
        have T0 : Hid (Strs w6 (some ⟨B + 1, 0, none⟩) UL) := T0.out.below hB6
        have T2 : Hid (Strs w6 a2' s2) := T2.out.below hB6
        have q0 := (hB6.cell (p := ⟨B + 5, 0, none⟩) hP5).trans q0'
        have HLab : Hid (Labels w6 L (setS s2) (modL UL [])) := hLab
        clear hLab hB6 hB5w q0' q1' q2' q3' q4' q1 q2 q3 q4 hP5 hH hB5 S2 hPW hBW hU
        go_wp2_with fail
        go_loopw [7, 8] (fun t i wr => ∃ k n : Nat, k ≤ s2.length ∧ i = .int .i64 k ∧ t = .int .i64 ((selTo s2 (modelB UL []) k).length : Nat) ∧ wr = w6.drewN n) (fun _ i _ => s2.length - (intOf i).toNat)
        case atStart => exact ⟨0, 0, Nat.zero_le _, rfl, rfl, rfl⟩
        case round =>
          obtain ⟨k, n, hk, rfl, rfl, rfl⟩ := hrel
          have hsel := selTo_le s2 (modelB UL []) k
          have T0 : Hid (Strs (w6.drewN n) (some ⟨B + 1, 0, none⟩) UL) := T0
          have T2 : Hid (Strs (w6.drewN n) a2' s2) := T2
          have q0 : (w6.drewN n).cell? ⟨B + 5, 0, none⟩ = some (.slice (some ⟨B + 1, 0, none⟩) 25 25) := q0
          have hR : Hid (Right (w6.drewN n) L s2 (modelB UL [])) := Labels.right (un := UL) (la := []) HLab.out
          have hBn : Below w'.heap.size w' (w6.drewN n) := ⟨hB6w.os, hB6w.tape, hB6w.output, hB6w.size, hB6w.block⟩
          obtain ⟨V, hV⟩ : ∃ V, V = w6.drewN n := ⟨_, rfl⟩
          rw [← hV] at T0 T2 q0 hR hBn
          rw [← hV]
          have HV : Hid (V = w6.drewN n) := hV
          clear hV HLab
          by_cases hlt : k < s2.length
          · obtain ⟨b, off, rfl, hbl, hc⟩ := T2.out.some hlt
            have hck := hc k hlt
            have HC : Hid (∀ j, j < s2.length → V.cell? ⟨b, off + j, none⟩ = some (.string (s2.getD j ByteArray.empty))) := hc
            clear hc
            have hmem : Hid (s2.getD k ByteArray.empty ∈ s2) := getD_mem hlt
            have hsz := Z2.out _ hmem.out
            have hstep : Hid (selTo s2 (modelB UL []) (k + 1) = if firstN s2 (s2.getD k ByteArray.empty) = k ∧ modelB UL [] (s2.getD k ByteArray.empty) = true then selTo s2 (modelB UL []) k ++ [litS (s2.getD k ByteArray.empty)] else selTo s2 (modelB UL []) k) := rfl
            generalize hs : s2.getD k ByteArray.empty = s at hck hmem hsz hstep
            clear hs
            by_cases hf : firstN s2 s = k
            · have hF : Hid (firstN s2 s = k) := hf
              obtain ⟨r, hr⟩ : ∃ r, Hid (hasB UL s = r) := ⟨_, rfl⟩
              obtain ⟨v', hrun, hv⟩ := hR.out.look s hmem.out hsz
              rw [model_UL, hr.out] at hrun hv
              have hv' : Hid ((!r) = true → v' = trueB) := hv
              have hstep' : Hid (selTo s2 (modelB UL []) (k + 1) = if (!r) = true then selTo s2 (modelB UL []) k ++ [litS s] else selTo s2 (modelB UL []) k) := by
                have h := hstep.out; rw [model_UL s, hr.out] at h; simp only [hf, true_and] at h; exact h
              obtain ⟨pr, hpr⟩ : ∃ pr, Hid (preL s.data.toList avxB.data.toList = pr) := ⟨_, rfl⟩
              clear hv hstep hf
              cases r with
              | false =>
                have hvt := hv'.out rfl
                unfold trueB at hvt
                subst hvt
                go_wp2_with fail
                refine (first_is b off _ _ s2 s k _ (by unfold maxLen; omega) rfl hmem hF HC).mono ?_
                rintro e w7 ⟨rfl, rfl⟩
                go_wp2_with fail
                refine (has_def B s _ false hr T0).mono ?_
                rintro e w8 ⟨rfl, rfl⟩
                go_wp2_with fail
                refine (prefix_any s avxB _ hsz (by decide) pr hpr).mono ?_
                rintro e w9 ⟨rfl, m, rfl⟩
                cases pr
                all_goals
                  go_wp2_with fail
                  exact ⟨⟨k + 1, n + m, by omega, by go_num, by rw [hstep'.out]; simp, by rw [HV.out, World.drewN_drewN]⟩, by simp [intOf]; omega⟩
              | true =>
                have hpf : pr = false := by rw [← hpr.out]; exact UL_avx s ((hasB_iff UL s).1 hr.out)
                subst hpf
                go_wp2_with fail
                refine (first_is b off _ _ s2 s k _ (by unfold maxLen; omega) rfl hmem hF HC).mono ?_
                rintro e w7 ⟨rfl, rfl⟩
                go_wp2_with fail
                refine (has_def B s _ true hr T0).mono ?_
                rintro e w8 ⟨rfl, rfl⟩
                go_wp2_with fail
                refine (prefix_any s avxB _ hsz (by decide) false hpr).mono ?_
                rintro e w9 ⟨rfl, m, rfl⟩
                go_wp2_with fail
                exact ⟨⟨k + 1, n + m, by omega, by go_num, by rw [hstep'.out]; simp, by rw [HV.out, World.drewN_drewN]⟩, by simp [intOf]; omega⟩
            · have hfb : (((firstN s2 s : Nat) : Int) != (k : Int)) = true := by rw [bne_iff_ne]; omega
              go_wp2_with fail
              refine (first_any b off _ s2 s _ (by unfold maxLen; omega) hmem HC.out).mono ?_
              rintro e w7 ⟨rfl, rfl⟩
              go_wp2_with fail
              exact ⟨⟨k + 1, n, by omega, by go_num, by rw [hstep.out, if_neg (fun h => hf h.1)], HV.out⟩, by simp [intOf]; omega⟩
          · have hkn : k = s2.length := by omega
            subst hkn
            have hlen := hR.out.len
            go_wp2_with fail
            go_ret
            exact ⟨ret_bool (by simp), hBn⟩
    · go_wp2_with fail
      any_goals (go_ret; exact ⟨rfl, Below.refl _ _⟩)
      all_goals (exfalso; omega)
end Go.Proofs.Qxb6600425aMods.avx
