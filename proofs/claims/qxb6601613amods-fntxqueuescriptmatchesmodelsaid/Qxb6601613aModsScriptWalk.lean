/-
  The walk of FnTxQueueScriptMatchesModel (seat b6601613aM).
-/
import Derived.Test.Qxb6601613aModsNow
namespace Go.Proofs.Qxb6601613aMods.q
open Go.ChangeShapes Go.WideShapes Go.ChangeAt Go.RowKit
set_option linter.unusedVariables false

set_option maxRecDepth 100000 in
set_option maxHeartbeats 4000000 in
theorem script_walk (a : Option Addr) (c : Nat) (s : List Int) (w : World) (hl : s.length ≤ maxLen) (hS : Hid (Row (Value.int .i64) 0 w a s)) (hZ : Hid (∀ x ∈ s, (Lit.int .i64 x).wf = true)) :
    Calls Trym.prog 5 #[.slice a s.length c] w fun e w' => e = .returned (.bool true) ∧ Below w.heap.size w w' := by
  obtain ⟨i0, hi, hz0, hz1, hz2⟩ := info_parts info34'
  have hnq := neq_same
  go_enter Trym.func5, Trym.ntmps5
  go_wp2_with fail
  refine (zz12 a _ c _ hl).mono ?_
  rintro e w' ⟨⟨r, rfl⟩, rfl⟩
  cases r with
  | false =>
    go_wp2_with fail
    go_ret
    exact ⟨rfl, Below.refl _ _⟩
  | true =>
    by_cases hn : s.length ≤ 4096
    · go_wp2_with fail
      refine (ints_copy a c s _ (by omega) hS).mono ?_
      rintro e w1 ⟨a', rfl, hR, hB1⟩
      have HR : Hid (Row (Value.int .i64) 0 w1 a' s) := hR
      have HB1 : Hid (Below w'.heap.size w' w1) := hB1
      clear hR hS hB1
      go_wp2_with (at_make; refine wpList_make_own _ rfl _ _ 37 rfl 0 34 i0 _ 1 Trym.underlying37 hi hz0 hz1 _ _ _ s.length rfl rfl rfl (by rw [hz2]; omega) (by unfold maxLen; omega) (Nat.zero_le _) ?_)
      intro w2 hown2 g2
      go_wp2_with (at_make; refine wpList_make_own _ rfl _ _ 37 rfl 0 34 i0 _ 1 Trym.underlying37 hi hz0 hz1 _ _ _ s.length rfl rfl rfl (by rw [hz2]; omega) (by unfold maxLen; omega) (Nat.zero_le _) ?_)
      intro w3 hown3 g3
      go_wp2_with (at_make; refine wpList_make_own _ rfl _ _ 37 rfl 0 34 i0 _ 1 Trym.underlying37 hi hz0 hz1 _ _ _ s.length rfl rfl rfl (by rw [hz2]; omega) (by unfold maxLen; omega) (Nat.zero_le _) ?_)
      intro w4 hown4 g4
      go_wp2_with (at_make; refine wpList_make_own _ rfl _ _ 37 rfl 0 34 i0 _ 1 Trym.underlying37 hi hz0 hz1 _ _ _ s.length rfl rfl rfl (by rw [hz2]; omega) (by unfold maxLen; omega) (Nat.zero_le _) ?_)
      intro w5 hown5 g5
      have HS0 : Hid (St w1 w5 w1.heap.size (w1.heap.size + 1) w2.heap.size w3.heap.size w4.heap.size s.length [] none none (fun _ => none) (fun _ => none) [] [] [] []) := St.start _ _ g2 g3 g4 g5 (ORow.of_owns (xs := []) rfl hown2) (ORow.of_owns (xs := []) rfl hown3) (ORow.of_owns (xs := []) rfl hown4) (ORow.of_owns (xs := []) rfl hown5)
      clear g2 g3 g4 g5 hown2 hown3 hown4 hown5
      go_wp2_with fail
      generalize w1.heap.size + 1 = H1 at *
      generalize w2.heap.size = H2 at *
      generalize w3.heap.size = H3 at *
      generalize w4.heap.size = H4 at *
      obtain ⟨Q, hQ⟩ : ∃ Q, Q = w1.heap.size := ⟨_, rfl⟩
      rw [← hQ] at HS0
      rw [← hQ]
      have HQ : Hid (Q = w1.heap.size) := hQ
      clear hQ
      have HN0 : Hid (Now w1 w5 Q H1 H2 H3 H4 s.length 0 0 [] [] [] none none (fun _ => none) (fun _ => none)) := { st := HS0, chain := chain_nil _ _, sub := fun x hx => (by cases hx), subD := fun x hx => (by cases hx), apart := fun x hx => (by cases hx), hl := rfl, hd := rfl }
      clear HS0
      go_loopw [8, 4, 5, 6, 7] (fun t h g gp gn wr => ∃ (k l d : Nat) (L D S : List Nat) (F B : Option Nat) (P N : Nat → Option Nat), k ≤ s.length ∧ l + d ≤ k ∧ t = .int .i64 k ∧ h = .slice (some ⟨H1, 0, none⟩) l s.length ∧ g = .slice (some ⟨H2, 0, none⟩) d s.length ∧ gp = .slice (some ⟨H3, 0, none⟩) d s.length ∧ gn = .slice (some ⟨H4, 0, none⟩) d s.length ∧ Hid (Now w1 wr Q H1 H2 H3 H4 s.length l d L D S F B P N)) (fun t _ _ _ _ _ => s.length - (intOf t).toNat)
      case atStart => exact ⟨0, 0, 0, [], [], [], none, none, _, _, Nat.zero_le _, Nat.le_refl _, rfl, rfl, rfl, rfl, rfl, HN0⟩
      case round =>
        clear HN0
        obtain ⟨k, l, d, L, D, S, F, B, P, N, hk, hld, rfl, rfl, rfl, rfl, rfl, HN⟩ := hrel
        by_cases hlt : k < s.length
        · obtain ⟨b0, off, rfl, hbl, hc⟩ := HR.out.some hlt
          have hck : wr.cell? ⟨b0, off + k, none⟩ = some (.int .i64 (s.getD k 0)) := (HN.out.st.below.cell (p := ⟨b0, off + k, none⟩) hbl).trans (hc _ hlt)
          have hwf : (Lit.int .i64 (s.getD k 0)).wf = true := hZ.out _ (by rw [List.getD_eq_getElem?_getD, List.getElem?_eq_getElem hlt]; exact List.getElem_mem hlt)
          clear hc
          generalize s.getD k 0 = v at hck hwf
          have hwf2 : -9223372036854775808 ≤ v ∧ v < 9223372036854775808 := by
            have h2 : IntKind.min .i64 ≤ v ∧ v ≤ IntKind.max .i64 := by simpa [Lit.wf] using hwf
            have e1 : IntKind.min .i64 = -9223372036854775808 := by rfl
            have e2 : IntKind.max .i64 = 9223372036854775807 := by rfl
            rw [e1, e2] at h2
            exact ⟨h2.1, by omega⟩
          obtain ⟨hv0, hv1⟩ := hwf2
          clear hwf
          have hki : (k : Int) < (s.length : Int) := by omega
          by_cases hv : 0 ≤ v
          · -- a push
            have hvi : (0 : Int) ≤ v := hv
            go_wp2_with fail
            refine (new_any _ v).mono ?_
            rintro e w3 ⟨rfl, rfl⟩
            go_wp2_with fail
            have hp : Hid (wr.heap.size ∉ L) := fun h => HN.out.fresh (HN.out.sub _ h) rfl
            refine (zz_push _ Q wr.heap.size F B (wr.heap.size :: S) L _ _ (HN.out.st.mem.new v) HN.out.chainNew (fun x hx => List.mem_cons_of_mem _ (HN.out.sub x hx)) List.mem_cons_self hp (upd_same _ _ _)).mono ?_
            rintro e w4 ⟨rfl, F', P', N', hM', hC', hfr, hO⟩
            have HS4 : Hid (St w1 w4 Q H1 H2 H3 H4 s.length (wr.heap.size :: S) F' (some wr.heap.size) P' N' (L.map some) (D.map some) (D.map P') (D.map N')) := HN.out.pushed v hM' hfr hO
            have HC' : Hid (Chain (L ++ [wr.heap.size]) F' (some wr.heap.size) P' N') := hC'
            have HL : Hid (L.length = l) := HN.out.hl
            clear hM' hC' hfr hO hp hck
            go_wp2_with (at_builtin; refine wpList_append_fits _ rfl _ _ 37 rfl 0 34 i0 1 Trym.underlying37 hi hz1 H1 l s.length _ rfl ((HS4.out.alloc _).r1.owns_n (by simp [HL.out]) (by unfold maxLen; omega)) ⟨w4.heap.size, 0, none⟩ 1 1 [.pointer (some ⟨wr.heap.size, 0, none⟩)] rfl rfl (cell_new _ _ _ _) (one_ptr _) (by omega) ?_)
            intro w5 hown hgrow
            have HT0 : Hid (Now w1 w5 Q H1 H2 H3 H4 s.length (l + 1) d (L ++ [wr.heap.size]) D (wr.heap.size :: S) F' (some wr.heap.size) P' N') := HN.out.push_end HS4.out HC'.out hgrow (ORow.grew (l := l) (some wr.heap.size) (by simp [HL.out]) (by rw [List.map_map]; exact hown))
            clear hown hgrow HS4 HC' HL HN
            generalize L ++ [wr.heap.size] = L' at HT0
            generalize wr.heap.size :: S = S' at HT0
            generalize some wr.heap.size = B' at HT0
            obtain ⟨l', hl'⟩ : ∃ l', l' = l + 1 := ⟨_, rfl⟩
            rw [← hl'] at HT0
            rw [← hl']
            have hld' : l' + d ≤ k + 1 := by omega
            clear hl'
            have HT : Hid (Now w1 w5 Q H1 H2 H3 H4 s.length l' d L' D S' F' B' P' N') := HT0
            clear HT0

            go_wp2_with fail
            refine (chain_is_n H1 s.length l' L' HT.out.hl HT.out.st.mem HT.out.chain HT.out.sub HT.out.st.r1 (by omega)).mono ?_
            rintro e w7 ⟨rfl, m, rfl⟩
            have HV : Hid (Now w1 (w5.drewN m) Q H1 H2 H3 H4 s.length l' d L' D S' F' B' P' N') := HT.out.drewN m
            clear HT
            generalize w5.drewN m = w8 at HV
            go_wp2_with fail
            go_loopw [16] (fun i wq => ∃ g : Nat, g ≤ d ∧ i = .int .i64 g ∧ Hid (Now w1 wq Q H1 H2 H3 H4 s.length l' d L' D S' F' B' P' N')) (fun i _ => d - (intOf i).toNat)
            case atStart => exact ⟨0, Nat.zero_le _, rfl, HV⟩
            case round =>
              clear HV
              obtain ⟨g, hg, rfl, HG⟩ := hrel
              by_cases hltg : g < d
              · obtain ⟨b, hb⟩ : ∃ b, D[g]? = some b := ⟨_, List.getElem?_eq_getElem (by rw [HG.out.hd]; exact hltg)⟩
                have hbS : Hid (b ∈ S') := HG.out.subD b (at_mem hb)
                have k1 := HG.out.st.r2.cell (j := g) (x := some b) (by simp [hb])
                have k2 := HG.out.st.r3.cell (j := g) (x := P' b) (by simp [hb])
                have k3 := HG.out.st.r4.cell (j := g) (x := N' b) (by simp [hb])
                simp only [adr, Option.map_some] at k1
                have hMV : Hid (Mem wr Q F' B' S' P' N') := HG.out.st.mem
                clear hb
                have hkg : (g : Int) < ((d : Nat) : Int) := by omega
                go_wp2_with fail
                refine wp_region_quiet_lit (by kernel_rfl) (by kernel_rfl) ?_
                repeat (first | go_big_quiet_step (first | (go_at_call 16; refine Calls.quiet_of_same (prev_any _ b (hMV.out.drewN _) hbS)) | (go_at_call 17; refine Calls.quiet_of_same (next_any _ b (hMV.out.drewN _) hbS))) | quiet_step (first | (go_at_call 16; refine Calls.quiet_of_same (prev_any _ b (hMV.out.drewN _) hbS)) | (go_at_call 17; refine Calls.quiet_of_same (next_any _ b (hMV.out.drewN _) hbS))))
                refine wpQuiet_nil ?_
                intro _ hw'
                obtain ⟨nq, hw''⟩ := hw'
                subst hw''
                go_wp2_with fail
                exact ⟨⟨g + 1, by omega, by go_num, HG.out.drewN nq⟩, by simp [intOf]; omega⟩
              · go_wp2_with fail
                exact ⟨⟨k + 1, l', d, L', D, S', F', B', P', N', by omega, by omega, by go_num, rfl, rfl, rfl, rfl, HG⟩, by simp [intOf]; omega⟩
          · obtain ⟨j, hj⟩ : ∃ j : Nat, v = -(j : Int) - 1 := ⟨(-(v + 1)).toNat, by omega⟩
            subst hj
            by_cases hjl : j < l
            · -- one is taken out
              have hji : (j : Int) < (l : Int) := by omega
              obtain ⟨b, hb⟩ : ∃ b, L[j]? = some b := ⟨_, List.getElem?_eq_getElem (by rw [HN.out.hl]; omega)⟩
              have Hb : Hid (L[j]? = some b) := hb
              have hbS : Hid (b ∈ S) := HN.out.sub b (at_mem hb)
              have kb : wr.cell? ⟨H1, j, none⟩ = some (.pointer (some ⟨b, 0, none⟩)) := HN.out.st.r1.cell (x := some b) (by simp [hb])
              have hM0 : Hid (Mem wr Q F B S P N) := HN.out.st.mem
              clear hb
              go_wp2_with fail
              refine (prev_any _ b hM0 hbS).mono ?_
              rintro e w3 ⟨rfl, rfl⟩
              go_wp2_with fail
              refine (next_any _ b hM0 hbS).mono ?_
              rintro e w3' ⟨rfl, rfl⟩
              go_wp2_with fail
              refine (zz_remove _ Q b j F B S L P N hM0 HN.out.chain HN.out.sub Hb).mono ?_
              rintro e w4 ⟨rfl, F', B', P', N', hM', hC', hfr, hO⟩
              have HS4 : Hid (St w1 w4 Q H1 H2 H3 H4 s.length S F' B' P' N' ((shiftTo L j j).map some) (D.map some) (D.map P') (D.map N')) := HN.out.removed hM' hfr hO
              have HC' : Hid (Chain (L.eraseIdx j) F' B' P' N') := hC'
              have Hfr : Hid (∀ b, b ∉ L.eraseIdx j → P' b = P b ∧ N' b = N b) := hfr
              have HL : Hid (L.length = l) := HN.out.hl
              have HD : Hid (D.length = d) := HN.out.hd
              clear hM' hC' hfr hO hM0 kb hck
              go_wp2_with fail
              go_loopw [15] (fun i wq => ∃ m : Nat, j ≤ m ∧ m < l ∧ i = .int .i64 m ∧ Hid (St w1 wq Q H1 H2 H3 H4 s.length S F' B' P' N' ((shiftTo L j m).map some) (D.map some) (D.map P') (D.map N'))) (fun i _ => l - (intOf i).toNat)
              case atStart => exact ⟨j, Nat.le_refl _, hjl, rfl, HS4⟩
              case round =>
                clear HS4
                obtain ⟨m, hm1, hm2, rfl, HS⟩ := hrel
                by_cases hltm : m + 1 < l
                · have c1 : wr.cell? ⟨H1, m + 1, none⟩ = some (.pointer (some ⟨L.getD (m + 1) 0, 0, none⟩)) := HS.out.r1.cell (x := some (L.getD (m + 1) 0)) (by
                    rw [List.getElem?_map, shiftTo_at L j m (m + 1) (by rw [HL.out]; exact hltm), if_neg (by omega)]; rfl)
                  obtain ⟨v0, c0⟩ : ∃ v0, wr.cell? ⟨H1, m, none⟩ = some (.pointer v0) := ⟨_, HS.out.r1.cell (x := ((shiftTo L j m).map some)[m]'(by simp [shiftTo_length, HL.out]; omega)) (List.getElem?_eq_getElem _)⟩
                  have z0 := HS.out.r1.frozen m
                  have HS' : Hid (St w1 (wr.setCell ⟨H1, m, none⟩ (pv (some (L.getD (m + 1) 0)))) Q H1 H2 H3 H4 s.length S F' B' P' N' ((shiftTo L j (m + 1)).map some) (D.map some) (D.map P') (D.map N')) := shifted HS.out hm1 (by rw [HL.out]; omega)
                  clear HS
                  have hmi : (m : Int) + 1 < (l : Int) := by omega
                  have hmi0 : (m : Int) < (l : Int) := by omega
                  generalize L.getD (m + 1) 0 = y at c1 HS'
                  go_wp2_with fail
                  exact ⟨⟨m + 1, by omega, by omega, by go_num, HS'⟩, by simp [intOf]; omega⟩
                · have HE : Hid (St w1 wr Q H1 H2 H3 H4 s.length S F' B' P' N' ((L.eraseIdx j).map some) (D.map some) (D.map P') (D.map N')) := shift_end HS.out (at_lt Hb.out) (by rw [HL.out]; omega)
                  clear HS
                  have hmi : ¬ (m : Int) + 1 < (l : Int) := by omega
                  have hl1 : (0 : Int) ≤ (l : Int) - 1 := by omega
                  have hl2 : (l : Int) - 1 ≤ (s.length : Int) := by omega
                  have hs0 : ¬ s.length = 0 := by omega
                  go_wp2_with (at_builtin; refine wpList_append_fits _ rfl _ _ 37 rfl 0 34 i0 1 Trym.underlying37 hi hz1 H2 d s.length _ rfl ((HE.out.alloc _).r2.owns_n (by simp [HD.out]) (by unfold maxLen; omega)) ⟨wr.heap.size, 0, none⟩ 1 1 [.pointer (some ⟨b, 0, none⟩)] rfl rfl (cell_new _ _ _ _) (one_ptr _) (by omega) ?_)
                  intro w5 hown5 hgrow5
                  have HE5 : Hid (St w1 w5 Q H1 H2 H3 H4 s.length S F' B' P' N' ((L.eraseIdx j).map some) (D.map some ++ [some b]) (D.map P') (D.map N')) := (HE.out.alloc _).app2 hgrow5 (ORow.grew (l := d) (some b) (by simp [HD.out]) (by rw [List.map_map]; exact hown5))
                  clear hown5 hgrow5 HE
                  go_wp2_with (at_builtin; refine wpList_append_fits _ rfl _ _ 37 rfl 0 34 i0 1 Trym.underlying37 hi hz1 H3 d s.length _ rfl ((HE5.out.alloc _).r3.owns_n (by simp [HD.out]) (by unfold maxLen; omega)) ⟨w5.heap.size, 0, none⟩ 1 1 [.pointer (adr (P b))] rfl rfl (cell_new _ _ _ _) (one_ptr _) (by omega) ?_)
                  intro w6 hown6 hgrow6
                  have HE6 : Hid (St w1 w6 Q H1 H2 H3 H4 s.length S F' B' P' N' ((L.eraseIdx j).map some) (D.map some ++ [some b]) (D.map P' ++ [P b]) (D.map N')) := (HE5.out.alloc _).app3 hgrow6 (ORow.grew (l := d) (P b) (by simp [HD.out]) (by rw [List.map_map]; exact hown6))
                  clear hown6 hgrow6 HE5
                  go_wp2_with (at_builtin; refine wpList_append_fits _ rfl _ _ 37 rfl 0 34 i0 1 Trym.underlying37 hi hz1 H4 d s.length _ rfl ((HE6.out.alloc _).r4.owns_n (by simp [HD.out]) (by unfold maxLen; omega)) ⟨w6.heap.size, 0, none⟩ 1 1 [.pointer (adr (N b))] rfl rfl (cell_new _ _ _ _) (one_ptr _) (by omega) ?_)
                  intro w7 hown7 hgrow7
                  have HE7 : Hid (St w1 w7 Q H1 H2 H3 H4 s.length S F' B' P' N' ((L.eraseIdx j).map some) (D.map some ++ [some b]) (D.map P' ++ [P b]) (D.map N' ++ [N b])) := (HE6.out.alloc _).app4 hgrow7 (ORow.grew (l := d) (N b) (by simp [HD.out]) (by rw [List.map_map]; exact hown7))
                  clear hown7 hgrow7 HE6
                  have HT0 : Hid (Now w1 w7 Q H1 H2 H3 H4 s.length (l - 1) (d + 1) (L.eraseIdx j) (D ++ [b]) S F' B' P' N') := HN.out.remove_end Hb.out Hfr.out HC'.out HE7.out
                  clear HE7 HC' Hfr Hb HN HL HD hbS
                  generalize L.eraseIdx j = L' at HT0
                  generalize D ++ [b] = D' at HT0
                  obtain ⟨d', hd'⟩ : ∃ d', d' = d + 1 := ⟨_, rfl⟩
                  rw [← hd'] at HT0
                  try rw [← hd']
                  obtain ⟨l', hl'⟩ : ∃ l', l = l' + 1 := ⟨l - 1, by omega⟩
                  subst hl'
                  simp only [Nat.add_sub_cancel] at HT0
                  have hld' : l' + d' ≤ k + 1 := by omega
                  clear hd'
                  have HT : Hid (Now w1 w7 Q H1 H2 H3 H4 s.length l' d' L' D' S F' B' P' N') := HT0
                  clear HT0
                  go_wp2_with fail
                  refine (chain_is_n H1 s.length l' L' HT.out.hl HT.out.st.mem HT.out.chain HT.out.sub HT.out.st.r1 (by omega)).mono ?_
                  rintro e w7 ⟨rfl, m, rfl⟩
                  have HV : Hid (Now w1 (w7.drewN m) Q H1 H2 H3 H4 s.length l' d' L' D' S F' B' P' N') := HT.out.drewN m
                  clear HT
                  generalize w7.drewN m = w8 at HV
                  go_wp2_with fail
                  go_loopw [16] (fun i wq => ∃ g : Nat, g ≤ d' ∧ i = .int .i64 g ∧ Hid (Now w1 wq Q H1 H2 H3 H4 s.length l' d' L' D' S F' B' P' N')) (fun i _ => d' - (intOf i).toNat)
                  case atStart => exact ⟨0, Nat.zero_le _, rfl, HV⟩
                  case round =>
                    clear HV
                    obtain ⟨g, hg, rfl, HG⟩ := hrel
                    by_cases hltg : g < d'
                    · obtain ⟨b, hb⟩ : ∃ b, D'[g]? = some b := ⟨_, List.getElem?_eq_getElem (by rw [HG.out.hd]; exact hltg)⟩
                      have hbS : Hid (b ∈ S) := HG.out.subD b (at_mem hb)
                      have k1 := HG.out.st.r2.cell (j := g) (x := some b) (by simp [hb])
                      have k2 := HG.out.st.r3.cell (j := g) (x := P' b) (by simp [hb])
                      have k3 := HG.out.st.r4.cell (j := g) (x := N' b) (by simp [hb])
                      simp only [adr, Option.map_some] at k1
                      have hMV : Hid (Mem wr Q F' B' S P' N') := HG.out.st.mem
                      clear hb
                      have hkg : (g : Int) < ((d' : Nat) : Int) := by omega
                      go_wp2_with fail
                      refine wp_region_quiet_lit (by kernel_rfl) (by kernel_rfl) ?_
                      repeat (first | go_big_quiet_step (first | (go_at_call 16; refine Calls.quiet_of_same (prev_any _ b (hMV.out.drewN _) hbS)) | (go_at_call 17; refine Calls.quiet_of_same (next_any _ b (hMV.out.drewN _) hbS))) | quiet_step (first | (go_at_call 16; refine Calls.quiet_of_same (prev_any _ b (hMV.out.drewN _) hbS)) | (go_at_call 17; refine Calls.quiet_of_same (next_any _ b (hMV.out.drewN _) hbS))))
                      refine wpQuiet_nil ?_
                      intro _ hw'
                      obtain ⟨nq, hw''⟩ := hw'
                      subst hw''
                      go_wp2_with fail
                      exact ⟨⟨g + 1, by omega, by go_num, HG.out.drewN nq⟩, by simp [intOf]; omega⟩
                    · go_wp2_with fail
                      exact ⟨⟨k + 1, l', d', L', D', S, F', B', P', N', by omega, by omega, by go_num, rfl, rfl, rfl, rfl, HG⟩, by simp [intOf]; omega⟩
            · -- nothing
              have hji : ¬ (j : Int) < (l : Int) := by omega
              have HT := HN
              clear HN

              go_wp2_with fail
              refine (chain_is_n H1 s.length l L HT.out.hl HT.out.st.mem HT.out.chain HT.out.sub HT.out.st.r1 (by omega)).mono ?_
              rintro e w7 ⟨rfl, m, rfl⟩
              have HV : Hid (Now w1 (wr.drewN m) Q H1 H2 H3 H4 s.length l d L D S F B P N) := HT.out.drewN m
              clear HT
              generalize wr.drewN m = w8 at HV
              go_wp2_with fail
              go_loopw [16] (fun i wq => ∃ g : Nat, g ≤ d ∧ i = .int .i64 g ∧ Hid (Now w1 wq Q H1 H2 H3 H4 s.length l d L D S F B P N)) (fun i _ => d - (intOf i).toNat)
              case atStart => exact ⟨0, Nat.zero_le _, rfl, HV⟩
              case round =>
                clear HV
                obtain ⟨g, hg, rfl, HG⟩ := hrel
                by_cases hltg : g < d
                · obtain ⟨b, hb⟩ : ∃ b, D[g]? = some b := ⟨_, List.getElem?_eq_getElem (by rw [HG.out.hd]; exact hltg)⟩
                  have hbS : Hid (b ∈ S) := HG.out.subD b (at_mem hb)
                  have k1 := HG.out.st.r2.cell (j := g) (x := some b) (by simp [hb])
                  have k2 := HG.out.st.r3.cell (j := g) (x := P b) (by simp [hb])
                  have k3 := HG.out.st.r4.cell (j := g) (x := N b) (by simp [hb])
                  simp only [adr, Option.map_some] at k1
                  have hMV : Hid (Mem wr Q F B S P N) := HG.out.st.mem
                  clear hb
                  have hkg : (g : Int) < ((d : Nat) : Int) := by omega
                  go_wp2_with fail
                  refine wp_region_quiet_lit (by kernel_rfl) (by kernel_rfl) ?_
                  repeat (first | go_big_quiet_step (first | (go_at_call 16; refine Calls.quiet_of_same (prev_any _ b (hMV.out.drewN _) hbS)) | (go_at_call 17; refine Calls.quiet_of_same (next_any _ b (hMV.out.drewN _) hbS))) | quiet_step (first | (go_at_call 16; refine Calls.quiet_of_same (prev_any _ b (hMV.out.drewN _) hbS)) | (go_at_call 17; refine Calls.quiet_of_same (next_any _ b (hMV.out.drewN _) hbS))))
                  refine wpQuiet_nil ?_
                  intro _ hw'
                  obtain ⟨nq, hw''⟩ := hw'
                  subst hw''
                  go_wp2_with fail
                  exact ⟨⟨g + 1, by omega, by go_num, HG.out.drewN nq⟩, by simp [intOf]; omega⟩
                · go_wp2_with fail
                  exact ⟨⟨k + 1, l, d, L, D, S, F, B, P, N, by omega, by omega, by go_num, rfl, rfl, rfl, rfl, HG⟩, by simp [intOf]; omega⟩
        · go_wp2_with fail
          go_ret
          exact ⟨rfl, HB1.out.trans (HN.out.st.below.mono HB1.out.size)⟩
    · go_wp2_with fail
      any_goals (go_ret; exact ⟨rfl, Below.refl _ _⟩)
      all_goals (exfalso; omega)
end Go.Proofs.Qxb6601613aMods.q
