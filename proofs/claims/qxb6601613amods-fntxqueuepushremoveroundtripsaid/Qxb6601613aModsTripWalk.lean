/-
  The walk of FnTxQueuePushRemoveRoundTrip (seat b6601613aM).
-/
import Derived.Test.Qxb6601613aModsTrip2
namespace Go.Proofs.Qxb6601613aMods.q
open Go.ChangeShapes Go.WideShapes Go.ChangeAt Go.RowKit
set_option linter.unusedVariables false

theorem Trym.info34 : (Trym.prog.info? 34).map (fun i => (i.zero, i.size, i.bytes)) = some (some (.pointer none), 1, 8) := by kernel_rfl

set_option maxRecDepth 100000 in
set_option maxHeartbeats 2000000 in
theorem trip_walk (a : Option Addr) (c : Nat) (s : List Int) (t : Int) (w : World) (hl : s.length ≤ maxLen) (hS : Hid (Row (Value.int .i64) 0 w a s)) :
    Calls Trym.prog 6 #[.slice a s.length c, .int .i64 t] w fun e w' => e = .returned (.bool true) ∧ Below w.heap.size w w' := by
  obtain ⟨i0, hi, hz0, hz1, hz2⟩ := info_parts Trym.info34
  go_enter Trym.func6, Trym.ntmps6
  go_wp2_with fail
  refine (zz20 a _ c t _ hl).mono ?_
  rintro e w' ⟨⟨r, rfl⟩, rfl⟩
  cases r with
  | false =>
    go_wp2_with fail
    go_ret
    exact ⟨rfl, Below.refl _ _⟩
  | true =>
    by_cases hn : s.length ≤ 65536
    · go_wp2_with fail
      refine (ints_copy a c s _ (by omega) hS).mono ?_
      rintro e w1 ⟨a', rfl, hR, hB1⟩
      have HR : Hid (Row (Value.int .i64) 0 w1 a' s) := hR
      clear hR hS
      go_wp2_with (first | (at_make; refine wpList_make_full _ rfl _ _ 37 rfl (w1.heap.size + 1) 34 i0 _ 1 Trym.underlying37 hi hz0 hz1 _ _ _ _ s.length rfl rfl rfl rfl (by rw [hz2]; omega) (by unfold maxLen; omega) (by simp) ?_))
      intro w2 hown hgrow
      have hB2 : Hid (Built w1 w2 w1.heap.size (w1.heap.size + 1) s.length [] [] none none (fun _ => none) (fun _ => none)) := by
        have hrow := PRow.made hown
        refine { mem := ⟨?_, fun b hb => (by cases hb)⟩, chain := chain_nil _ _, sub := fun x hx => (by cases hx), row := hrow, below := ?_, hQ := Nat.le_refl _, hH := Nat.le_succ _, hS := fun x hx => (by cases hx), apart := fun h => ?_ }
        · exact (hgrow.block w1.heap.size (by simp) (by simp)).trans (heap_alloc_at w1 _)
        · exact ((Below.refl _ _).alloc (Nat.le_refl _) _).grown hgrow (by simp) (fun k hk => by cases hk)
        · simp at h
      clear hown hgrow
      go_wp2_with fail
      go_loopw [7] (fun i wr => ∃ (L S : List Nat) (F B : Option Nat) (P N : Nat → Option Nat), L.length ≤ s.length ∧ i = .int .i64 (L.length : Nat) ∧ Hid (Built w1 wr w1.heap.size (w1.heap.size + 1) s.length L S F B P N)) (fun i _ => s.length - (intOf i).toNat)
      case atStart => exact ⟨[], [], none, none, _, _, Nat.zero_le _, rfl, hB2⟩
      case round =>
        clear hB2
        obtain ⟨L, S, F, B, P, N, hk, rfl, HB⟩ := hrel
        by_cases hlt : L.length < s.length
        · obtain ⟨b, off, rfl, hbl, hc⟩ := HR.out.some hlt
          have hck : wr.cell? ⟨b, off + L.length, none⟩ = some (.int .i64 (s.getD L.length 0)) := (HB.out.below.cell (p := ⟨b, off + L.length, none⟩) hbl).trans (hc _ hlt)
          clear hc
          generalize s.getD L.length 0 = tg at hck
          go_wp2_with fail
          refine (new_any _ tg).mono ?_
          rintro e w3 ⟨rfl, rfl⟩
          go_wp2_with fail
          have hp : Hid (wr.heap.size ∉ L) := fun h => HB.out.fresh h rfl
          refine (zz_push _ w1.heap.size wr.heap.size F B (wr.heap.size :: S) L _ _ (HB.out.memNew tg) HB.out.chainNew (fun x hx => List.mem_cons_of_mem _ (HB.out.sub x hx)) List.mem_cons_self hp (upd_same _ _ _)).mono ?_
          rintro e w4 ⟨rfl, F', P', N', hM', hC', hfr, hO⟩
          have hrow := (HB.out.row.alloc (nodeObj tg)).only hO HB.out.apartNew
          have hcell : ∃ v, w4.cell? ⟨w1.heap.size + 1, L.length, none⟩ = some (.pointer v) := by
            obtain ⟨x, hx⟩ : ∃ x, (L.map some ++ List.replicate (s.length - L.length) none)[L.length]? = some x := ⟨_, List.getElem?_eq_getElem (by simp; omega)⟩
            exact ⟨_, hrow.cell hx⟩
          obtain ⟨v, hcell⟩ := hcell
          have hfz := hrow.frozen L.length
          have HB' : Hid (Built w1 (w4.setCell ⟨w1.heap.size + 1, L.length, none⟩ (pv (some wr.heap.size))) w1.heap.size (w1.heap.size + 1) s.length (L ++ [wr.heap.size]) (wr.heap.size :: S) F' (some wr.heap.size) P' N') := HB.out.step tg hlt hM' hC' hO
          clear hM' hC' hfr hO hrow HB hck
          have hki : (L.length : Int) < (s.length : Int) := by omega
          go_wp2_with fail
          exact ⟨⟨L ++ [wr.heap.size], _, _, _, _, _, by simp; omega, by simp, HB'⟩, by simp [intOf]; omega⟩
        · have HL : Hid (L.length = s.length) := by show _ = _; omega
          have hlt' : ¬ (L.length : Int) < (s.length : Int) := by omega
          clear hlt hk HR
          go_wp2_with fail
          refine (front_any wr HB.out.mem).mono ?_
          rintro e w5 ⟨rfl, rfl⟩
          go_wp2_with fail
          refine (back_any _ HB.out.mem).mono ?_
          rintro e w6 ⟨rfl, rfl⟩
          clear hlt'
          go_wp2_with (first | (at_make; refine wpList_make_full _ rfl _ _ 37 rfl 0 34 i0 _ 1 Trym.underlying37 hi hz0 hz1 _ _ _ _ s.length rfl rfl rfl rfl (by rw [hz2]; omega) (by unfold maxLen; omega) (Nat.zero_le _) ?_))
          intro w7 hown7 hgrow7
          go_wp2_with (first | (at_make; refine wpList_make_full _ rfl _ _ 37 rfl 0 34 i0 _ 1 Trym.underlying37 hi hz0 hz1 _ _ _ _ s.length rfl rfl rfl rfl (by rw [hz2]; omega) (by unfold maxLen; omega) (Nat.zero_le _) ?_))
          intro w8 hown8 hgrow8
          have r2 := PRow.made hown7
          have r3 := PRow.made hown8
          have lt7 : w6.heap.size < w7.heap.size := r2.lt
          have hF3 : Hid (Fin3 w1 w8 w1.heap.size (w1.heap.size + 1) w6.heap.size w7.heap.size L S F B P N ((L.map P).take 0 ++ List.replicate (s.length - 0) none) ((L.map N).take 0 ++ List.replicate (s.length - 0) none)) := by
            have hb := HB.out
            have hr1 : PRow w6 (w1.heap.size + 1) (L.map some) := by
              have := hb.row
              rw [HL.out, Nat.sub_self] at this
              simpa using this
            have up : ∀ k, k < w6.heap.size → w8.heap[k]? = w6.heap[k]? := fun k hk => (hgrow8.block k (by omega) (by simp)).trans (hgrow7.block k hk (by simp))
            have hltS : ∀ x ∈ w1.heap.size :: S, x < w6.heap.size := fun x hx => by
              rcases List.mem_cons.1 hx with e | hx
              · rw [e]; exact hb.mem.ltQ
              · exact hb.mem.ltS hx
            exact { mem := hb.mem.kept (up _ hb.mem.ltQ) (fun b hb' => up b (hb.mem.ltS hb')), chain := hb.chain, sub := hb.sub, r1 := (up _ hr1.lt).trans hr1, r2 := (hgrow8.block _ lt7 (by simp)).trans r2, r3 := r3,
                    below := (hb.below.grown hgrow7 hb.below.size (fun k hk => by cases hk)).grown hgrow8 (by have := hb.below.size; omega) (fun k hk => by cases hk), hQ := Nat.le_refl _, hS := hb.hS, h2 := hb.below.size, h3 := by have := hb.below.size; omega,
                    a1 := hb.apart, a2 := fun h => by have := hltS _ h; omega, a3 := fun h => by have := hltS _ h; omega, n12 := by have := hr1.lt; omega, n13 := by have := hr1.lt; omega, n23 := by omega }
          clear hown7 hown8 hgrow7 hgrow8 r2 r3 HB
          go_wp2_with fail
          generalize w6.heap.size = H2 at *
          generalize w7.heap.size = H3 at *
          go_loopw [13] (fun i wr => ∃ k : Nat, k ≤ s.length ∧ i = .int .i64 k ∧ Hid (Fin3 w1 wr w1.heap.size (w1.heap.size + 1) H2 H3 L S F B P N ((L.map P).take k ++ List.replicate (s.length - k) none) ((L.map N).take k ++ List.replicate (s.length - k) none))) (fun i _ => s.length - (intOf i).toNat)
          case atStart => exact ⟨0, Nat.zero_le _, rfl, hF3⟩
          case round =>
            clear hF3
            obtain ⟨k, hk, rfl, HF⟩ := hrel
            by_cases hlt : k < s.length
            · obtain ⟨b, hb⟩ : ∃ b, L[k]? = some b := ⟨_, List.getElem?_eq_getElem (by rw [HL.out]; exact hlt)⟩
              have hbS : Hid (b ∈ S) := HF.out.sub b (at_mem hb)
              have k1 : wr.cell? ⟨w1.heap.size + 1, k, none⟩ = some (.pointer (some ⟨b, 0, none⟩)) := HF.out.r1.cell (x := some b) (by simp [hb])
              have hlenP : ((L.map P).take k ++ List.replicate (s.length - k) none).length = s.length := by simp [HL.out]; omega
              have hlenN : ((L.map N).take k ++ List.replicate (s.length - k) none).length = s.length := by simp [HL.out]; omega
              have k2 : ∃ v, wr.cell? ⟨H2, k, none⟩ = some (.pointer v) := ⟨_, HF.out.r2.cell (List.getElem?_eq_getElem (by omega))⟩
              have k3 : ∃ v, wr.cell? ⟨H3, k, none⟩ = some (.pointer v) := ⟨_, HF.out.r3.cell (List.getElem?_eq_getElem (by omega))⟩
              obtain ⟨v2, k2⟩ := k2
              obtain ⟨v3, k3⟩ := k3
              clear hlenP hlenN
              have z2 := HF.out.r2.frozen k
              have z3 := HF.out.r3.frozen k
              have n23 : ¬ H2 = H3 := HF.out.n23
              have n32 : ¬ H3 = H2 := fun e => n23 e.symm
              have n12 : ¬ H2 = w1.heap.size + 1 := fun e => HF.out.n12 e.symm
              have n21 : ¬ w1.heap.size + 1 = H2 := HF.out.n12
              have HF' : Hid (Fin3 w1 ((wr.setCell ⟨H2, k, none⟩ (pv (P b))).setCell ⟨H3, k, none⟩ (pv (N b))) w1.heap.size (w1.heap.size + 1) H2 H3 L S F B P N ((L.map P).take (k + 1) ++ List.replicate (s.length - (k + 1)) none) ((L.map N).take (k + 1) ++ List.replicate (s.length - (k + 1)) none)) := by
                have := HF.out.step k (P b) (N b)
                rw [take_set (by simp [HL.out]) (by simp [hb]), take_set (by simp [HL.out]) (by simp [hb])] at this
                exact this
              have hM1 : Hid (Mem (wr.setCell ⟨H2, k, none⟩ (pv (P b))) w1.heap.size F B S P N) := HF.out.mem.setCell_far HF.out.a2 _ _
              have hM0 : Hid (Mem wr w1.heap.size F B S P N) := HF.out.mem
              clear hb HF
              have hki : (k : Int) < (s.length : Int) := by omega
              go_wp2_with fail
              refine (prev_any _ b hM0 hbS).mono ?_
              rintro e w9 ⟨rfl, rfl⟩
              go_wp2_with fail
              refine (next_any _ b hM1 hbS).mono ?_
              rintro e w10 ⟨rfl, rfl⟩
              go_wp2_with fail
              exact ⟨⟨k + 1, by omega, by go_num, HF'⟩, by simp [intOf]; omega⟩
            · have HF3 : Hid (Fin3 w1 wr w1.heap.size (w1.heap.size + 1) H2 H3 L S F B P N (L.map P) (L.map N)) := by
                have h := HF.out
                have e : k = s.length := by omega
                rw [e, Nat.sub_self, List.take_of_length_le (by simp [HL.out]), List.take_of_length_le (by simp [HL.out])] at h
                show Fin3 _ _ _ _ _ _ _ _ _ _ _ _ _ _
                simpa using h
              clear HF
              go_wp2_with fail
              refine (new_any _ t).mono ?_
              rintro e w9 ⟨rfl, rfl⟩
              go_wp2_with fail
              have hfresh : Hid (∀ b ∈ L, b ≠ wr.heap.size) := fun b hb e => by have := HF3.out.mem.ltS (HF3.out.sub b hb); omega
              have hsub : Hid (∀ x ∈ L, x ∈ wr.heap.size :: S) := fun x hx => List.mem_cons_of_mem _ (HF3.out.sub x hx)
              refine (zz_push _ w1.heap.size wr.heap.size F B (wr.heap.size :: S) L _ _ (HF3.out.mem.new t) (chain_congr HF3.out.chain (fun b hb => ⟨upd_other _ _ (hfresh.out b hb), upd_other _ _ (hfresh.out b hb)⟩)) hsub List.mem_cons_self (fun h => hfresh.out _ h rfl) (upd_same _ _ _)).mono ?_
              rintro e w10 ⟨rfl, F1, P1, N1, hM1, hC1, hfr1, hO1⟩
              have HM1 : Hid (Mem w10 w1.heap.size F1 (some wr.heap.size) (wr.heap.size :: S) P1 N1) := hM1
              have HC1 : Hid (Chain (L ++ [wr.heap.size]) F1 (some wr.heap.size) P1 N1) := hC1
              have HO1 : Hid (Only (w1.heap.size :: (wr.heap.size :: S)) (wr.alloc (nodeObj t)) w10) := hO1
              clear hM1 hC1 hfr1 hO1
              go_wp2_with fail
              refine (zz_remove _ w1.heap.size wr.heap.size L.length F1 (some wr.heap.size) (wr.heap.size :: S) (L ++ [wr.heap.size]) P1 N1 HM1 HC1 (fun x hx => by
                rcases List.mem_append.1 hx with hx | hx
                · exact hsub.out x hx
                · rw [List.mem_singleton] at hx; rw [hx]; exact List.mem_cons_self) (by show _ = _; simp)).mono ?_
              rintro e w11 ⟨rfl, F2, B2, P2, N2, hM2, hC2, hfr2, hO2⟩
              obtain ⟨e1, e2, hF⟩ := HF3.out.trip1 t HO1.out hM2 hC2 hO2
              subst e1
              subst e2
              have HF4 : Hid (Fin3 w1 w11 w1.heap.size (w1.heap.size + 1) H2 H3 L (wr.heap.size :: S) F2 B2 P2 N2 (L.map P2) (L.map N2)) := hF
              clear hM2 hC2 hfr2 hO2 HM1 HC1 HO1 HF3 hF hsub hfresh
              generalize wr.heap.size :: S = S1 at HF4
              go_wp2_with fail
              refine (same_as_n s.length _ _ _ _ _ _ L _ HL HF4.out.mem HF4.out.r1 HF4.out.r2 HF4.out.r3 HF4.out.sub hn).mono ?_
              rintro e w12 ⟨rfl, m, rfl⟩
              have HF5 : Hid (Fin3 w1 (w11.drewN m) w1.heap.size (w1.heap.size + 1) H2 H3 L S1 F2 B2 P2 N2 (L.map P2) (L.map N2)) := HF4.out.drewN m
              clear HF4
              generalize w11.drewN m = w12 at HF5
              by_cases h0 : 0 < s.length
              · obtain ⟨b, hb⟩ : ∃ b, L[L.length - 1]? = some b := ⟨_, List.getElem?_eq_getElem (by rw [HL.out]; omega)⟩
                have Hb : Hid (L[L.length - 1]? = some b) := hb
                have hcb : w12.cell? ⟨w1.heap.size + 1, s.length - 1, none⟩ = some (.pointer (some ⟨b, 0, none⟩)) := HF5.out.r1.cell (x := some b) (by rw [← HL.out]; simp [hb])
                clear hb
                have h0i : (0 : Int) < (s.length : Int) := by omega
                go_wp2_with fail
                refine (zz_remove _ w1.heap.size b (L.length - 1) F2 B2 S1 L P2 N2 HF5.out.mem HF5.out.chain HF5.out.sub Hb).mono ?_
                rintro e w13 ⟨rfl, F3, B3, P3, N3, hM3, hC3, hfr3, hO3⟩
                have HM3 : Hid (Mem w13 w1.heap.size F3 B3 S1 P3 N3) := hM3
                have HC3 : Hid (Chain (L.eraseIdx (L.length - 1)) F3 B3 P3 N3) := hC3
                have HO3 : Hid (Only (w1.heap.size :: S1) w12 w13) := hO3
                have hbn : Hid (b ∉ L.eraseIdx (L.length - 1)) := not_mem_erase HF5.out.chain.nodup Hb.out
                have hNb : Hid (N3 b = none) := by
                  show _ = _
                  rw [(hfr3 b hbn.out).2, HF5.out.chain.next _ b Hb.out, List.getElem?_eq_none]
                  have := at_lt Hb.out; omega
                clear hM3 hC3 hfr3 hO3 hcb
                go_wp2_with fail
                refine (zz_push _ w1.heap.size b F3 B3 S1 (L.eraseIdx (L.length - 1)) P3 N3 HM3 HC3 (fun x hx => HF5.out.sub x (List.mem_of_mem_eraseIdx hx)) (HF5.out.sub b (at_mem Hb.out)) hbn hNb).mono ?_
                rintro e w14 ⟨rfl, F4, P4, N4, hM4, hC4, hfr4, hO4⟩
                obtain ⟨e1, e2, hF⟩ := HF5.out.trip2 Hb.out HO3.out hM4 hC4 hO4
                subst e1
                subst e2
                have HF6 : Hid (Fin3 w1 w14 w1.heap.size (w1.heap.size + 1) H2 H3 L S1 F4 (some b) P4 N4 (L.map P4) (L.map N4)) := hF
                clear hM4 hC4 hfr4 hO4 HM3 HC3 HO3 HF5 hF hbn hNb
                go_wp2_with fail
                refine (same_as_n s.length _ _ _ _ _ _ L _ HL HF6.out.mem HF6.out.r1 HF6.out.r2 HF6.out.r3 HF6.out.sub hn).mono ?_
                rintro e w15 ⟨rfl, m2, rfl⟩
                go_wp2_with fail
                go_ret
                exact ⟨rfl, below_drewN (hB1.trans (HF6.out.below.mono hB1.size)) _⟩
              · go_wp2_with fail
                go_ret
                exact ⟨rfl, hB1.trans (HF5.out.below.mono hB1.size)⟩
    · go_wp2_with fail
      any_goals (go_ret; exact ⟨rfl, Below.refl _ _⟩)
      all_goals (exfalso; omega)
end Go.Proofs.Qxb6601613aMods.q
