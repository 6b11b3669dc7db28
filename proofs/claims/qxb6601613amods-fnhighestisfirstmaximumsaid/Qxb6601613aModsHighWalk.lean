/-
  The walk of FnHighestIsFirstMaximum (seat b6601613aM).
-/
import Derived.Test.Qxb6601613aModsEql
namespace Go.Proofs.Qxb6601613aMods.q
open Go.ChangeShapes Go.WideShapes Go.ChangeAt Go.RowKit
set_option linter.unusedVariables false

def SomeBool (e : Ending) : Prop := ∃ r : Bool, e = .returned (.bool r)

theorem zz7 (n : Int) (a1 a2 a3 : Option Addr) (l1 c1 l2 c2 l3 c3 : Nat) (w : World) (h1 : l1 ≤ maxLen) (h2 : l2 ≤ maxLen) (h3 : l3 ≤ maxLen) :
    Calls Trym.prog 7 #[.int .u64 n, .slice a1 l1 c1, .slice a2 l2 c2, .slice a3 l3 c3] w fun e w' => SomeBool e ∧ w' = w := by
  unfold maxLen at h1 h2 h3
  go_enter Trym.func7, Trym.ntmps7
  go_wp2_with fail
  all_goals (go_ret; exact ⟨⟨_, rfl⟩, rfl⟩)

theorem high_of (rd : Int) (a1 a3 : Option Addr) (l1 c1 l3 c3 : Nat) (a : Option Addr) (c : Nat) (ps : List (Option Addr)) (v : Addr → Int) (w : World) (hn : ps.length ≤ 1048576) (hS : Hid (Row Value.pointer none w a ps)) (hT : Hid (PT w v ps)) :
    Calls Trym.prog 10 #[.int .u64 rd, .slice a1 l1 c1, .slice a ps.length c, .slice a3 l3 c3] w fun e w' => ∃ r, e = .returned (.pointer r) ∧ BestTo ps v ps.length r ∧ Below w.heap.size w w' := by
  go_enter Trym.func10, Trym.ntmps10
  go_wp2_with fail
  obtain ⟨W, hW⟩ : ∃ W, W = w.alloc (.cells #[.int .u64 rd, .slice a1 l1 c1, .slice a ps.length c, .slice a3 l3 c3] 48) := ⟨_, rfl⟩
  have hB : Below w.heap.size w W := by rw [hW]; exact (Below.refl _ _).alloc (Nat.le_refl _) _
  have hc : W.cell? ⟨w.heap.size, 2, none⟩ = some (.slice a ps.length c) := by rw [hW, World.cell?_alloc_at _ _ _ _ rfl]; rfl
  rw [← hW]
  clear hW
  go_enter Trym.func24, Trym.ntmps24
  go_wp2_with fail
  refine (highest_any w.heap.size a c ps v _ hn hc (hS.out.below hB) (hT.out.below hB)).mono ?_
  rintro e w1 ⟨r, n, rfl, hb, rfl⟩
  go_wp2_with fail
  go_ret
  exact ⟨r, rfl, hb, below_drewN hB _⟩

set_option maxRecDepth 100000 in
set_option maxHeartbeats 2000000 in
theorem high_walk (rd : Int) (a1 a2 a3 : Option Addr) (c1 c2 c3 : Nat) (s1 s3 : List Int) (ps : List (Option Addr)) (v : Addr → Int) (w : World) (h1 : s1.length ≤ maxLen) (h2 : ps.length ≤ maxLen) (h3 : s3.length ≤ maxLen)
    (S1 : Hid (Row (Value.int .u8) 0 w a1 s1)) (S3 : Hid (Row (Value.int .u8) 0 w a3 s3)) (S2 : Hid (Row Value.pointer none w a2 ps)) (T2 : Hid (PT w v ps)) :
    Calls Trym.prog 3 #[.int .u64 rd, .slice a1 s1.length c1, .slice a2 ps.length c2, .slice a3 s3.length c3] w fun e w' => e = .returned (.bool true) ∧ Below w.heap.size w w' := by
  go_enter Trym.func3, Trym.ntmps3
  go_wp2_with fail
  refine (zz7 rd a1 a2 a3 _ c1 _ c2 _ c3 _ h1 h2 h3).mono ?_
  rintro e w' ⟨⟨r, rfl⟩, rfl⟩
  cases r with
  | false =>
    go_wp2_with fail
    go_ret
    exact ⟨rfl, Below.refl _ _⟩
  | true =>
    by_cases hlen : s1.length ≤ 1048576 ∧ s3.length ≤ 1048576 ∧ ps.length ≤ 65536
    · obtain ⟨b1, b3, b2⟩ := hlen
      go_wp2_with fail
      any_goals (go_ret; exact ⟨rfl, Below.refl _ _⟩)
      refine (bytes_copy a1 c1 s1 _ b1 S1).mono ?_
      rintro e w1 ⟨a1', rfl, _, hB1⟩
      have S2 : Hid (Row Value.pointer none w1 a2 ps) := S2.out.below hB1
      have S3 : Hid (Row (Value.int .u8) 0 w1 a3 s3) := S3.out.below hB1
      have T2 : Hid (PT w1 v ps) := T2.out.below hB1
      go_wp2_with fail
      refine (bytes_copy a3 c3 s3 _ b3 S3).mono ?_
      rintro e w2 ⟨a3', rfl, _, hB2⟩
      have S2 : Hid (Row Value.pointer none w2 a2 ps) := S2.out.below hB2
      have T2 : Hid (PT w2 v ps) := T2.out.below hB2
      have hB2 := hB1.trans (hB2.mono hB1.size)
      clear hB1 S1 S3
      go_wp2_with fail
      refine (ptrs_copy a2 c2 ps _ (by omega) S2).mono ?_
      rintro e w3 ⟨a2', rfl, hS3, hB3⟩
      have S2 : Hid (Row Value.pointer none w3 a2' ps) := hS3
      have T2 : Hid (PT w3 v ps) := T2.out.below hB3
      have hB3 := hB2.trans (hB3.mono hB2.size)
      clear hB2 hS3
      go_wp2_with fail
      refine (high_of rd a1' a3' _ _ _ _ a2' _ ps v _ (by omega) S2 T2).mono ?_
      rintro e w4 ⟨r, rfl, hbest, hB4⟩
      have S2 : Hid (Row Value.pointer none w4 a2' ps) := S2.out.below hB4
      have T2 : Hid (PT w4 v ps) := T2.out.below hB4
      have hB4 := hB3.trans (hB4.mono hB3.size)
      have HB : Hid (BestTo ps v ps.length r) := hbest
      clear hB3 hbest
      cases r with
      | none =>
        have hall : Hid (∀ j, j < ps.length → ps.getD j none = none) := by
          rcases HB.out with ⟨_, h⟩ | ⟨g, i, h, _⟩
          · exact h
          · cases h
        go_wp2_with fail
        go_loop [10] (fun i => ∃ k : Nat, k ≤ ps.length ∧ i = .int .i64 k) (fun i => ps.length - (intOf i).toNat)
        case atStart => exact ⟨0, Nat.zero_le _, rfl⟩
        case round =>
          obtain ⟨k, hk, rfl⟩ := hrel
          by_cases hlt : k < ps.length
          · obtain ⟨b, off, rfl, hbl, hc⟩ := S2.out.some hlt
            have hck := hc k hlt
            rw [hall.out k hlt] at hck
            clear hc
            go_wp2_with fail
            exact ⟨⟨k + 1, by omega, by go_num⟩, by simp [intOf]; omega⟩
          · go_wp2_with fail
            go_ret
            exact ⟨rfl, hB4⟩
      | some g =>
        obtain ⟨i, hi1, hi2, hmax, hfst⟩ : ∃ i, i < ps.length ∧ Hid (ps.getD i none = some g) ∧ Hid (∀ j, j < ps.length → ∀ a, ps.getD j none = some a → v a ≤ v g) ∧ Hid (∀ j, j < i → ∀ a, ps.getD j none = some a → v a < v g) := by
          rcases HB.out with ⟨h, _⟩ | ⟨g', i, h1, h2, h3, h4, h5⟩
          · cases h
          · cases h1; exact ⟨i, h2, h3, h4, h5⟩
        obtain ⟨bg, og, hg, hbg, hcg, hfg⟩ := T2.out g (mem_of_getD hi2.out)
        subst hg
        clear HB
        go_wp2_with fail
        go_loopw [12] (fun j wr => ∃ k n : Nat, k ≤ i ∧ j = .int .i64 k ∧ wr = w4.drewN n) (fun j _ => ps.length - (intOf j).toNat)
        case atStart => exact ⟨0, 0, Nat.zero_le _, rfl, rfl⟩
        case round =>
          obtain ⟨k, n, hk, rfl, rfl⟩ := hrel
          obtain ⟨b, off, rfl, hbl, hc⟩ := S2.out.some hi1
          have hck : (w4.drewN n).cell? ⟨b, off + k, none⟩ = some (.pointer (ps.getD k none)) := hc k (by omega)
          have HC : Hid (∀ j, j < ps.length → w4.cell? ⟨b, off + j, none⟩ = some (.pointer (ps.getD j none))) := hc
          clear hc
          obtain ⟨r, m, hrun, hr⟩ := eql_any (w4.drewN n) (ps.getD k none) ⟨bg, og, none⟩ _ hcg (fun a ha => by
            obtain ⟨ba, oa, h1, _, h3, h4⟩ := T2.out a (mem_of_getD ha)
            rw [h1]; exact ⟨⟨_, h3⟩, h4⟩)
          have hr' : Hid (k = i → r = true) := fun e => hr (by rw [e]; exact hi2.out)
          clear hr
          obtain ⟨V, hV⟩ : ∃ V, V = w4.drewN n := ⟨_, rfl⟩
          rw [← hV] at hck hrun
          rw [← hV]
          have HV : Hid (V = w4.drewN n) := hV
          clear hV
          generalize ps.getD k none = x at hck hrun
          cases r with
          | false =>
            have hki : k ≠ i := fun e => by have := hr'.out e; cases this
            have hlt : k < ps.length := by omega
            go_wp2_with fail
            exact ⟨⟨k + 1, n + m, by omega, by go_num, by rw [HV.out, World.drewN_drewN]⟩, by simp [intOf]; omega⟩
          | true =>
            have hlt : k < ps.length := by omega
            have hcg' : V.cell? ⟨bg, og, none⟩ = some (.int .u64 (v ⟨bg, og, none⟩)) := by rw [HV.out]; exact hcg
            clear hcg
            obtain ⟨ng, hng⟩ : ∃ ng, ng = v ⟨bg, og, none⟩ := ⟨_, rfl⟩
            rw [← hng] at hcg'
            have HG : Hid (ng = v ⟨bg, og, none⟩) := hng
            clear hng
            go_wp2_with fail
            go_loopw [13] (fun j wr => ∃ j' l : Nat, j' ≤ ps.length ∧ j = .int .i64 j' ∧ wr = V.drewN l) (fun j _ => ps.length - (intOf j).toNat)
            case atStart => exact ⟨0, m, Nat.zero_le _, rfl, rfl⟩
            case round =>
              clear hrun hck
              obtain ⟨j, l, hj, rfl, rfl⟩ := hrel
              by_cases hjl : j < ps.length
              · have hcj : (V.drewN l).cell? ⟨b, off + j, none⟩ = some (.pointer (ps.getD j none)) := by
                  show V.cell? _ = _; rw [HV.out]; exact HC.out j hjl
                have hcg2 : (V.drewN l).cell? ⟨bg, og, none⟩ = some (.int .u64 ng) := hcg'
                obtain ⟨y, hy⟩ : ∃ y, y = ps.getD j none := ⟨_, rfl⟩
                rw [← hy] at hcj
                have HY : Hid (ps.getD j none = y) := hy.symm
                clear hy
                cases y with
                | none =>
                  go_wp2_with fail
                  exact ⟨⟨j + 1, l, by omega, by go_num, rfl⟩, by simp [intOf]; omega⟩
                | some a =>
                  obtain ⟨ba, oa, ha, _, hca, _⟩ := T2.out a (mem_of_getD HY.out)
                  have hle := hmax.out j hjl a HY.out
                  have hst : Hid (j < k → v a < ng) := fun h => by rw [HG.out]; exact hfst.out j (by omega) a HY.out
                  rw [← HG.out] at hle
                  have hca' : (V.drewN l).cell? ⟨ba, oa, none⟩ = some (.int .u64 (v a)) := by
                    show V.cell? _ = _; rw [HV.out]; exact hca
                  clear hca
                  subst ha
                  generalize v ⟨ba, oa, none⟩ = na at hca' hle hst
                  obtain ⟨U, hU⟩ : ∃ U, U = V.drewN l := ⟨_, rfl⟩
                  rw [← hU] at hca' hcg2 hcj
                  rw [← hU]
                  have HU : Hid (U = V.drewN l) := hU
                  clear hU hcg'
                  have hj1 : (j : Int) < (ps.length : Int) := by omega
                  by_cases hjk : j < k
                  · have hd : decide ((j : Int) < (k : Int)) = true := decide_eq_true (by omega)
                    have hlt2 := hst.out hjk
                    have hne : (na == ng) = false := beq_eq_false_iff_ne.2 (by omega)
                    go_wp2_with fail
                    go_quiet (fail)
                    go_wp2_with fail
                    go_quiet (fail)
                    go_wp2_with fail
                    exact ⟨⟨j + 1, _, by omega, by go_num, by rw [HU.out, World.drewN_drewN]⟩, by simp [intOf]; omega⟩
                  · have hd : decide ((j : Int) < (k : Int)) = false := decide_eq_false (by omega)
                    go_wp2_with fail
                    go_quiet (fail)
                    go_wp2_with fail
                    go_quiet (fail)
                    go_wp2_with fail
                    exact ⟨⟨j + 1, _, by omega, by go_num, by rw [HU.out, World.drewN_drewN]⟩, by simp [intOf]; omega⟩
              · go_wp2_with fail
                go_ret
                refine ⟨rfl, ?_⟩
                rw [HV.out]
                exact below_drewN (below_drewN hB4 _) _
    · go_wp2_with fail
      any_goals (go_ret; exact ⟨rfl, Below.refl _ _⟩)
      all_goals (exfalso; omega)
end Go.Proofs.Qxb6601613aMods.q
