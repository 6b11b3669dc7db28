/-
  The walk of FnWithDefaultsAgreesWithIpamOfAndOwnsIPAM (seat b6600856aM).
-/
import Derived.Test.Qxb6600856aModsSpec
import Derived.Test.Qxb6600856aModsFixWalk
import Derived.Deep.RegionWith
import Derived.Deep.DeepMust
namespace Go.Proofs.Qxb6600856aMods.net
open Go.ChangeShapes Go.WideShapes Go.ChangeAt Go.RowKit
set_option linter.unusedVariables false

set_option maxRecDepth 100000 in
set_option maxHeartbeats 2000000 in
theorem own_walk (t0 t1 : ByteArray) (m : Int) (a3 a4 a5 : Option Addr) (c3 c4 c5 : Nat) (s3 s4 s5 : List ByteArray) (x : Bool) (t7 t8 : ByteArray) (w : World)
    (ht0 : t0.size ≤ maxLen) (ht1 : t1.size ≤ maxLen) (ht7 : t7.size ≤ maxLen) (ht8 : t8.size ≤ maxLen) (h3 : s3.length ≤ maxLen) (h4 : s4.length ≤ maxLen) (h5 : s5.length ≤ maxLen)
    (S3 : Hid (Strs w a3 s3)) (S4 : Hid (Strs w a4 s4)) (S5 : Hid (Strs w a5 s5)) :
    Calls Trym.prog 4 #[.string t0, .string t1, .int .i32 m, .slice a3 s3.length c3, .slice a4 s4.length c4, .slice a5 s5.length c5, .bool x, .string t7, .string t8] w fun e w' => e = .returned (.bool true) ∧ Below w.heap.size w w' := by
  go_enter Trym.func4, Trym.ntmps4
  go_wp2_with fail
  refine (zz12 t0 t1 m a3 a4 a5 c3 c4 c5 s3 s4 s5 x t7 t8 _ ht0 ht1 ht7 ht8 h3 h4 h5 S3 S4 S5).mono ?_
  rintro e w' ⟨⟨r, rfl, hr⟩, rfl⟩
  cases r with
  | false =>
    clear hr
    go_wp2_with fail
    go_ret
    exact ⟨rfl, Below.refl _ _⟩
  | true =>
    obtain ⟨b3, b4, b5⟩ := hr rfl
    clear hr
    go_wp2_with fail
    refine (big_any t0 t1 t7 t8 a3 a4 a5 c3 c4 c5 s3 s4 s5 _ ht0 ht1 ht7 ht8 h3 h4 h5 S3 S4 S5).mono ?_
    rintro e w' ⟨⟨r, rfl⟩, rfl⟩
    cases r with
    | true =>
      go_wp2_with fail
      go_ret
      exact ⟨rfl, Below.refl _ _⟩
    | false =>
      go_wp2_with fail
      refine (copy_any a3 c3 s3 _ b3 S3).mono ?_
      rintro e w1 ⟨a3', rfl, _, hB1⟩
      have S4 : Hid (Strs w1 a4 s4) := S4.out.below hB1
      have S5 : Hid (Strs w1 a5 s5) := S5.out.below hB1
      go_wp2_with fail
      refine (copy_any a4 c4 s4 _ b4 S4).mono ?_
      rintro e w2 ⟨a4', rfl, _, hB2⟩
      have S5 : Hid (Strs w2 a5 s5) := S5.out.below hB2
      have hB2 := hB1.trans (hB2.mono hB1.size)
      clear hB1
      go_wp2_with fail
      refine (copy_any a5 c5 s5 _ b5 S5).mono ?_
      rintro e w3 ⟨a5', rfl, _, hB3⟩
      have hB3 := hB2.trans (hB3.mono hB2.size)
      clear hB2 S3 S4 S5
      go_wp2_with fail
      cases x with
      | true =>
        refine (spec_true t0 t1 m a3' a4' a5' s3.length s3.length s4.length s4.length s5.length s5.length t7 t8 _).mono ?_
        rintro e w4 ⟨b, rfl, e0, e1, hb4, hB4⟩
        obtain ⟨mm, hmm⟩ : ∃ mm, Hid (modeOf t7 = mm) := ⟨_, rfl⟩
        have hid : Hid (modeOf mm = mm) := by show _ = _; rw [← hmm.out]; exact modeOf_modeOf t7
        obtain ⟨ll, hll⟩ : ∃ ll, Hid (ll = t8) := ⟨_, rfl⟩
        have hI : Hid (IpamIs w4 (some ⟨b, 0, none⟩) mm ll) := Or.inr ⟨b, t7, rfl, e0, by rw [hll.out]; exact e1, hb4, hmm.out⟩
        have hB4 := hB3.trans (hB4.mono hB3.size)
        clear hB3
        go_wp2_with fail
        obtain ⟨W, hW⟩ : ∃ W, W = w4.alloc (.cells #[.string t0, .string t1, .int .i32 m, .slice a3' s3.length s3.length, .slice a4' s4.length s4.length, .slice a5' s5.length s5.length, .pointer (some ⟨b, 0, none⟩)] 30) := ⟨_, rfl⟩
        have cW : ∀ j, W.cell? ⟨w4.heap.size, j, none⟩ = (#[.string t0, .string t1, .int .i32 m, .slice a3' s3.length s3.length, .slice a4' s4.length s4.length, .slice a5' s5.length s5.length, .pointer (some ⟨b, 0, none⟩)] : Array Value)[j]? := fun j => by rw [hW, World.cell?_alloc_at _ _ _ _ rfl]
        have hBW : Below w'.heap.size w' W := by rw [hW]; exact hB4.alloc hB4.size _
        have hBu : Below w4.heap.size w4 W := by rw [hW]; exact (Below.refl _ _).alloc (Nat.le_refl _) _
        have hI : Hid (IpamIs W (some ⟨b, 0, none⟩) mm ll) := hI.out.below hBu
        have e0 := (hBu.cell (p := ⟨b, 0, none⟩) hb4).trans e0
        have e1 := (hBu.cell (p := ⟨b, 1, none⟩) hb4).trans e1
        have hbW : b < W.heap.size := Nat.lt_of_lt_of_le hb4 hBu.size
        have hbS : b < w4.heap.size := hb4
        have hSW : w4.heap.size < W.heap.size := by rw [hW, size_alloc]; omega
        rw [← hW]
        clear hW hBu hB4
        generalize w4.heap.size = S at *
        refine (zz_ipam t0 t1 m a3' a4' a5' s3.length s3.length s4.length s4.length s5.length s5.length (some ⟨b, 0, none⟩) mm ll _ hI).mono ?_
        rintro e w5 ⟨rfl, hB5⟩
        have cW5 : ∀ j, w5.cell? ⟨S, j, none⟩ = (#[.string t0, .string t1, .int .i32 m, .slice a3' s3.length s3.length, .slice a4' s4.length s4.length, .slice a5' s5.length s5.length, .pointer (some ⟨b, 0, none⟩)] : Array Value)[j]? := fun j => (hB5.cell (p := ⟨S, j, none⟩) hSW).trans (cW j)
        have hI : Hid (IpamIs w5 (some ⟨b, 0, none⟩) mm ll) := hI.out.below hB5
        have e0 := (hB5.cell (p := ⟨b, 0, none⟩) hbW).trans e0
        have e1 := (hB5.cell (p := ⟨b, 1, none⟩) hbW).trans e1
        have hb5 : b < w5.heap.size := Nat.lt_of_lt_of_le hbW hB5.size
        clear hbW
        have hS5 : S < w5.heap.size := Nat.lt_of_lt_of_le hSW hB5.size
        have hBw5 := hBW.trans (hB5.mono hBW.size)
        clear cW hSW hBW hB5
        have q0 : w5.cell? ⟨S, 0, none⟩ = some (.string t0) := cW5 0
        have q1 : w5.cell? ⟨S, 1, none⟩ = some (.string t1) := cW5 1
        have q2 : w5.cell? ⟨S, 2, none⟩ = some (.int .i32 m) := cW5 2
        have q3 : w5.cell? ⟨S, 3, none⟩ = some (.slice a3' s3.length s3.length) := cW5 3
        have q4 : w5.cell? ⟨S, 4, none⟩ = some (.slice a4' s4.length s4.length) := cW5 4
        have q5 : w5.cell? ⟨S, 5, none⟩ = some (.slice a5' s5.length s5.length) := cW5 5
        have q6 : w5.cell? ⟨S, 6, none⟩ = some (.pointer (some ⟨b, 0, none⟩)) := cW5 6
        clear cW5
        go_wp2_with fail
        refine (zz_def t0 t1 m a3' a4' a5' s3.length s3.length s4.length s4.length s5.length s5.length (some ⟨b, 0, none⟩) mm ll _ hI).mono ?_
        rintro e w6 ⟨q, x3, x4, x5, y3, u3, y4, u4, y5, u5, g, rfl, g0, g1, fg, hg1, hg2, hB6⟩
        have q0 := (hB6.cell (p := ⟨S, 0, none⟩) hS5).trans q0
        have q1 := (hB6.cell (p := ⟨S, 1, none⟩) hS5).trans q1
        have q2 := (hB6.cell (p := ⟨S, 2, none⟩) hS5).trans q2
        have q3 := (hB6.cell (p := ⟨S, 3, none⟩) hS5).trans q3
        have q4 := (hB6.cell (p := ⟨S, 4, none⟩) hS5).trans q4
        have q5 := (hB6.cell (p := ⟨S, 5, none⟩) hS5).trans q5
        have q6 := (hB6.cell (p := ⟨S, 6, none⟩) hS5).trans q6
        have hI : Hid (IpamIs w6 (some ⟨b, 0, none⟩) mm ll) := hI.out.below hB6
        have e0 := (hB6.cell (p := ⟨b, 0, none⟩) hb5).trans e0
        have e1 := (hB6.cell (p := ⟨b, 1, none⟩) hb5).trans e1
        have hb6 : b < w6.heap.size := Nat.lt_of_lt_of_le hb5 hB6.size
        have hbg : b < g := Nat.lt_of_lt_of_le hb5 hg1
        clear hb5
        have hSg : S < g := Nat.lt_of_lt_of_le hS5 hg1
        have hwg : w'.heap.size ≤ g := Nat.le_trans hBw5.size hg1
        have hBw6 := hBw5.trans (hB6.mono hBw5.size)
        have FG : Hid (∀ j, w6.frozen? ⟨g, j, none⟩ = false) := fg
        clear hS5 hBw5 hB6 fg hg1
        have fg0 := FG.out 0
        have fg1 := FG.out 1
        clear FG
        go_wp2_with fail
        obtain ⟨V, hV⟩ : ∃ V, V = w6.alloc (.cells #[.string t0, .string t1, .int .i32 q, .slice x3 y3 u3, .slice x4 y4 u4, .slice x5 y5 u5, .pointer (some ⟨g, 0, none⟩)] 30) := ⟨_, rfl⟩
        have hBu : Below w6.heap.size w6 V := by rw [hV]; exact (Below.refl _ _).alloc (Nat.le_refl _) _
        have c6 : V.cell? ⟨w6.heap.size, 6, none⟩ = some (.pointer (some ⟨g, 0, none⟩)) := by rw [hV, World.cell?_alloc_at _ _ _ _ rfl]; rfl
        have hTV : w6.heap.size < V.heap.size := by rw [hV, size_alloc]; omega
        have hgT : g < w6.heap.size := hg2
        rw [← hV]
        clear hV
        have q0 := (hBu.cell (p := ⟨S, 0, none⟩) (Nat.lt_trans hSg hg2)).trans q0
        have q1 := (hBu.cell (p := ⟨S, 1, none⟩) (Nat.lt_trans hSg hg2)).trans q1
        have q2 := (hBu.cell (p := ⟨S, 2, none⟩) (Nat.lt_trans hSg hg2)).trans q2
        have q3 := (hBu.cell (p := ⟨S, 3, none⟩) (Nat.lt_trans hSg hg2)).trans q3
        have q4 := (hBu.cell (p := ⟨S, 4, none⟩) (Nat.lt_trans hSg hg2)).trans q4
        have q5 := (hBu.cell (p := ⟨S, 5, none⟩) (Nat.lt_trans hSg hg2)).trans q5
        have q6 := (hBu.cell (p := ⟨S, 6, none⟩) (Nat.lt_trans hSg hg2)).trans q6
        have g0 := (hBu.cell (p := ⟨g, 0, none⟩) hg2).trans g0
        have g1 := (hBu.cell (p := ⟨g, 1, none⟩) hg2).trans g1
        have fg0 := (hBu.frozen (p := ⟨g, 0, none⟩) hg2).trans fg0
        have fg1 := (hBu.frozen (p := ⟨g, 1, none⟩) hg2).trans fg1
        have hgV : g < V.heap.size := Nat.lt_trans hg2 hTV
        have hI : Hid (IpamIs V (some ⟨b, 0, none⟩) mm ll) := hI.out.below hBu
        have e0 := (hBu.cell (p := ⟨b, 0, none⟩) hb6).trans e0
        have e1 := (hBu.cell (p := ⟨b, 1, none⟩) hb6).trans e1
        have hBV := hBw6.trans (hBu.mono hBw6.size)
        clear hBw6 hBu hg2
        generalize w6.heap.size = T at *
        refine (zz_ipam t0 t1 q x3 x4 x5 y3 u3 y4 u4 y5 u5 (some ⟨g, 0, none⟩) mm ll _ (Or.inr ⟨g, mm, rfl, g0, g1, hgV, hid.out⟩)).mono ?_
        rintro e w7 ⟨rfl, hB7⟩
        have hSV : S < V.heap.size := Nat.lt_trans hSg hgV
        have q0 := (hB7.cell (p := ⟨S, 0, none⟩) hSV).trans q0
        have q1 := (hB7.cell (p := ⟨S, 1, none⟩) hSV).trans q1
        have q2 := (hB7.cell (p := ⟨S, 2, none⟩) hSV).trans q2
        have q3 := (hB7.cell (p := ⟨S, 3, none⟩) hSV).trans q3
        have q4 := (hB7.cell (p := ⟨S, 4, none⟩) hSV).trans q4
        have q5 := (hB7.cell (p := ⟨S, 5, none⟩) hSV).trans q5
        have q6 := (hB7.cell (p := ⟨S, 6, none⟩) hSV).trans q6
        have c6 := (hB7.cell (p := ⟨T, 6, none⟩) hTV).trans c6
        have g0 := (hB7.cell (p := ⟨g, 0, none⟩) hgV).trans g0
        have g1 := (hB7.cell (p := ⟨g, 1, none⟩) hgV).trans g1
        have fg0 := (hB7.frozen (p := ⟨g, 0, none⟩) hgV).trans fg0
        have fg1 := (hB7.frozen (p := ⟨g, 1, none⟩) hgV).trans fg1
        have hI : Hid (IpamIs w7 (some ⟨b, 0, none⟩) mm ll) := hI.out.below hB7
        have hbV : b < V.heap.size := Nat.lt_trans hbg hgV
        have e0 := (hB7.cell (p := ⟨b, 0, none⟩) hbV).trans e0
        have e1 := (hB7.cell (p := ⟨b, 1, none⟩) hbV).trans e1
        have hBw7 := hBV.trans (hB7.mono hBV.size)
        have hT7 : T < w7.heap.size := Nat.lt_of_lt_of_le hTV hB7.size
        clear hB7 hBV hgV hTV hSV hbV
        go_wp2_with fail
        go_region_with (first | (go_at_call 14; go_must ((refine (other_any mm _).mono ?_; rintro e w8 ⟨u, rfl, rfl⟩))))
        all_goals
          obtain ⟨V8, hV8⟩ : ∃ V, V = (w7.setCell ⟨g, 0, none⟩ (.string u)).drew := ⟨_, rfl⟩
          have far : ∀ B i, B ≠ g → V8.cell? ⟨B, i, none⟩ = w7.cell? ⟨B, i, none⟩ := fun B i hB => by rw [hV8]; exact World.cell?_setCell_other _ _ _ _ (ne_block (fun e => hB e.symm))
          have q0 := (far S 0 (by omega)).trans q0
          have q1 := (far S 1 (by omega)).trans q1
          have q2 := (far S 2 (by omega)).trans q2
          have q3 := (far S 3 (by omega)).trans q3
          have q4 := (far S 4 (by omega)).trans q4
          have q5 := (far S 5 (by omega)).trans q5
          have q6 := (far S 6 (by omega)).trans q6
          have c6 := (far T 6 (by omega)).trans c6
          have g1 : V8.cell? ⟨g, 1, none⟩ = some (.string ll) := by rw [hV8]; exact (World.cell?_setCell_other _ _ _ _ (fun e => by have := congrArg Addr.off e; simp at this)).trans g1
          have fg1 : V8.frozen? ⟨g, 1, none⟩ = false := by rw [hV8]; exact (World.frozen?_setCell _ _ _ _).trans fg1
          have e0 := (far b 0 (by omega)).trans e0
          have e1 := (far b 1 (by omega)).trans e1
          have hsV8 : V8.heap.size = w7.heap.size := by rw [hV8]; exact World.size_setCell _ _ _
          have hBV8 : Below w'.heap.size w' V8 := by rw [hV8]; exact (hBw7.setCell hwg _).drew
          rw [← hV8]
          clear hV8 far
          clear g0 fg0 hBw7
          go_wp2_with fail
          go_region_with (first | (go_at_call 14; go_must ((refine (other_any ll _).mono ?_; rintro e w9 ⟨u2, rfl, rfl⟩))))
          all_goals
            obtain ⟨V9, hV9⟩ : ∃ V, V = (V8.setCell ⟨g, 1, none⟩ (.string u2)).drew := ⟨_, rfl⟩
            have far : ∀ B i, B ≠ g → V9.cell? ⟨B, i, none⟩ = V8.cell? ⟨B, i, none⟩ := fun B i hB => by rw [hV9]; exact World.cell?_setCell_other _ _ _ _ (ne_block (fun e => hB e.symm))
            have q0 := (far S 0 (by omega)).trans q0
            have q1 := (far S 1 (by omega)).trans q1
            have q2 := (far S 2 (by omega)).trans q2
            have q3 := (far S 3 (by omega)).trans q3
            have q4 := (far S 4 (by omega)).trans q4
            have q5 := (far S 5 (by omega)).trans q5
            have q6 := (far S 6 (by omega)).trans q6
            have c6 := (far T 6 (by omega)).trans c6
            have e0 := (far b 0 (by omega)).trans e0
            have e1 := (far b 1 (by omega)).trans e1
            have hsV9 : V9.heap.size = V8.heap.size := by rw [hV9]; exact World.size_setCell _ _ _
            have hBV9 : Below w'.heap.size w' V9 := by rw [hV9]; exact (hBV8.setCell hwg _).drew
            rw [← hV9]
            clear hV9 far
            clear g1 fg1 hBV8
            have hT9 : T < V9.heap.size := by omega
            have hI : Hid (IpamIs V9 (some ⟨b, 0, none⟩) mm ll) := Or.inr ⟨b, t7, rfl, e0, by rw [hll.out]; exact e1, by omega, hmm.out⟩
            go_wp2_with fail
            refine (zz_ipam t0 t1 m a3' a4' a5' s3.length s3.length s4.length s4.length s5.length s5.length (some ⟨b, 0, none⟩) mm ll _ hI).mono ?_
            rintro e w10 ⟨rfl, hB10⟩
            go_wp2_with fail
            go_ret
            exact ⟨rfl, hBV9.trans (hB10.mono hBV9.size)⟩
      | false =>
        refine (spec_false t0 t1 m a3' a4' a5' s3.length s3.length s4.length s4.length s5.length s5.length t7 t8 _).mono ?_
        rintro e w4 ⟨rfl, hB4⟩
        obtain ⟨mm, hmm⟩ : ∃ mm, Hid (mm = enB) := ⟨_, rfl⟩
        obtain ⟨ll, hll⟩ : ∃ ll, Hid (ll = noB) := ⟨_, rfl⟩
        have hid : Hid (modeOf mm = mm) := by show _ = _; rw [hmm.out]; decide
        have hI : Hid (IpamIs w4 none mm ll) := Or.inl ⟨rfl, hmm.out, hll.out⟩
        have hB4 := hB3.trans (hB4.mono hB3.size)
        clear hB3
        go_wp2_with fail
        obtain ⟨W, hW⟩ : ∃ W, W = w4.alloc (.cells #[.string t0, .string t1, .int .i32 m, .slice a3' s3.length s3.length, .slice a4' s4.length s4.length, .slice a5' s5.length s5.length, .pointer none] 30) := ⟨_, rfl⟩
        have cW : ∀ j, W.cell? ⟨w4.heap.size, j, none⟩ = (#[.string t0, .string t1, .int .i32 m, .slice a3' s3.length s3.length, .slice a4' s4.length s4.length, .slice a5' s5.length s5.length, .pointer none] : Array Value)[j]? := fun j => by rw [hW, World.cell?_alloc_at _ _ _ _ rfl]
        have hBW : Below w'.heap.size w' W := by rw [hW]; exact hB4.alloc hB4.size _
        have hBu : Below w4.heap.size w4 W := by rw [hW]; exact (Below.refl _ _).alloc (Nat.le_refl _) _
        have hI : Hid (IpamIs W none mm ll) := hI.out.below hBu
        have hSW : w4.heap.size < W.heap.size := by rw [hW, size_alloc]; omega
        rw [← hW]
        clear hW hBu hB4
        generalize w4.heap.size = S at *
        refine (zz_ipam t0 t1 m a3' a4' a5' s3.length s3.length s4.length s4.length s5.length s5.length none mm ll _ hI).mono ?_
        rintro e w5 ⟨rfl, hB5⟩
        have cW5 : ∀ j, w5.cell? ⟨S, j, none⟩ = (#[.string t0, .string t1, .int .i32 m, .slice a3' s3.length s3.length, .slice a4' s4.length s4.length, .slice a5' s5.length s5.length, .pointer none] : Array Value)[j]? := fun j => (hB5.cell (p := ⟨S, j, none⟩) hSW).trans (cW j)
        have hI : Hid (IpamIs w5 none mm ll) := hI.out.below hB5
        have hS5 : S < w5.heap.size := Nat.lt_of_lt_of_le hSW hB5.size
        have hBw5 := hBW.trans (hB5.mono hBW.size)
        clear cW hSW hBW hB5
        have q0 : w5.cell? ⟨S, 0, none⟩ = some (.string t0) := cW5 0
        have q1 : w5.cell? ⟨S, 1, none⟩ = some (.string t1) := cW5 1
        have q2 : w5.cell? ⟨S, 2, none⟩ = some (.int .i32 m) := cW5 2
        have q3 : w5.cell? ⟨S, 3, none⟩ = some (.slice a3' s3.length s3.length) := cW5 3
        have q4 : w5.cell? ⟨S, 4, none⟩ = some (.slice a4' s4.length s4.length) := cW5 4
        have q5 : w5.cell? ⟨S, 5, none⟩ = some (.slice a5' s5.length s5.length) := cW5 5
        have q6 : w5.cell? ⟨S, 6, none⟩ = some (.pointer none) := cW5 6
        clear cW5
        go_wp2_with fail
        refine (zz_def t0 t1 m a3' a4' a5' s3.length s3.length s4.length s4.length s5.length s5.length none mm ll _ hI).mono ?_
        rintro e w6 ⟨q, x3, x4, x5, y3, u3, y4, u4, y5, u5, g, rfl, g0, g1, fg, hg1, hg2, hB6⟩
        have q0 := (hB6.cell (p := ⟨S, 0, none⟩) hS5).trans q0
        have q1 := (hB6.cell (p := ⟨S, 1, none⟩) hS5).trans q1
        have q2 := (hB6.cell (p := ⟨S, 2, none⟩) hS5).trans q2
        have q3 := (hB6.cell (p := ⟨S, 3, none⟩) hS5).trans q3
        have q4 := (hB6.cell (p := ⟨S, 4, none⟩) hS5).trans q4
        have q5 := (hB6.cell (p := ⟨S, 5, none⟩) hS5).trans q5
        have q6 := (hB6.cell (p := ⟨S, 6, none⟩) hS5).trans q6
        have hI : Hid (IpamIs w6 none mm ll) := hI.out.below hB6
        have hSg : S < g := Nat.lt_of_lt_of_le hS5 hg1
        have hwg : w'.heap.size ≤ g := Nat.le_trans hBw5.size hg1
        have hBw6 := hBw5.trans (hB6.mono hBw5.size)
        have FG : Hid (∀ j, w6.frozen? ⟨g, j, none⟩ = false) := fg
        clear hS5 hBw5 hB6 fg hg1
        have fg0 := FG.out 0
        have fg1 := FG.out 1
        clear FG
        go_wp2_with fail
        obtain ⟨V, hV⟩ : ∃ V, V = w6.alloc (.cells #[.string t0, .string t1, .int .i32 q, .slice x3 y3 u3, .slice x4 y4 u4, .slice x5 y5 u5, .pointer (some ⟨g, 0, none⟩)] 30) := ⟨_, rfl⟩
        have hBu : Below w6.heap.size w6 V := by rw [hV]; exact (Below.refl _ _).alloc (Nat.le_refl _) _
        have c6 : V.cell? ⟨w6.heap.size, 6, none⟩ = some (.pointer (some ⟨g, 0, none⟩)) := by rw [hV, World.cell?_alloc_at _ _ _ _ rfl]; rfl
        have hTV : w6.heap.size < V.heap.size := by rw [hV, size_alloc]; omega
        have hgT : g < w6.heap.size := hg2
        rw [← hV]
        clear hV
        have q0 := (hBu.cell (p := ⟨S, 0, none⟩) (Nat.lt_trans hSg hg2)).trans q0
        have q1 := (hBu.cell (p := ⟨S, 1, none⟩) (Nat.lt_trans hSg hg2)).trans q1
        have q2 := (hBu.cell (p := ⟨S, 2, none⟩) (Nat.lt_trans hSg hg2)).trans q2
        have q3 := (hBu.cell (p := ⟨S, 3, none⟩) (Nat.lt_trans hSg hg2)).trans q3
        have q4 := (hBu.cell (p := ⟨S, 4, none⟩) (Nat.lt_trans hSg hg2)).trans q4
        have q5 := (hBu.cell (p := ⟨S, 5, none⟩) (Nat.lt_trans hSg hg2)).trans q5
        have q6 := (hBu.cell (p := ⟨S, 6, none⟩) (Nat.lt_trans hSg hg2)).trans q6
        have g0 := (hBu.cell (p := ⟨g, 0, none⟩) hg2).trans g0
        have g1 := (hBu.cell (p := ⟨g, 1, none⟩) hg2).trans g1
        have fg0 := (hBu.frozen (p := ⟨g, 0, none⟩) hg2).trans fg0
        have fg1 := (hBu.frozen (p := ⟨g, 1, none⟩) hg2).trans fg1
        have hgV : g < V.heap.size := Nat.lt_trans hg2 hTV
        have hI : Hid (IpamIs V none mm ll) := hI.out.below hBu
        have hBV := hBw6.trans (hBu.mono hBw6.size)
        clear hBw6 hBu hg2
        generalize w6.heap.size = T at *
        refine (zz_ipam t0 t1 q x3 x4 x5 y3 u3 y4 u4 y5 u5 (some ⟨g, 0, none⟩) mm ll _ (Or.inr ⟨g, mm, rfl, g0, g1, hgV, hid.out⟩)).mono ?_
        rintro e w7 ⟨rfl, hB7⟩
        have hSV : S < V.heap.size := Nat.lt_trans hSg hgV
        have q0 := (hB7.cell (p := ⟨S, 0, none⟩) hSV).trans q0
        have q1 := (hB7.cell (p := ⟨S, 1, none⟩) hSV).trans q1
        have q2 := (hB7.cell (p := ⟨S, 2, none⟩) hSV).trans q2
        have q3 := (hB7.cell (p := ⟨S, 3, none⟩) hSV).trans q3
        have q4 := (hB7.cell (p := ⟨S, 4, none⟩) hSV).trans q4
        have q5 := (hB7.cell (p := ⟨S, 5, none⟩) hSV).trans q5
        have q6 := (hB7.cell (p := ⟨S, 6, none⟩) hSV).trans q6
        have c6 := (hB7.cell (p := ⟨T, 6, none⟩) hTV).trans c6
        have g0 := (hB7.cell (p := ⟨g, 0, none⟩) hgV).trans g0
        have g1 := (hB7.cell (p := ⟨g, 1, none⟩) hgV).trans g1
        have fg0 := (hB7.frozen (p := ⟨g, 0, none⟩) hgV).trans fg0
        have fg1 := (hB7.frozen (p := ⟨g, 1, none⟩) hgV).trans fg1
        have hI : Hid (IpamIs w7 none mm ll) := hI.out.below hB7
        have hBw7 := hBV.trans (hB7.mono hBV.size)
        have hT7 : T < w7.heap.size := Nat.lt_of_lt_of_le hTV hB7.size
        clear hB7 hBV hgV hTV hSV
        go_wp2_with fail
        go_region_with (first | (go_at_call 14; go_must ((refine (other_any mm _).mono ?_; rintro e w8 ⟨u, rfl, rfl⟩))))
        all_goals
          obtain ⟨V8, hV8⟩ : ∃ V, V = (w7.setCell ⟨g, 0, none⟩ (.string u)).drew := ⟨_, rfl⟩
          have far : ∀ B i, B ≠ g → V8.cell? ⟨B, i, none⟩ = w7.cell? ⟨B, i, none⟩ := fun B i hB => by rw [hV8]; exact World.cell?_setCell_other _ _ _ _ (ne_block (fun e => hB e.symm))
          have q0 := (far S 0 (by omega)).trans q0
          have q1 := (far S 1 (by omega)).trans q1
          have q2 := (far S 2 (by omega)).trans q2
          have q3 := (far S 3 (by omega)).trans q3
          have q4 := (far S 4 (by omega)).trans q4
          have q5 := (far S 5 (by omega)).trans q5
          have q6 := (far S 6 (by omega)).trans q6
          have c6 := (far T 6 (by omega)).trans c6
          have g1 : V8.cell? ⟨g, 1, none⟩ = some (.string ll) := by rw [hV8]; exact (World.cell?_setCell_other _ _ _ _ (fun e => by have := congrArg Addr.off e; simp at this)).trans g1
          have fg1 : V8.frozen? ⟨g, 1, none⟩ = false := by rw [hV8]; exact (World.frozen?_setCell _ _ _ _).trans fg1
          have hsV8 : V8.heap.size = w7.heap.size := by rw [hV8]; exact World.size_setCell _ _ _
          have hBV8 : Below w'.heap.size w' V8 := by rw [hV8]; exact (hBw7.setCell hwg _).drew
          rw [← hV8]
          clear hV8 far
          clear g0 fg0 hBw7
          go_wp2_with fail
          go_region_with (first | (go_at_call 14; go_must ((refine (other_any ll _).mono ?_; rintro e w9 ⟨u2, rfl, rfl⟩))))
          all_goals
            obtain ⟨V9, hV9⟩ : ∃ V, V = (V8.setCell ⟨g, 1, none⟩ (.string u2)).drew := ⟨_, rfl⟩
            have far : ∀ B i, B ≠ g → V9.cell? ⟨B, i, none⟩ = V8.cell? ⟨B, i, none⟩ := fun B i hB => by rw [hV9]; exact World.cell?_setCell_other _ _ _ _ (ne_block (fun e => hB e.symm))
            have q0 := (far S 0 (by omega)).trans q0
            have q1 := (far S 1 (by omega)).trans q1
            have q2 := (far S 2 (by omega)).trans q2
            have q3 := (far S 3 (by omega)).trans q3
            have q4 := (far S 4 (by omega)).trans q4
            have q5 := (far S 5 (by omega)).trans q5
            have q6 := (far S 6 (by omega)).trans q6
            have c6 := (far T 6 (by omega)).trans c6
            have hsV9 : V9.heap.size = V8.heap.size := by rw [hV9]; exact World.size_setCell _ _ _
            have hBV9 : Below w'.heap.size w' V9 := by rw [hV9]; exact (hBV8.setCell hwg _).drew
            rw [← hV9]
            clear hV9 far
            clear g1 fg1 hBV8
            have hT9 : T < V9.heap.size := by omega
            have hI : Hid (IpamIs V9 none mm ll) := Or.inl ⟨rfl, hmm.out, hll.out⟩
            go_wp2_with fail
            refine (zz_ipam t0 t1 m a3' a4' a5' s3.length s3.length s4.length s4.length s5.length s5.length none mm ll _ hI).mono ?_
            rintro e w10 ⟨rfl, hB10⟩
            go_wp2_with fail
            go_ret
            exact ⟨rfl, hBV9.trans (hB10.mono hBV9.size)⟩
end Go.Proofs.Qxb6600856aMods.net
