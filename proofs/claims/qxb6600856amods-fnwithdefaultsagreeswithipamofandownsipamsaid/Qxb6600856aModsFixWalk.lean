/-
  The walk of FnIpamOfFixedPoint (seat b6600856aM).
-/
import Derived.Test.Qxb6600856aModsIpam
namespace Go.Proofs.Qxb6600856aMods.net
open Go.ChangeShapes Go.WideShapes Go.ChangeAt Go.RowKit
set_option linter.unusedVariables false

theorem modeOf_ne (md : ByteArray) : ¬ modeOf md = noB := by
  unfold modeOf
  split
  · decide
  · assumption
theorem modeOf_modeOf (md : ByteArray) : modeOf (modeOf md) = modeOf md := by
  show (if modeOf md = noB then enB else modeOf md) = modeOf md
  rw [if_neg (modeOf_ne md)]
theorem modeOf_no : modeOf noB = enB := by unfold modeOf; rw [if_pos rfl]
theorem size_pos (s : ByteArray) (h : ¬ s = noB) : 0 < s.size := by
  rcases Nat.eq_zero_or_pos s.size with h0 | h0
  · exfalso; apply h
    cases s with | mk d =>
    unfold noB
    congr 1
    exact Array.eq_empty_of_size_eq_zero h0
  · exact h0

theorem zz_is (t r : ByteArray) (m : Int) (a3 a4 a5 : Option Addr) (l3 c3 l4 c4 l5 c5 : Nat) (b : Nat) (md lf mm : ByteArray) (hm : Hid (modeOf md = mm)) (w : World) (h0 : w.cell? ⟨b, 0, none⟩ = some (.string md)) (h1 : w.cell? ⟨b, 1, none⟩ = some (.string lf)) (hb : b < w.heap.size) :
    Calls Trym.prog 13 #[.agg #[.string t, .string r, .int .i32 m, .slice a3 l3 c3, .slice a4 l4 c4, .slice a5 l5 c5, .pointer (some ⟨b, 0, none⟩)]] w fun e w' => e = .returned (.tuple #[.string mm, .string lf]) ∧ Below w.heap.size w w' := by
  have h := hm.out
  subst h
  exact zz_some t r m a3 a4 a5 l3 c3 l4 c4 l5 c5 b md lf w h0 h1 hb

set_option maxRecDepth 100000 in
set_option maxHeartbeats 1000000 in
theorem fix_true (md lf : ByteArray) (w : World) (h1 : md.size ≤ maxLen) (h2 : lf.size ≤ maxLen) :
    Calls Trym.prog 5 #[.bool true, .string md, .string lf] w fun e w' => e = .returned (.bool true) ∧ Below w.heap.size w w' := by
  obtain ⟨mm, hmm⟩ : ∃ mm, Hid (modeOf md = mm) := ⟨_, rfl⟩
  have hne : Hid (¬ mm = noB) := by show ¬ mm = noB; rw [← hmm.out]; exact modeOf_ne md
  have hid : Hid (modeOf mm = mm) := by show _ = _; rw [← hmm.out]; exact modeOf_modeOf md
  have hp := size_pos mm hne.out
  have hpb : ((mm.size : Int) == 0) = false := beq_eq_false_iff_ne.2 (by omega)
  go_enter Trym.func5, Trym.ntmps5
  go_wp2_with fail
  refine (zz15 true md lf _ h1 h2).mono ?_
  rintro e w' ⟨⟨r, rfl⟩, rfl⟩
  cases r with
  | false =>
    go_wp2_with fail
    go_ret
    exact ⟨rfl, Below.refl _ _⟩
  | true =>
    go_wp2_with fail
    any_goals (go_ret; exact ⟨rfl, Below.refl _ _⟩)
    obtain ⟨W, hW⟩ : ∃ W, W = (w'.alloc (.cells #[.string ⟨#[]⟩, .string ⟨#[]⟩, .int .i32 0, .slice none 0 0, .slice none 0 0, .slice none 0 0, .pointer (some ⟨w'.heap.size + 1, 0, none⟩)] 30)).alloc (.cells #[.string md, .string lf] 39) := ⟨_, rfl⟩
    have k0 : W.cell? ⟨w'.heap.size + 1, 0, none⟩ = some (.string md) := by rw [hW, World.cell?_alloc_at _ _ _ _ (by simp)]; rfl
    have k1 : W.cell? ⟨w'.heap.size + 1, 1, none⟩ = some (.string lf) := by rw [hW, World.cell?_alloc_at _ _ _ _ (by simp)]; rfl
    have kl : w'.heap.size + 1 < W.heap.size := by rw [hW]; simp
    have hB : Below w'.heap.size w' W := by rw [hW]; exact Below.alloc (Below.alloc (Below.refl _ _) (Nat.le_refl _) _) (by simp) _
    rw [← hW]
    clear hW
    refine (zz_is ⟨#[]⟩ ⟨#[]⟩ 0 none none none 0 0 0 0 0 0 (w'.heap.size + 1) md lf mm hmm _ k0 k1 kl).mono ?_
    rintro e w1 ⟨rfl, hB1⟩
    have hBw := hB.trans (hB1.mono hB.size)
    clear hB hB1 k0 k1 kl hmm
    go_wp2_with fail
    have k0 : (w1.alloc (.cells #[.string mm, .string lf] 39)).cell? ⟨w1.heap.size, 0, none⟩ = some (.string mm) := by rw [World.cell?_alloc_at _ _ _ _ rfl]; rfl
    have k1 : (w1.alloc (.cells #[.string mm, .string lf] 39)).cell? ⟨w1.heap.size, 1, none⟩ = some (.string lf) := by rw [World.cell?_alloc_at _ _ _ _ rfl]; rfl
    have hB : Below w'.heap.size w' (w1.alloc (.cells #[.string mm, .string lf] 39)) := hBw.alloc hBw.size _
    refine (zz_is ⟨#[]⟩ ⟨#[]⟩ 0 none none none 0 0 0 0 0 0 w1.heap.size mm lf mm hid _ k0 k1 (by simp)).mono ?_
    rintro e w2 ⟨rfl, hB2⟩
    have hBw2 := hB.trans (hB2.mono hB.size)
    clear hB hB2 k0 k1 hBw
    go_wp2_with fail
    have k0 : (w2.alloc (.cells #[.string ⟨#[]⟩, .string lf] 39)).cell? ⟨w2.heap.size, 0, none⟩ = some (.string ⟨#[]⟩) := by rw [World.cell?_alloc_at _ _ _ _ rfl]; rfl
    have k1 : (w2.alloc (.cells #[.string ⟨#[]⟩, .string lf] 39)).cell? ⟨w2.heap.size, 1, none⟩ = some (.string lf) := by rw [World.cell?_alloc_at _ _ _ _ rfl]; rfl
    have hB : Below w'.heap.size w' (w2.alloc (.cells #[.string ⟨#[]⟩, .string lf] 39)) := hBw2.alloc hBw2.size _
    refine (zz_is ⟨#[]⟩ ⟨#[]⟩ 0 none none none 0 0 0 0 0 0 w2.heap.size ⟨#[]⟩ lf enB modeOf_no _ k0 k1 (by simp)).mono ?_
    rintro e w3 ⟨rfl, hB3⟩
    have hBw3 := hB.trans (hB3.mono hB.size)
    clear hB hB3 k0 k1 hBw2
    go_wp2_with fail
    refine (zz_nil ⟨#[]⟩ ⟨#[]⟩ 0 none none none 0 0 0 0 0 0 _).mono ?_
    rintro e w4 ⟨rfl, hB4⟩
    have hBw4 := hBw3.trans (hB4.mono hBw3.size)
    clear hB4 hBw3
    go_wp2_with fail
    go_ret
    exact ⟨rfl, hBw4⟩

set_option maxRecDepth 100000 in
set_option maxHeartbeats 1000000 in
theorem fix_false (md lf : ByteArray) (w : World) (h1 : md.size ≤ maxLen) (h2 : lf.size ≤ maxLen) :
    Calls Trym.prog 5 #[.bool false, .string md, .string lf] w fun e w' => e = .returned (.bool true) ∧ Below w.heap.size w w' := by
  have hid : Hid (modeOf enB = enB) := by show _ = _; decide
  go_enter Trym.func5, Trym.ntmps5
  go_wp2_with fail
  refine (zz15 false md lf _ h1 h2).mono ?_
  rintro e w' ⟨⟨r, rfl⟩, rfl⟩
  cases r with
  | false =>
    go_wp2_with fail
    go_ret
    exact ⟨rfl, Below.refl _ _⟩
  | true =>
    go_wp2_with fail
    any_goals (go_ret; exact ⟨rfl, Below.refl _ _⟩)
    have hB : Below w'.heap.size w' (w'.alloc (.cells #[.string ⟨#[]⟩, .string ⟨#[]⟩, .int .i32 0, .slice none 0 0, .slice none 0 0, .slice none 0 0, .pointer none] 30)) := Below.alloc (Below.refl _ _) (Nat.le_refl _) _
    refine (zz_nil ⟨#[]⟩ ⟨#[]⟩ 0 none none none 0 0 0 0 0 0 _).mono ?_
    rintro e w1 ⟨rfl, hB1⟩
    have hBw := hB.trans (hB1.mono hB.size)
    clear hB hB1
    go_wp2_with fail
    have k0 : (w1.alloc (.cells #[.string enB, .string noB] 39)).cell? ⟨w1.heap.size, 0, none⟩ = some (.string enB) := by rw [World.cell?_alloc_at _ _ _ _ rfl]; rfl
    have k1 : (w1.alloc (.cells #[.string enB, .string noB] 39)).cell? ⟨w1.heap.size, 1, none⟩ = some (.string noB) := by rw [World.cell?_alloc_at _ _ _ _ rfl]; rfl
    have hB : Below w'.heap.size w' (w1.alloc (.cells #[.string enB, .string noB] 39)) := hBw.alloc hBw.size _
    refine (zz_is ⟨#[]⟩ ⟨#[]⟩ 0 none none none 0 0 0 0 0 0 w1.heap.size enB noB enB hid _ k0 k1 (by simp)).mono ?_
    rintro e w2 ⟨rfl, hB2⟩
    have hBw2 := hB.trans (hB2.mono hB.size)
    clear hB hB2 k0 k1 hBw
    go_wp2_with fail
    have k0 : (w2.alloc (.cells #[.string ⟨#[]⟩, .string lf] 39)).cell? ⟨w2.heap.size, 0, none⟩ = some (.string ⟨#[]⟩) := by rw [World.cell?_alloc_at _ _ _ _ rfl]; rfl
    have k1 : (w2.alloc (.cells #[.string ⟨#[]⟩, .string lf] 39)).cell? ⟨w2.heap.size, 1, none⟩ = some (.string lf) := by rw [World.cell?_alloc_at _ _ _ _ rfl]; rfl
    have hB : Below w'.heap.size w' (w2.alloc (.cells #[.string ⟨#[]⟩, .string lf] 39)) := hBw2.alloc hBw2.size _
    refine (zz_is ⟨#[]⟩ ⟨#[]⟩ 0 none none none 0 0 0 0 0 0 w2.heap.size ⟨#[]⟩ lf enB modeOf_no _ k0 k1 (by simp)).mono ?_
    rintro e w3 ⟨rfl, hB3⟩
    have hBw3 := hB.trans (hB3.mono hB.size)
    clear hB hB3 k0 k1 hBw2
    go_wp2_with fail
    refine (zz_nil ⟨#[]⟩ ⟨#[]⟩ 0 none none none 0 0 0 0 0 0 _).mono ?_
    rintro e w4 ⟨rfl, hB4⟩
    have hBw4 := hBw3.trans (hB4.mono hBw3.size)
    clear hB4 hBw3
    go_wp2_with fail
    go_ret
    exact ⟨rfl, hBw4⟩

theorem fix_any (x : Bool) (md lf : ByteArray) (w : World) (h1 : md.size ≤ maxLen) (h2 : lf.size ≤ maxLen) :
    Calls Trym.prog 5 #[.bool x, .string md, .string lf] w fun e w' => e = .returned (.bool true) ∧ Below w.heap.size w w' := by
  cases x
  · exact fix_false md lf w h1 h2
  · exact fix_true md lf w h1 h2
end Go.Proofs.Qxb6600856aMods.net
