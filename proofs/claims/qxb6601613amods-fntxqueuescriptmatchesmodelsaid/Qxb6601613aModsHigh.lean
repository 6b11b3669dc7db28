/-
  highest, ZZHighest, highestOf (seat b6601613aM).
-/
import Derived.Test.Qxb6601613aModsCopy
namespace Go.Proofs.Qxb6601613aMods.q
open Go.ChangeShapes Go.WideShapes Go.ChangeAt Go.RowKit
set_option linter.unusedVariables false

/-- Each pointer of ps that is not nil leads to a number: v says which. -/
def PT (w : World) (v : Addr → Int) (ps : List (Option Addr)) : Prop :=
  ∀ a, some a ∈ ps → ∃ b o, a = ⟨b, o, none⟩ ∧ b < w.heap.size ∧ w.cell? ⟨b, o, none⟩ = some (.int .u64 (v a)) ∧ w.frozen? ⟨b, o, none⟩ = false

theorem PT.below {w w' : World} {v : Addr → Int} {ps : List (Option Addr)} (h : PT w v ps) (hb : Below w.heap.size w w') : PT w' v ps := fun a ha => by
  obtain ⟨b, o, h1, h2, h3, h4⟩ := h a ha
  exact ⟨b, o, h1, Nat.lt_of_lt_of_le h2 hb.size, (hb.cell (p := ⟨b, o, none⟩) h2).trans h3, (hb.frozen (p := ⟨b, o, none⟩) h2).trans h4⟩

/-- What 'high' is behind k rounds. -/
def BestTo (ps : List (Option Addr)) (v : Addr → Int) (k : Nat) (r : Option Addr) : Prop :=
  (r = none ∧ ∀ j, j < k → ps.getD j none = none) ∨
  ∃ g i, r = some g ∧ i < k ∧ ps.getD i none = some g ∧ (∀ j, j < k → ∀ a, ps.getD j none = some a → v a ≤ v g) ∧ ∀ j, j < i → ∀ a, ps.getD j none = some a → v a < v g

theorem best_zero (ps : List (Option Addr)) (v : Addr → Int) : BestTo ps v 0 none := Or.inl ⟨rfl, fun j hj => by omega⟩

theorem best_nil {ps : List (Option Addr)} {v : Addr → Int} {k : Nat} {r : Option Addr} (h : BestTo ps v k r) (hk : ps.getD k none = none) : BestTo ps v (k + 1) r := by
  rcases h with ⟨h1, h2⟩ | ⟨g, i, h1, h2, h3, h4, h5⟩
  · refine Or.inl ⟨h1, fun j hj => ?_⟩
    by_cases e : j = k
    · subst e; exact hk
    · exact h2 j (by omega)
  · refine Or.inr ⟨g, i, h1, by omega, h3, fun j hj a ha => ?_, h5⟩
    by_cases e : j = k
    · subst e; rw [hk] at ha; cases ha
    · exact h4 j (by omega) a ha

theorem best_first {ps : List (Option Addr)} {v : Addr → Int} {k : Nat} {a : Addr} (h : BestTo ps v k none) (hk : ps.getD k none = some a) : BestTo ps v (k + 1) (some a) := by
  rcases h with ⟨_, h2⟩ | ⟨g, i, h1, _⟩
  · refine Or.inr ⟨a, k, rfl, by omega, hk, fun j hj x hx => ?_, fun j hj x hx => ?_⟩
    · by_cases e : j = k
      · subst e; rw [hk] at hx; cases hx; exact Int.le_refl _
      · rw [h2 j (by omega)] at hx; cases hx
    · rw [h2 j hj] at hx; cases hx
  · cases h1

theorem best_more {ps : List (Option Addr)} {v : Addr → Int} {k : Nat} {a g : Addr} (h : BestTo ps v k (some g)) (hk : ps.getD k none = some a) (hlt : v g < v a) : BestTo ps v (k + 1) (some a) := by
  rcases h with ⟨h1, _⟩ | ⟨g', i, h1, h2, h3, h4, h5⟩
  · cases h1
  · cases h1
    refine Or.inr ⟨a, k, rfl, by omega, hk, fun j hj x hx => ?_, fun j hj x hx => ?_⟩
    · by_cases e : j = k
      · subst e; rw [hk] at hx; cases hx; exact Int.le_refl _
      · have := h4 j (by omega) x hx; omega
    · have := h4 j hj x hx; omega

theorem best_less {ps : List (Option Addr)} {v : Addr → Int} {k : Nat} {a g : Addr} (h : BestTo ps v k (some g)) (hk : ps.getD k none = some a) (hlt : ¬ v g < v a) : BestTo ps v (k + 1) (some g) := by
  rcases h with ⟨h1, _⟩ | ⟨g', i, h1, h2, h3, h4, h5⟩
  · cases h1
  · cases h1
    refine Or.inr ⟨g, i, rfl, by omega, h3, fun j hj x hx => ?_, h5⟩
    by_cases e : j = k
    · subst e; rw [hk] at hx; cases hx; omega
    · exact h4 j (by omega) x hx

theorem mem_of_getD {ps : List (Option Addr)} {j : Nat} {a : Addr} (h : ps.getD j none = some a) : some a ∈ ps := by
  by_cases hj : j < ps.length
  · have e : ps.getD j none = ps[j] := by simp [List.getD, hj]
    rw [e] at h
    rw [← h]; exact List.getElem_mem hj
  · have e : ps.getD j none = none := by simp [List.getD, List.getElem?_eq_none (Nat.le_of_not_lt hj)]
    rw [e] at h; cases h

theorem best_mem {ps : List (Option Addr)} {v : Addr → Int} {k : Nat} {g : Addr} (h : BestTo ps v k (some g)) : some g ∈ ps := by
  rcases h with ⟨h1, _⟩ | ⟨g', i, h1, _, h3, _⟩
  · cases h1
  · cases h1; exact mem_of_getD h3

set_option maxRecDepth 100000 in
set_option maxHeartbeats 1000000 in
theorem highest_any (P : Nat) (a : Option Addr) (c : Nat) (ps : List (Option Addr)) (v : Addr → Int) (w : World) (hn : ps.length ≤ 1048576) (hP : w.cell? ⟨P, 2, none⟩ = some (.slice a ps.length c)) (hS : Hid (Row Value.pointer none w a ps)) (hT : Hid (PT w v ps)) :
    Calls Trym.prog 27 #[.pointer (some ⟨P, 0, none⟩)] w fun e w' => ∃ r n, e = .returned (.pointer r) ∧ BestTo ps v ps.length r ∧ w' = w.drewN n := by
  go_enter Trym.func27, Trym.ntmps27
  go_wp2_with fail
  go_loopw [3, 11] (fun hi i wr => ∃ (k n : Nat) (r : Option Addr), k ≤ ps.length ∧ i = .int .i64 k ∧ hi = .pointer r ∧ Hid (BestTo ps v k r) ∧ wr = w.drewN n) (fun _ i _ => ps.length - (intOf i).toNat)
  case atStart => exact ⟨0, 0, none, Nat.zero_le _, rfl, rfl, best_zero ps v, rfl⟩
  case round =>
    obtain ⟨k, n, r, hk, rfl, rfl, HB, rfl⟩ := hrel
    clear hP
    by_cases hlt : k < ps.length
    · obtain ⟨b, off, rfl, hbl, hc⟩ := hS.out.some hlt
      have hck : (w.drewN n).cell? ⟨b, off + k, none⟩ = some (.pointer (ps.getD k none)) := hc k hlt
      clear hc
      obtain ⟨h, hh⟩ : ∃ h, h = ps.getD k none := ⟨_, rfl⟩
      rw [← hh] at hck
      have HH : Hid (ps.getD k none = h) := hh.symm
      clear hh
      obtain ⟨V, hV⟩ : ∃ V, V = w.drewN n := ⟨_, rfl⟩
      rw [← hV] at hck
      rw [← hV]
      have HV : Hid (V = w.drewN n) := hV
      clear hV
      cases h with
      | none =>
        go_wp2_with fail
        go_quiet (fail)
        go_wp2_with fail
        exact ⟨⟨k + 1, n + nq, r, by omega, by go_num, rfl, best_nil HB.out HH.out, by rw [HV.out, World.drewN_drewN]⟩, by simp [intOf]; omega⟩
      | some x =>
        obtain ⟨bx, ox, hx, hbx, hcx, _⟩ := hT.out x (mem_of_getD HH.out)
        cases r with
        | none =>
          subst hx
          go_wp2_with fail
          go_quiet (fail)
          go_wp2_with fail
          exact ⟨⟨k + 1, n + nq, _, by omega, by go_num, rfl, best_first HB.out HH.out, by rw [HV.out, World.drewN_drewN]⟩, by simp [intOf]; omega⟩
        | some g =>
          obtain ⟨bg, og, hg, hbg, hcg, _⟩ := hT.out g (best_mem HB.out)
          have hcx' : V.cell? ⟨bx, ox, none⟩ = some (.int .u64 (v x)) := by rw [HV.out]; exact hcx
          have hcg' : V.cell? ⟨bg, og, none⟩ = some (.int .u64 (v g)) := by rw [HV.out]; exact hcg
          clear hcx hcg
          by_cases hvv : v g < v x
          · have HN : Hid (BestTo ps v (k + 1) (some x)) := best_more HB.out HH.out hvv
            subst hx
            subst hg
            go_wp2_with fail
            refine wp_region_quiet_lit (by kernel_rfl) (by kernel_rfl) ?_
            repeat (first | go_big_quiet_step (fail) | quiet_step (fail))
            refine wpQuiet_nil ?_
            intro _ hw'
            obtain ⟨nq, hw''⟩ := hw'
            subst hw''
            go_wp2_with fail
            exact ⟨⟨k + 1, n + nq, _, by omega, by go_num, rfl, HN, by rw [HV.out, World.drewN_drewN]⟩, by simp [intOf]; omega⟩
          · have HN : Hid (BestTo ps v (k + 1) (some g)) := best_less HB.out HH.out hvv
            subst hx
            subst hg
            go_wp2_with fail
            refine wp_region_quiet_lit (by kernel_rfl) (by kernel_rfl) ?_
            repeat (first | go_big_quiet_step (fail) | quiet_step (fail))
            refine wpQuiet_nil ?_
            intro _ hw'
            obtain ⟨nq, hw''⟩ := hw'
            subst hw''
            go_wp2_with fail
            exact ⟨⟨k + 1, n + nq, _, by omega, by go_num, rfl, HN, by rw [HV.out, World.drewN_drewN]⟩, by simp [intOf]; omega⟩
    · have hkn : k = ps.length := by omega
      subst hkn
      go_wp2_with fail
      go_ret
      exact ⟨_, _, rfl, HB, rfl⟩
end Go.Proofs.Qxb6601613aMods.q
