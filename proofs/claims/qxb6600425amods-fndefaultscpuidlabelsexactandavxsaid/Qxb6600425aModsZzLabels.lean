/-
  cpuidLabels where the feature is absent; ZZCpuidLabels (seat b6600425aM).
-/
import Derived.Test.Qxb6600425aModsCpuid
namespace Go.Proofs.Qxb6600425aMods.words
open Go.ChangeShapes Go.WideShapes Go.ChangeAt Go.RowKit Go.Maps Go.WideMaps
set_option linter.unusedVariables false

set_option maxRecDepth 100000 in
set_option maxHeartbeats 1000000 in
theorem labels_lacks (a1 a2 o3 o4 o5 : Option Addr) (l1 c1 l2 c2 l3 k3 l4 k4 l5 k5 : Nat) (v : Value) (nm : ByteArray) (w : World) (hnm : nm.size ≤ maxLen) (hH : SetLacks w v nm) :
    Calls Trym.prog 30 #[.agg #[.slice a1 l1 c1, .slice a2 l2 c2, .slice o3 l3 k3, .slice o4 l4 k4, .slice o5 l5 k5], v, .string nm] w fun e w' => ∃ L, e = .returned (.map (some L)) ∧ w'.ownsMap Trym.prog 9 (plainElem (H := Unit) Trym.prog 9) L 0 (.map []) ∧ Below w.heap.size w w' := by
  obtain ⟨F, nF, D, rfl, hF, hat⟩ := hH
  have hmm := @run_makeMap Trym.prog
  have hkey := key_ok hnm
  obtain ⟨v, ps, hrun, hv⟩ := (((hF.alloc (.cells #[.slice a1 l1 c1, .slice a2 l2 c2, .slice o3 l3 k3, .slice o4 l4 k4, .slice o5 l5 k5] 27)).alloc (.cells #[.map none, .map (some F), .map none] 34)).alloc (.map #[] 0)).lookup law9 Trym.underlying31 (zero51 _) flagElem_zero hkey
  rw [hat] at hv
  have hv' := flagElem_zero_inv hv
  subst hv'
  clear hv hat
  have hfd := field51
  have hrg := run_range_nilMap (P := Trym.prog) (((w.alloc (.cells #[.slice a1 l1 c1, .slice a2 l2 c2, .slice o3 l3 k3, .slice o4 l4 k4, .slice o5 l5 k5] 27)).alloc (.cells #[.map none, .map (some F), .map none] 34)).alloc (.map #[] 0)) 48 9 52 Trym.underlying48
  have hnx : ∀ ty, (Instr.next (.pointer (some ⟨(((w.alloc (.cells #[.slice a1 l1 c1, .slice a2 l2 c2, .slice o3 l3 k3, .slice o4 l4 k4, .slice o5 l5 k5] 27)).alloc (.cells #[.map none, .map (some F), .map none] 34)).alloc (.map #[] 0)).heap.size, 0, none⟩)) false ty).run Trym.prog ((((w.alloc (.cells #[.slice a1 l1 c1, .slice a2 l2 c2, .slice o3 l3 k3, .slice o4 l4 k4, .slice o5 l5 k5] 27)).alloc (.cells #[.map none, .map (some F), .map none] 34)).alloc (.map #[] 0)).alloc (.mapIter none 0 #[] 0)) = _ := fun ty => run_next_nilMap _ ty 0 0 #[]
  have e1 : (((w.alloc (.cells #[.slice a1 l1 c1, .slice a2 l2 c2, .slice o3 l3 k3, .slice o4 l4 k4, .slice o5 l5 k5] 27)).alloc (.cells #[.map none, .map (some F), .map none] 34)).alloc (.map #[] 0)).heap.size = w.heap.size + 1 + 1 + 1 := by simp
  rw [e1] at hrg hnx
  clear e1
  go_enter Trym.func30, Trym.ntmps30
  go_wp2
  refine wp_loop_rounds 1 ?_
  rw [rounds_succ]
  go_wp2
  go_ret
  refine ⟨_, rfl, ?_, ?_⟩
  · have h := (World.ownsMap_made ((w.alloc (.cells #[.slice a1 l1 c1, .slice a2 l2 c2, .slice o3 l3 k3, .slice o4 l4 k4, .slice o5 l5 k5] 27)).alloc (.cells #[.map none, .map (some F), .map none] 34)) Trym.prog 9 (plainElem (H := Unit) Trym.prog 9)).alloc (.mapIter none 0 #[] 0)
    simp only [size_alloc] at h
    exact h
  · exact Below.alloc (Below.alloc (Below.alloc (Below.alloc (Below.refl _ _) (Nat.le_refl _) _) (by simp) _) (by simp; omega) _) (by simp; omega) _

set_option maxRecDepth 100000 in
theorem zz_has (a1 a2 o3 o4 o5 : Option Addr) (c1 c2 l3 k3 l4 k4 l5 k5 : Nat) (un la : List ByteArray) (v : Value) (nm : ByteArray) (S : DataW Unit) (w : World) (hu : un.length ≤ 4096) (hl : la.length ≤ 4096) (hnm : nm.size ≤ maxLen)
    (hU : Hid (Strs w a1 un)) (hL : Hid (Strs w a2 la)) (hH : SetHas w v nm S) :
    Calls Trym.prog 12 #[.agg #[.slice a1 un.length c1, .slice a2 la.length c2, .slice o3 l3 k3, .slice o4 l4 k4, .slice o5 l5 k5], v, .string nm] w fun e w' => ∃ L, e = .returned (.map (some L)) ∧ Labels w' L S (modL un la) ∧ Below w.heap.size w w' := by
  obtain ⟨F, hvF⟩ : ∃ F, v = .agg #[.map none, .map (some F), .map none] := by obtain ⟨F, _, _, _, _, h, _⟩ := hH; exact ⟨F, h⟩
  subst hvF
  have hH' : Hid (SetHas w (.agg #[.map none, .map (some F), .map none]) nm S) := hH
  clear hH
  go_enter Trym.func12, Trym.ntmps12
  go_wp2_with fail
  have hB0 : Below w.heap.size w (boxed w #[.slice a1 un.length c1, .slice a2 la.length c2, .slice o3 l3 k3, .slice o4 l4 k4, .slice o5 l5 k5] F) := boxed_below _ _ _
  refine (labels_has a1 a2 o3 o4 o5 c1 c2 l3 k3 l4 k4 l5 k5 un la _ nm S _ hu hl hnm (hU.out.below hB0) (hL.out.below hB0) (hH'.out.below hB0)).mono ?_
  rintro e w' ⟨L, rfl, hLab, hb⟩
  go_wp2_with fail
  go_ret
  exact ⟨_, rfl, hLab, hB0.trans (hb.mono hB0.size)⟩

set_option maxRecDepth 100000 in
theorem zz_lacks (a1 a2 o3 o4 o5 : Option Addr) (l1 c1 l2 c2 l3 k3 l4 k4 l5 k5 : Nat) (v : Value) (nm : ByteArray) (w : World) (hnm : nm.size ≤ maxLen) (hH : SetLacks w v nm) :
    Calls Trym.prog 12 #[.agg #[.slice a1 l1 c1, .slice a2 l2 c2, .slice o3 l3 k3, .slice o4 l4 k4, .slice o5 l5 k5], v, .string nm] w fun e w' => ∃ L, e = .returned (.map (some L)) ∧ w'.ownsMap Trym.prog 9 (plainElem (H := Unit) Trym.prog 9) L 0 (.map []) ∧ Below w.heap.size w w' := by
  obtain ⟨F, hvF⟩ : ∃ F, v = .agg #[.map none, .map (some F), .map none] := by obtain ⟨F, _, _, h, _⟩ := hH; exact ⟨F, h⟩
  subst hvF
  have hH' : Hid (SetLacks w (.agg #[.map none, .map (some F), .map none]) nm) := hH
  clear hH
  go_enter Trym.func12, Trym.ntmps12
  go_wp2_with fail
  have hB0 : Below w.heap.size w (boxed w #[.slice a1 l1 c1, .slice a2 l2 c2, .slice o3 l3 k3, .slice o4 l4 k4, .slice o5 l5 k5] F) := boxed_below _ _ _
  refine (labels_lacks a1 a2 o3 o4 o5 l1 c1 l2 c2 l3 k3 l4 k4 l5 k5 _ nm _ hnm (hH'.out.below hB0)).mono ?_
  rintro e w' ⟨L, rfl, hLab, hb⟩
  go_wp2_with fail
  go_ret
  exact ⟨_, rfl, hLab, hB0.trans (hb.mono hB0.size)⟩
end Go.Proofs.Qxb6600425aMods.words
