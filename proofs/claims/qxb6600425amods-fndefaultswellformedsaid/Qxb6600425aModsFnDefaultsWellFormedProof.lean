/-
  THE PROOF OF 'Rows.FnDefaultsWellFormedSaid' (seat b6600425aM), over the walk of Qxb6600425aModsWellWalk.
-/
import Derived.Test.Qxb6600425aModsRows
import Derived.Test.Qxb6600425aModsWellWalk
import Derived.WalkKit
import Derived.ProofKit
import Derived.OpenShut
import Derived.ShutString
namespace Go.Proofs.Qxb6600425aMods.fnDefaultsWellFormed
open Go.ChangeShapes Go.WideShapes Go.ChangeAt Go.RowKit
open Go.ChangeMaps (open_string shut_string)
set_option linter.unusedVariables false      -- a walk need not use every 'w<i>' (that an integer argument fits its kind)

theorem own : ownKnob Trym.prog.godebug = none := by kernel_rfl

/-! ### THE ROW's STEP: WRITTEN OUT: LEAVE IT -/
set_option maxRecDepth 100000 in
theorem lifted (os : Os) (started : os.Started) (H : Type) (enc : TypeId × Value → H) :
    ReturnsInHanded {} Trym.checked os 6 .any (Rows.fnDefaultsWellFormedSpec.pre6 enc Trym.prog Trym.f6 Rows.fnDefaultsWellFormedRow.domain false) (Rows.fnDefaultsWellFormedSpec.post enc Trym.prog Trym.f6 false true false false) := by
  refine returnsInHanded_of_change (C := Trym.checked) own started (by kernel_rfl) Trym.func6
    (ChangeSpec.witness6 (enc := enc) (C := Trym.checked) false ⟨#[], #[], []⟩ 8 (by kernel_rfl) (by kernel_rfl) (by kernel_rfl) (by kernel_rfl)) ?_
  intro W base args ds gs before hval0 hW hcnd _
  have hval : ∀ (j : Nat) t v, Trym.f6.params[j]? = some t → args[j]? = some v → Value.okWide Trym.prog W .any base t v := hval0
  have hW' := hW
  obtain ⟨p, q, hA0, hV, rfl, hfz, hnd⟩ := hW
  have hA : DataW.TrodAll enc Trym.prog W 0 (fun _ => true) true Trym.f6.params.toList args.toList ds p := hA0
  rw [Trym.params6] at hA hval
  obtain ⟨rfl, rfl, rfl⟩ := trodAll_none hA
  obtain ⟨rfl, rfl⟩ := trodVars_none hV
  clear hA0 hval0
  simp only [List.append_nil] at hW'
  refine (well.walk W).mono fun e W' ⟨he, hg⟩ => ?_
  subst he
  exact ⟨_, rfl, post_of_same (pa := []) (pv := []) hW' (fun _ _ _ => (trodAll_cons_mk (shut_bool Trym.underlying4 _) trodAll_mk0)) (fun sp _ => rfl) (fun _ _ => rfl) rfl
    (hg.frame _) hg.2.1 (ok_one (by kernel_rfl) rfl (okWide_bool_mk Trym.underlying4 _))⟩

theorem over : Rows.fnDefaultsWellFormedRow.holds Trym.pinned (OpenSpec.ofChange Rows.fnDefaultsWellFormedSpec) :=
  OpenClaim.holds_of_wide 6 Trym.f6 rfl rfl rfl rfl rfl rfl rfl ⟨rfl, rfl, rfl, rfl, rfl⟩ rfl rfl rfl rfl rfl (by kernel_rfl) Trym.func6 (by kernel_rfl)
    (of_decide_eq_true (by kernel_rfl)) (by unfold Func.isWrapper; first | (rw [if_pos (by decide +kernel)]; kernel_rfl) | (rw [if_neg (by decide +kernel)]; exact ⟨rfl, rfl⟩))
    (fun os started H enc _ => lifted os started H enc)

/-- ████ THE STATEMENT ████ -/
theorem proved : Rows.FnDefaultsWellFormedSaid :=
  over
#print axioms proved
end Go.Proofs.Qxb6600425aMods.fnDefaultsWellFormed
