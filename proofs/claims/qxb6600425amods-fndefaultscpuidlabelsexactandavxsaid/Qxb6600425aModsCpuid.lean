/-
  The contract of cpuidLabels and ZZCpuidLabels (seat b6600425aM).
-/
import Derived.Test.Qxb6600425aModsSets
import Derived.Maps.RangeWalk
import Derived.Maps.Ext
namespace Go.Proofs.Qxb6600425aMods.words
open Go.ChangeShapes Go.WideShapes Go.ChangeAt Go.RowKit Go.Maps Go.WideMaps
set_option linter.unusedVariables false

def trueB : ByteArray := ⟨#[116, 114, 117, 101]⟩
def trueD : DataW Unit := .lit (.string [116, 114, 117, 101])

/-- D holds, at "true", just those keys of S that are no longer to come and that m takes. -/
structure Got (D S : DataW Unit) (left m : Lit → Bool) : Prop where
  has : ∀ k, Maps.has D k = (Maps.has S k && !left k && m k)
  val : ∀ k z, Maps.has D k = true → D.atKey k z = trueD
  sub : ∀ k, left k = true → Maps.has S k = true

theorem got_start (S : DataW Unit) (m : Lit → Bool) : Got (.map []) S (Maps.has S) m :=
  ⟨fun k => (by cases Maps.has S k <;> rfl), fun k z h => (by cases h), fun k h => h⟩

theorem got_put {D S : DataW Unit} {left m : Lit → Bool} {kl : Lit} (h : Got D S left m) (hD : IsMap D) (hk : WideAt.IsKeyLit kl) (hl : left kl = true) (hm : m kl = true) : Got (D.put kl trueD) S (fun z => left z && !z.sameKey kl) m := by
  refine ⟨fun k => ?_, fun k z hh => ?_, fun k hh => ?_⟩
  · by_cases e : k = kl
    · subst e
      rw [has_put_same hD hk, h.sub _ hl, hm, hl]
      simp [WideAt.sameKey_self hk]
    · rw [has_put_other e, h.has k]
      simp [sameKey_ne e]
  · by_cases e : k = kl
    · subst e; exact atKey_put_same hD hk _ _
    · rw [has_put_other e] at hh
      rw [atKey_put_other e]
      exact h.val k z hh
  · simp at hh
    exact h.sub k hh.1

theorem got_skip {D S : DataW Unit} {left m : Lit → Bool} {kl : Lit} (h : Got D S left m) (hk : WideAt.IsKeyLit kl) (hm : m kl = false) : Got D S (fun z => left z && !z.sameKey kl) m := by
  refine ⟨fun k => ?_, h.val, fun k hh => ?_⟩
  · by_cases e : k = kl
    · subst e
      rw [h.has k, hm]; simp
    · rw [h.has k]
      simp [sameKey_ne e]
  · simp at hh
    exact h.sub k hh.1

/-- The settings' rule on keys. -/
def modL (un la : List ByteArray) : Lit → Bool
  | .string l => modelB un la ⟨l.toArray⟩
  | _ => false
theorem modL_litS (un la : List ByteArray) (s : ByteArray) : modL un la (litS s) = modelB un la s := rfl

theorem zero51 (w : World) : (zeroValue 51).run Trym.prog w = .ok (.agg #[.map none]) w := by kernel_rfl

/-- What cpuidLabels hands back. -/
def Labels (w : World) (L : Nat) (S : DataW Unit) (m : Lit → Bool) : Prop :=
  ∃ (n : Nat) (D : DataW Unit), w.ownsMap Trym.prog 9 (plainElem (H := Unit) Trym.prog 9) L n D ∧ n ≤ 4096 ∧ (∀ k, Maps.has D k = (Maps.has S k && m k)) ∧ ∀ k z, Maps.has D k = true → D.atKey k z = trueD

theorem Labels.below {w w' : World} {L : Nat} {S : DataW Unit} {m : Lit → Bool} (h : Labels w L S m) (hb : Below w.heap.size w w') : Labels w' L S m := by
  obtain ⟨n, D, h1, h2⟩ := h
  exact ⟨n, D, owns_below h1 hb h1.lt, h2⟩

theorem invK (key : Value) (kl : Lit) (h : keyOf Trym.prog 9 key = some kl) : ∃ x : ByteArray, key = Value.string x := by
  obtain ⟨s, h1, _, _⟩ := string_of_keyOf Trym.underlying9 h
  exact ⟨s, h1⟩
theorem invV (v : Value) (y : DataW Unit × List MemPlace) (h : unitElem v = some y) : ∃ c : Unit, v = (fun _ => Value.agg #[]) c := ⟨(), (unitElem_inv h).1⟩
theorem key_lit {x : ByteArray} {kl : Lit} (h : keyOf Trym.prog 9 (.string x) = some kl) : kl = litS x ∧ x.size ≤ maxLen := by
  obtain ⟨s, h1, h2, h3⟩ := string_of_keyOf Trym.underlying9 h
  cases h1
  exact ⟨h2, h3⟩

theorem field51 (b : Option Nat) (w : World) : (Instr.field 51 (.agg #[.map b]) 0).run Trym.prog w = .ok (.map b) w := by kernel_rfl

theorem trueElem : plainElem (H := Unit) Trym.prog 9 (.string ⟨#[116, 114, 117, 101]⟩) = some (trueD, []) := plainElem_string (s := ⟨#[116, 114, 117, 101]⟩) Trym.underlying9 (by decide)

/-- The world that cpuidLabels has laid ahead of its loop. -/
def boxed (w : World) (xs : Array Value) (F : Nat) : World := (w.alloc (.cells xs 27)).alloc (.cells #[.map none, .map (some F), .map none] 34)

theorem boxed_size (w : World) (xs : Array Value) (F : Nat) : (boxed w xs F).heap.size = w.heap.size + 2 := by
  unfold boxed; simp only [size_alloc]
theorem boxed_below (w : World) (xs : Array Value) (F : Nat) : Below w.heap.size w (boxed w xs F) :=
  Below.alloc (Below.alloc (Below.refl _ _) (Nat.le_refl _) _) (by simp) _
theorem boxed_cell (w : World) (xs : Array Value) (F j : Nat) : (boxed w xs F).cell? ⟨w.heap.size, j, none⟩ = xs[j]? := by
  unfold boxed
  rw [World.cell?_alloc_past _ _ _ (by simp), World.cell?_alloc_at _ _ _ _ rfl]

set_option maxRecDepth 100000 in
set_option maxHeartbeats 1000000 in
theorem labels_has (a1 a2 o3 o4 o5 : Option Addr) (c1 c2 l3 k3 l4 k4 l5 k5 : Nat) (un la : List ByteArray) (v : Value) (nm : ByteArray) (S : DataW Unit) (w : World) (hu : un.length ≤ 4096) (hl : la.length ≤ 4096) (hnm : nm.size ≤ maxLen)
    (hU : Hid (Strs w a1 un)) (hL : Hid (Strs w a2 la)) (hH : SetHas w v nm S) :
    Calls Trym.prog 30 #[.agg #[.slice a1 un.length c1, .slice a2 la.length c2, .slice o3 l3 k3, .slice o4 l4 k4, .slice o5 l5 k5], v, .string nm] w fun e w' => ∃ L, e = .returned (.map (some L)) ∧ Labels w' L S (modL un la) ∧ Below w.heap.size w w' := by
  obtain ⟨F, E, nF, nE, D, rfl, hF, hat, hnE, hE⟩ := hH
  have hmm := @run_makeMap Trym.prog
  have hkey := key_ok hnm
  have hElt := hE.lt
  have hSz := hE.size_le
  obtain ⟨v, ps, hrun, hv⟩ := (((hF.alloc (.cells #[.slice a1 un.length c1, .slice a2 la.length c2, .slice o3 l3 k3, .slice o4 l4 k4, .slice o5 l5 k5] 27)).alloc (.cells #[.map none, .map (some F), .map none] 34)).alloc (.map #[] 0)).lookup law9 Trym.underlying31 (zero51 _) flagElem_zero hkey
  rw [hat] at hv
  have hv' := flagElem_inv hv
  subst hv'
  clear hv hat
  have hfd := field51
  go_enter Trym.func30, Trym.ntmps30
  go_wp2_with (first | (at_range; refine wpList_range_own _ rfl _ 48 rfl 9 52 law9 Trym.underlying48 _ E nE _ rfl (((hE.alloc _).alloc _).alloc _) ?_))
  intro w0 hrg0 hg0 hs0
  have hB0 : Below (w.heap.size + 2) (boxed w #[.slice a1 un.length c1, .slice a2 la.length c2, .slice o3 l3 k3, .slice o4 l4 k4, .slice o5 l5 k5] F) w0 :=
    Below.grown (Below.alloc (Below.refl _ _) (by rw [boxed_size]; exact Nat.le_refl _) (.map #[] 0)) hg0 (by rw [size_alloc, boxed_size]; omega) (fun j hj => by cases hj)
  have hlab0 : w0.ownsMap Trym.prog 9 (plainElem (H := Unit) Trym.prog 9) (w.heap.size + 1 + 1) 0 (.map []) := by
    have h := (World.ownsMap_made (boxed w #[.slice a1 un.length c1, .slice a2 la.length c2, .slice o3 l3 k3, .slice o4 l4 k4, .slice o5 l5 k5] F) Trym.prog 9 (plainElem (H := Unit) Trym.prog 9)).kept hg0 (by simp)
    rw [boxed_size] at h
    exact h
  have bc := fun j => boxed_cell w #[.slice a1 un.length c1, .slice a2 la.length c2, .slice o3 l3 k3, .slice o4 l4 k4, .slice o5 l5 k5] F j
  have bb := boxed_below w #[.slice a1 un.length c1, .slice a2 la.length c2, .slice o3 l3 k3, .slice o4 l4 k4, .slice o5 l5 k5] F
  have bs := boxed_size w #[.slice a1 un.length c1, .slice a2 la.length c2, .slice o3 l3 k3, .slice o4 l4 k4, .slice o5 l5 k5] F
  generalize boxed w #[.slice a1 un.length c1, .slice a2 la.length c2, .slice o3 l3 k3, .slice o4 l4 k4, .slice o5 l5 k5] F = W1 at hB0 bc bb bs
  have b0 : W1.cell? ⟨w.heap.size, 0, none⟩ = some (.slice a1 un.length c1) := bc 0
  have b1 : W1.cell? ⟨w.heap.size, 1, none⟩ = some (.slice a2 la.length c2) := bc 1
  clear bc hrun hF hmm hfd hkey hg0
  go_wp2_with fail
  go_loopw [8] (fun _ wr => ∃ (left : Lit → Bool) (cnt : Nat) (Dout : DataW Unit), wr.ranges Trym.prog 9 unitElem E (w.heap.size + 1 + 1 + 1) nE S left cnt ∧ cnt ≤ size S ∧
      wr.ownsMap Trym.prog 9 (plainElem (H := Unit) Trym.prog 9) (w.heap.size + 1 + 1) (size S - cnt) Dout ∧ Got Dout S left (modL un la) ∧ Below (w.heap.size + 2) W1 wr)
    (fun _ wr => wr.rangeLeft E (w.heap.size + 1 + 1 + 1))
  case atStart => exact ⟨_, _, .map [], hrg0, Nat.le_refl _, hlab0.mono (Nat.zero_le _), got_start S _, hB0⟩
  case round =>
    clear hrg0 hs0 hB0 hlab0
    obtain ⟨left, cnt, Dout, hrg, hcs, hout, hG, hnx⟩ := hrel
    have HG : Hid (Got Dout S left (modL un la)) := hG
    clear hG
    go_wp2_with (first | (at_next; refine wpList_next_ranges _ rfl _ rfl 9 law9 unitElem (fun x : ByteArray => Value.string x) (fun _ : Unit => Value.agg #[]) invK invV E (w.heap.size + 1 + 1 + 1) nE _ _ _ rfl hrg ?_ ?_))
    · intro hc0 hl0
      go_wp2
      go_ret
      refine ⟨_, rfl, ⟨_, Dout, hout, by omega, fun k => ?_, HG.out.val⟩, bb.trans (hnx.mono (by omega))⟩
      rw [HG.out.has k, hl0 k]; simp
    · intro x _ kl y w1 cnt1 hkx hlx _ _ hrg1 hlt hg1 hs1 hen
      obtain ⟨hkl, hxs⟩ := key_lit hkx
      subst hkl
      have hout1 := hout.kept hg1 (by simp)
      have hnx1 : Below (w.heap.size + 2) W1 w1 := hnx.grown hg1 (by have := hnx.size; omega) (fun j hj => by cases hj; omega)
      have d0 : w1.cell? ⟨w.heap.size, 0, none⟩ = some (.slice a1 un.length c1) := (hnx1.cell (p := ⟨w.heap.size, 0, none⟩) (by show w.heap.size < _; omega)).trans b0
      have d1 : w1.cell? ⟨w.heap.size, 1, none⟩ = some (.slice a2 la.length c2) := (hnx1.cell (p := ⟨w.heap.size, 1, none⟩) (by show w.heap.size < _; omega)).trans b1
      have hwb : Below w.heap.size w w1 := bb.trans (hnx1.mono (by omega))
      have hU1 : Hid (Strs w1 a1 un) := hU.out.below hwb
      have hL1 : Hid (Strs w1 a2 la) := hL.out.below hwb
      obtain ⟨q1, hq1⟩ : ∃ q, Hid (hasB un x = q) := ⟨_, rfl⟩
      obtain ⟨q2, hq2⟩ : ∃ q, Hid (hasB la x = q) := ⟨_, rfl⟩
      have hlx' : Hid (left (litS x) = true) := hlx
      clear b0 b1 hU hL hwb hlx
      by_cases hla : 0 < la.length
      · cases q2 with
        | true =>
          have HM : Hid (modL un la (litS x) = true) := by show _ = _; rw [modL_litS]; unfold modelB; rw [if_pos hla]; exact hq2
          go_wp2_with fail
          refine (contains_any a1 c1 un x _ (by unfold maxLen; omega) q1 hq1 hU1).mono ?_
          rintro e w' ⟨rfl, rfl⟩
          go_wp2_with fail
          refine (contains_any a2 c2 la x _ (by unfold maxLen; omega) true hq2 hL1).mono ?_
          rintro e w' ⟨rfl, rfl⟩
          go_wp2_with (first | (at_mapUpdate; refine wpList_mapUpdate_own _ rfl _ _ _ 28 rfl 9 9 law9 Trym.underlying28 (plainElem (H := Unit) Trym.prog 9) (w.heap.size + 1 + 1) _ _ rfl hout1 (by unfold maxLen; omega) _ _ _ rfl rfl hkx trueD [] trueElem ?_))
          intro w2 hout2 hg2
          have hrg2 := hrg1.kept hg2 (fun e => by have := Option.some.inj e; omega) (fun e => by have := Option.some.inj e; omega)
          have hnx2 : Below (w.heap.size + 2) W1 w2 := hnx1.grown hg2 (by have := hnx1.size; omega) (fun j hj => by cases hj; omega)
          go_wp2_with fail
          exact ⟨⟨_, cnt1, _, hrg2, by omega, hout2.mono (by omega), got_put HG.out hout.isMap (isKey x) hlx'.out HM, hnx2⟩, by rw [hrg2.left_eq, hrg.left_eq]; exact hlt⟩
        | false =>
          have HM : Hid (modL un la (litS x) = false) := by show _ = _; rw [modL_litS]; unfold modelB; rw [if_pos hla]; exact hq2
          go_wp2_with fail
          refine (contains_any a1 c1 un x _ (by unfold maxLen; omega) q1 hq1 hU1).mono ?_
          rintro e w' ⟨rfl, rfl⟩
          go_wp2_with fail
          refine (contains_any a2 c2 la x _ (by unfold maxLen; omega) false hq2 hL1).mono ?_
          rintro e w' ⟨rfl, rfl⟩
          go_wp2_with fail
          exact ⟨⟨_, cnt1, _, hrg1, by omega, hout1.mono (by omega), got_skip HG.out (isKey x) HM, hnx1⟩, by rw [hrg1.left_eq, hrg.left_eq]; exact hlt⟩
      · cases q1 with
        | false =>
          have HM : Hid (modL un la (litS x) = true) := by show _ = _; rw [modL_litS]; unfold modelB; rw [if_neg hla, hq1.out]; rfl
          go_wp2_with fail
          refine (contains_any a1 c1 un x _ (by unfold maxLen; omega) false hq1 hU1).mono ?_
          rintro e w' ⟨rfl, rfl⟩
          go_wp2_with (first | (at_mapUpdate; refine wpList_mapUpdate_own _ rfl _ _ _ 28 rfl 9 9 law9 Trym.underlying28 (plainElem (H := Unit) Trym.prog 9) (w.heap.size + 1 + 1) _ _ rfl hout1 (by unfold maxLen; omega) _ _ _ rfl rfl hkx trueD [] trueElem ?_))
          intro w2 hout2 hg2
          have hrg2 := hrg1.kept hg2 (fun e => by have := Option.some.inj e; omega) (fun e => by have := Option.some.inj e; omega)
          have hnx2 : Below (w.heap.size + 2) W1 w2 := hnx1.grown hg2 (by have := hnx1.size; omega) (fun j hj => by cases hj; omega)
          go_wp2_with fail
          exact ⟨⟨_, cnt1, _, hrg2, by omega, hout2.mono (by omega), got_put HG.out hout.isMap (isKey x) hlx'.out HM, hnx2⟩, by rw [hrg2.left_eq, hrg.left_eq]; exact hlt⟩
        | true =>
          have HM : Hid (modL un la (litS x) = false) := by show _ = _; rw [modL_litS]; unfold modelB; rw [if_neg hla, hq1.out]; rfl
          go_wp2_with fail
          refine (contains_any a1 c1 un x _ (by unfold maxLen; omega) true hq1 hU1).mono ?_
          rintro e w' ⟨rfl, rfl⟩
          go_wp2_with fail
          exact ⟨⟨_, cnt1, _, hrg1, by omega, hout1.mono (by omega), got_skip HG.out (isKey x) HM, hnx1⟩, by rw [hrg1.left_eq, hrg.left_eq]; exact hlt⟩
end Go.Proofs.Qxb6600425aMods.words
