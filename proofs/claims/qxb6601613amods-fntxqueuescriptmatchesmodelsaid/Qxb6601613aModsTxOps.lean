/-
  Contracts of the queue's operations (seat b6601613aM).
-/
import Derived.Test.Qxb6601613aModsTxMem
namespace Go.Proofs.Qxb6601613aMods.q
open Go.ChangeShapes Go.WideShapes Go.ChangeAt Go.RowKit
set_option linter.unusedVariables false

section
variable {Q : Nat} {F B : Option Nat} {S : List Nat} {P N : Nat → Option Nat}

theorem prev_any (w : World) (b : Nat) (hM : Hid (Mem w Q F B S P N)) (hb : Hid (b ∈ S)) : Calls Trym.prog 16 #[.pointer (some ⟨b, 0, none⟩)] w fun e w' => e = .returned (.pointer (adr (P b))) ∧ w' = w := by
  have hc : w.cell? ⟨b, 2, none⟩ = some (.pointer (adr (P b))) := hM.out.prev hb.out
  go_enter Trym.func16, Trym.ntmps16
  go_wp2
  go_ret
  exact ⟨rfl, rfl⟩
theorem next_any (w : World) (b : Nat) (hM : Hid (Mem w Q F B S P N)) (hb : Hid (b ∈ S)) : Calls Trym.prog 17 #[.pointer (some ⟨b, 0, none⟩)] w fun e w' => e = .returned (.pointer (adr (N b))) ∧ w' = w := by
  have hc : w.cell? ⟨b, 3, none⟩ = some (.pointer (adr (N b))) := hM.out.next hb.out
  go_enter Trym.func17, Trym.ntmps17
  go_wp2
  go_ret
  exact ⟨rfl, rfl⟩
theorem front_any (w : World) (hM : Hid (Mem w Q F B S P N)) : Calls Trym.prog 21 #[.pointer (some ⟨Q, 0, none⟩)] w fun e w' => e = .returned (.pointer (adr F)) ∧ w' = w := by
  have hc : w.cell? ⟨Q, 0, none⟩ = some (.pointer (adr F)) := hM.out.front
  go_enter Trym.func21, Trym.ntmps21
  go_wp2
  go_ret
  exact ⟨rfl, rfl⟩
theorem back_any (w : World) (hM : Hid (Mem w Q F B S P N)) : Calls Trym.prog 22 #[.pointer (some ⟨Q, 0, none⟩)] w fun e w' => e = .returned (.pointer (adr B)) ∧ w' = w := by
  have hc : w.cell? ⟨Q, 1, none⟩ = some (.pointer (adr B)) := hM.out.back
  go_enter Trym.func22, Trym.ntmps22
  go_wp2
  go_ret
  exact ⟨rfl, rfl⟩

theorem new_any (w : World) (s : Int) : Calls Trym.prog 14 #[.int .i64 s] w fun e w' => e = .returned (.pointer (some ⟨w.heap.size, 0, none⟩)) ∧ w' = w.alloc (nodeObj s) := by
  go_enter Trym.func14, Trym.ntmps14
  go_wp2
  go_ret
  exact ⟨rfl, rfl⟩

theorem push_nil (w : World) (p : Nat) (hM : Hid (Mem w Q F none S P N)) (hp : Hid (p ∈ S)) :
    Calls Trym.prog 25 #[.pointer (some ⟨Q, 0, none⟩), .pointer (some ⟨p, 0, none⟩)] w fun e w' => e = .returned (.tuple #[]) ∧ Mem w' Q (some p) (some p) S (upd P p none) N ∧ Only (Q :: S) w w' := by
  have hb : w.cell? ⟨Q, 1, none⟩ = some (.pointer none) := hM.out.back
  obtain ⟨f0, hf⟩ : ∃ f0, w.cell? ⟨Q, 0, none⟩ = some (.pointer f0) := ⟨_, hM.out.front⟩
  obtain ⟨q0, hq⟩ : ∃ q0, w.cell? ⟨p, 2, none⟩ = some (.pointer q0) := ⟨_, hM.out.prev hp.out⟩
  have z0 := hM.out.frozenQ 0
  have z1 := hM.out.frozenQ 1
  have z2 := hM.out.frozenN hp.out 2
  have hne : ¬ p = Q := (hM.out.n p hp.out).1
  have hne' : ¬ Q = p := fun e => hne e.symm
  have h1 : Hid (Mem (((w.setCell ⟨p, 2, none⟩ (pv none)).setCell ⟨Q, 0, none⟩ (pv (some p))).setCell ⟨Q, 1, none⟩ (pv (some p))) Q (some p) (some p) S (upd P p none) N) := ((hM.out.setPrev hp.out none).setFront (some p)).setBack (some p)
  have h2 : Hid (Only (Q :: S) w (((w.setCell ⟨p, 2, none⟩ (pv none)).setCell ⟨Q, 0, none⟩ (pv (some p))).setCell ⟨Q, 1, none⟩ (pv (some p)))) :=
    (((Only.refl _ _).setCell (List.mem_cons_of_mem _ hp.out) _).setCell List.mem_cons_self _).setCell List.mem_cons_self _
  go_enter Trym.func25, Trym.ntmps25
  go_wp2
  go_end0
  exact ⟨rfl, h1, h2⟩

theorem push_some (w : World) (p x : Nat) (hM : Hid (Mem w Q F (some x) S P N)) (hp : Hid (p ∈ S)) (hx : Hid (x ∈ S)) :
    Calls Trym.prog 25 #[.pointer (some ⟨Q, 0, none⟩), .pointer (some ⟨p, 0, none⟩)] w fun e w' => e = .returned (.tuple #[]) ∧ Mem w' Q F (some p) S (upd P p (some x)) (upd N x (some p)) ∧ Only (Q :: S) w w' := by
  have hb : w.cell? ⟨Q, 1, none⟩ = some (.pointer (some ⟨x, 0, none⟩)) := hM.out.back
  obtain ⟨q0, hq⟩ : ∃ q0, w.cell? ⟨p, 2, none⟩ = some (.pointer q0) := ⟨_, hM.out.prev hp.out⟩
  obtain ⟨q1, hq1⟩ : ∃ q1, w.cell? ⟨x, 3, none⟩ = some (.pointer q1) := ⟨_, hM.out.next hx.out⟩
  have z1 := hM.out.frozenQ 1
  have z2 := hM.out.frozenN hp.out 2
  have z3 := hM.out.frozenN hx.out 3
  have hne : ¬ p = Q := (hM.out.n p hp.out).1
  have hne' : ¬ Q = p := fun e => hne e.symm
  have hnx : ¬ x = Q := (hM.out.n x hx.out).1
  have hnx' : ¬ Q = x := fun e => hnx e.symm
  have h1 : Hid (Mem (((w.setCell ⟨p, 2, none⟩ (pv (some x))).setCell ⟨x, 3, none⟩ (pv (some p))).setCell ⟨Q, 1, none⟩ (pv (some p))) Q F (some p) S (upd P p (some x)) (upd N x (some p))) := ((hM.out.setPrev hp.out (some x)).setNext hx.out (some p)).setBack (some p)
  have h2 : Hid (Only (Q :: S) w (((w.setCell ⟨p, 2, none⟩ (pv (some x))).setCell ⟨x, 3, none⟩ (pv (some p))).setCell ⟨Q, 1, none⟩ (pv (some p)))) :=
    (((Only.refl _ _).setCell (List.mem_cons_of_mem _ hp.out) _).setCell (List.mem_cons_of_mem _ hx.out) _).setCell List.mem_cons_self _
  go_enter Trym.func25, Trym.ntmps25
  go_wp2
  go_end0
  exact ⟨rfl, h1, h2⟩

/-- remove: no link before, none behind. -/
theorem rem_nn (w : World) (p : Nat) (hM : Hid (Mem w Q F B S P N)) (hp : Hid (p ∈ S)) (hP : Hid (P p = none)) (hN : Hid (N p = none)) :
    Calls Trym.prog 26 #[.pointer (some ⟨Q, 0, none⟩), .pointer (some ⟨p, 0, none⟩)] w fun e w' => e = .returned (.tuple #[]) ∧ Mem w' Q none none S P N ∧ Only (Q :: S) w w' := by
  have c2 : w.cell? ⟨p, 2, none⟩ = some (.pointer none) := by have := hM.out.prev hp.out; rw [hP.out] at this; exact this
  have c3 : w.cell? ⟨p, 3, none⟩ = some (.pointer none) := by have := hM.out.next hp.out; rw [hN.out] at this; exact this
  obtain ⟨f0, hf⟩ : ∃ f0, w.cell? ⟨Q, 0, none⟩ = some (.pointer f0) := ⟨_, hM.out.front⟩
  obtain ⟨f1, hf1⟩ : ∃ f1, w.cell? ⟨Q, 1, none⟩ = some (.pointer f1) := ⟨_, hM.out.back⟩
  have z0 := hM.out.frozenQ 0
  have z1 := hM.out.frozenQ 1
  have hne : ¬ p = Q := (hM.out.n p hp.out).1
  have hne' : ¬ Q = p := fun e => hne e.symm
  have h1 : Hid (Mem ((w.setCell ⟨Q, 0, none⟩ (pv none)).setCell ⟨Q, 1, none⟩ (pv none)) Q none none S P N) := (hM.out.setFront none).setBack none
  have h2 : Hid (Only (Q :: S) w ((w.setCell ⟨Q, 0, none⟩ (pv none)).setCell ⟨Q, 1, none⟩ (pv none))) := ((Only.refl _ _).setCell List.mem_cons_self _).setCell List.mem_cons_self _
  go_enter Trym.func26, Trym.ntmps26
  go_wp2
  go_end0
  exact ⟨rfl, h1, h2⟩

/-- remove: no link before, y behind. -/
theorem rem_ns (w : World) (p y : Nat) (hM : Hid (Mem w Q F B S P N)) (hp : Hid (p ∈ S)) (hy : Hid (y ∈ S)) (hP : Hid (P p = none)) (hN : Hid (N p = some y)) (hyp : y ≠ p) :
    Calls Trym.prog 26 #[.pointer (some ⟨Q, 0, none⟩), .pointer (some ⟨p, 0, none⟩)] w fun e w' => e = .returned (.tuple #[]) ∧ Mem w' Q (some y) B S (upd P y none) N ∧ Only (Q :: S) w w' := by
  have c2 : w.cell? ⟨p, 2, none⟩ = some (.pointer none) := by have := hM.out.prev hp.out; rw [hP.out] at this; exact this
  have c3 : w.cell? ⟨p, 3, none⟩ = some (.pointer (some ⟨y, 0, none⟩)) := by have := hM.out.next hp.out; rw [hN.out] at this; exact this
  obtain ⟨f0, hf⟩ : ∃ f0, w.cell? ⟨Q, 0, none⟩ = some (.pointer f0) := ⟨_, hM.out.front⟩
  obtain ⟨y2, hy2⟩ : ∃ y2, w.cell? ⟨y, 2, none⟩ = some (.pointer y2) := ⟨_, hM.out.prev hy.out⟩
  have z0 := hM.out.frozenQ 0
  have z1 := hM.out.frozenN hy.out 2
  have hne : ¬ p = Q := (hM.out.n p hp.out).1
  have hne' : ¬ Q = p := fun e => hne e.symm
  have hny : ¬ y = Q := (hM.out.n y hy.out).1
  have hny' : ¬ Q = y := fun e => hny e.symm
  have h1 : Hid (Mem ((w.setCell ⟨Q, 0, none⟩ (pv (some y))).setCell ⟨y, 2, none⟩ (pv none)) Q (some y) B S (upd P y none) N) := (hM.out.setFront (some y)).setPrev hy.out none
  have h2 : Hid (Only (Q :: S) w ((w.setCell ⟨Q, 0, none⟩ (pv (some y))).setCell ⟨y, 2, none⟩ (pv none))) := ((Only.refl _ _).setCell List.mem_cons_self _).setCell (List.mem_cons_of_mem _ hy.out) _
  go_enter Trym.func26, Trym.ntmps26
  go_wp2
  go_region
  go_wp2
  go_end0
  exact ⟨rfl, h1.out.drew, h2.out.drew⟩

/-- remove: x before, no link behind. -/
theorem rem_sn (w : World) (p x : Nat) (hM : Hid (Mem w Q F B S P N)) (hp : Hid (p ∈ S)) (hx : Hid (x ∈ S)) (hP : Hid (P p = some x)) (hN : Hid (N p = none)) (hxp : x ≠ p) :
    Calls Trym.prog 26 #[.pointer (some ⟨Q, 0, none⟩), .pointer (some ⟨p, 0, none⟩)] w fun e w' => e = .returned (.tuple #[]) ∧ Mem w' Q F (some x) S P (upd N x none) ∧ Only (Q :: S) w w' := by
  have c2 : w.cell? ⟨p, 2, none⟩ = some (.pointer (some ⟨x, 0, none⟩)) := by have := hM.out.prev hp.out; rw [hP.out] at this; exact this
  have c3 : w.cell? ⟨p, 3, none⟩ = some (.pointer none) := by have := hM.out.next hp.out; rw [hN.out] at this; exact this
  obtain ⟨f1, hf1⟩ : ∃ f1, w.cell? ⟨Q, 1, none⟩ = some (.pointer f1) := ⟨_, hM.out.back⟩
  obtain ⟨x3, hx3⟩ : ∃ x3, w.cell? ⟨x, 3, none⟩ = some (.pointer x3) := ⟨_, hM.out.next hx.out⟩
  have z1 := hM.out.frozenQ 1
  have z3 := hM.out.frozenN hx.out 3
  have hne : ¬ p = Q := (hM.out.n p hp.out).1
  have hne' : ¬ Q = p := fun e => hne e.symm
  have hnx : ¬ x = Q := (hM.out.n x hx.out).1
  have hnx' : ¬ Q = x := fun e => hnx e.symm
  have hpx : ¬ p = x := fun e => hxp e.symm
  have h1 : Hid (Mem ((w.setCell ⟨x, 3, none⟩ (pv none)).setCell ⟨Q, 1, none⟩ (pv (some x))) Q F (some x) S P (upd N x none)) := (hM.out.setNext hx.out none).setBack (some x)
  have h2 : Hid (Only (Q :: S) w ((w.setCell ⟨x, 3, none⟩ (pv none)).setCell ⟨Q, 1, none⟩ (pv (some x)))) := ((Only.refl _ _).setCell (List.mem_cons_of_mem _ hx.out) _).setCell List.mem_cons_self _
  go_enter Trym.func26, Trym.ntmps26
  go_wp2
  go_region
  go_wp2
  go_end0
  exact ⟨rfl, h1.out.drew, h2.out.drew⟩

/-- remove: x before, y behind. -/
theorem rem_ss (w : World) (p x y : Nat) (hM : Hid (Mem w Q F B S P N)) (hp : Hid (p ∈ S)) (hx : Hid (x ∈ S)) (hy : Hid (y ∈ S)) (hP : Hid (P p = some x)) (hN : Hid (N p = some y)) (hxp : x ≠ p) (hyp : y ≠ p) :
    Calls Trym.prog 26 #[.pointer (some ⟨Q, 0, none⟩), .pointer (some ⟨p, 0, none⟩)] w fun e w' => e = .returned (.tuple #[]) ∧ Mem w' Q F B S (upd P y (some x)) (upd N x (some y)) ∧ Only (Q :: S) w w' := by
  have c2 : w.cell? ⟨p, 2, none⟩ = some (.pointer (some ⟨x, 0, none⟩)) := by have := hM.out.prev hp.out; rw [hP.out] at this; exact this
  have c3 : w.cell? ⟨p, 3, none⟩ = some (.pointer (some ⟨y, 0, none⟩)) := by have := hM.out.next hp.out; rw [hN.out] at this; exact this
  obtain ⟨y2, hy2⟩ : ∃ y2, w.cell? ⟨y, 2, none⟩ = some (.pointer y2) := ⟨_, hM.out.prev hy.out⟩
  obtain ⟨x3, hx3⟩ : ∃ x3, w.cell? ⟨x, 3, none⟩ = some (.pointer x3) := ⟨_, hM.out.next hx.out⟩
  have z2 := hM.out.frozenN hy.out 2
  have z3 := hM.out.frozenN hx.out 3
  have hpx : ¬ p = x := fun e => hxp e.symm
  have hpy : ¬ p = y := fun e => hyp e.symm
  have h1 : Hid (Mem ((w.setCell ⟨x, 3, none⟩ (pv (some y))).setCell ⟨y, 2, none⟩ (pv (some x))) Q F B S (upd P y (some x)) (upd N x (some y))) := (hM.out.setNext hx.out (some y)).setPrev hy.out (some x)
  have h2 : Hid (Only (Q :: S) w ((w.setCell ⟨x, 3, none⟩ (pv (some y))).setCell ⟨y, 2, none⟩ (pv (some x)))) := ((Only.refl _ _).setCell (List.mem_cons_of_mem _ hx.out) _).setCell (List.mem_cons_of_mem _ hy.out) _
  go_enter Trym.func26, Trym.ntmps26
  go_wp2
  go_region
  go_wp2
  go_region
  go_wp2
  go_end0
  exact ⟨rfl, h1.out.drew.drew, h2.out.drew.drew⟩
end
end Go.Proofs.Qxb6601613aMods.q
