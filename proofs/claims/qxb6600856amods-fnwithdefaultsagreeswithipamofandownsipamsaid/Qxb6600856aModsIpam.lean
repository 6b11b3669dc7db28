/-
  Contracts of ipamOf and ZZipamOf (seat b6600856aM).
-/
import Derived.Test.Qxb6600856aModsRows
import Derived.WalkKit
import Derived.ProofKit
import Derived.Deep.QuietTactic
import Derived.BigQuiet
import Derived.WalkSmall
namespace Go.Proofs.Qxb6600856aMods.net
open Go.ChangeShapes Go.WideShapes Go.ChangeAt Go.RowKit
set_option linter.unusedVariables false

def enB : ByteArray := ⟨#[69, 110, 97, 98, 108, 101, 100]⟩
def noB : ByteArray := ⟨#[]⟩
def modeOf (md : ByteArray) : ByteArray := if md = noB then enB else md

theorem toList_beq (a b : ByteArray) : (a.toList == b.toList) = true ↔ a = b := by
  rw [beq_iff_eq, ByteArray.toList_eq, ByteArray.toList_eq]
  constructor
  · intro h
    cases a; cases b
    congr 1
    exact Array.toList_inj.1 h
  · intro h; rw [h]
theorem toList_ne {a b : ByteArray} (h : ¬ a = b) : (a.toList == b.toList) = false := by
  cases h' : (a.toList == b.toList)
  · rfl
  · exact absurd ((toList_beq a b).1 h') h

theorem isEmpty_iff (a : ByteArray) : a.toList.isEmpty = true ↔ a = noB := by
  rw [List.isEmpty_iff, ByteArray.toList_eq]
  constructor
  · intro h
    cases a
    unfold noB
    congr 1
    exact Array.toList_inj.1 h
  · intro h; rw [h]; rfl
theorem isEmpty_ne {a : ByteArray} (h : ¬ a = noB) : a.toList.isEmpty = false := by
  cases h' : a.toList.isEmpty
  · rfl
  · exact absurd ((isEmpty_iff a).1 h') h

theorem ret_str2 {a b c d : ByteArray} (h1 : a = c) (h2 : b = d) : Ending.returned (.tuple #[.string a, .string b]) = .returned (.tuple #[.string c, .string d]) := by rw [h1, h2]

set_option maxRecDepth 100000 in
theorem ipam_nil (t r : ByteArray) (m : Int) (a3 a4 a5 : Option Addr) (l3 c3 l4 c4 l5 c5 : Nat) (w : World) :
    Calls Trym.prog 19 #[.agg #[.string t, .string r, .int .i32 m, .slice a3 l3 c3, .slice a4 l4 c4, .slice a5 l5 c5, .pointer none]] w fun e w' => e = .returned (.tuple #[.string enB, .string noB]) ∧ Below w.heap.size w w' := by
  go_enter Trym.func19, Trym.ntmps19
  go_wp2
  go_ret2
  exact ⟨rfl, (Below.refl _ _).alloc (Nat.le_refl _) _⟩

set_option maxRecDepth 100000 in
theorem ipam_some (t r : ByteArray) (m : Int) (a3 a4 a5 : Option Addr) (l3 c3 l4 c4 l5 c5 : Nat) (b : Nat) (md lf : ByteArray) (w : World) (h0 : w.cell? ⟨b, 0, none⟩ = some (.string md)) (h1 : w.cell? ⟨b, 1, none⟩ = some (.string lf)) (hb : b < w.heap.size) :
    Calls Trym.prog 19 #[.agg #[.string t, .string r, .int .i32 m, .slice a3 l3 c3, .slice a4 l4 c4, .slice a5 l5 c5, .pointer (some ⟨b, 0, none⟩)]] w fun e w' => e = .returned (.tuple #[.string (modeOf md), .string lf]) ∧ Below w.heap.size w w' := by
  by_cases he : md = noB
  · have hq : Hid (modeOf md = enB) := by show _ = _; unfold modeOf; rw [if_pos he]
    have hbeq : md.toList.isEmpty = true := (isEmpty_iff md).2 he
    clear he
    go_enter Trym.func19, Trym.ntmps19
    go_wp2
    go_quiet (fail)
    go_wp2
    go_ret2
    exact ⟨ret_str2 hq.out.symm rfl, below_drewN ((Below.refl _ _).alloc (Nat.le_refl _) _) _⟩
  · have hq : Hid (modeOf md = md) := by show _ = _; unfold modeOf; rw [if_neg he]
    have hbeq : md.toList.isEmpty = false := isEmpty_ne he
    clear he
    go_enter Trym.func19, Trym.ntmps19
    go_wp2
    go_quiet (fail)
    go_wp2
    go_ret2
    exact ⟨ret_str2 hq.out.symm rfl, below_drewN ((Below.refl _ _).alloc (Nat.le_refl _) _) _⟩

set_option maxRecDepth 100000 in
theorem zz_nil (t r : ByteArray) (m : Int) (a3 a4 a5 : Option Addr) (l3 c3 l4 c4 l5 c5 : Nat) (w : World) :
    Calls Trym.prog 13 #[.agg #[.string t, .string r, .int .i32 m, .slice a3 l3 c3, .slice a4 l4 c4, .slice a5 l5 c5, .pointer none]] w fun e w' => e = .returned (.tuple #[.string enB, .string noB]) ∧ Below w.heap.size w w' := by
  go_enter Trym.func13, Trym.ntmps13
  go_wp2_with fail
  refine (ipam_nil t r m a3 a4 a5 l3 c3 l4 c4 l5 c5 _).mono ?_
  rintro e w1 ⟨rfl, hb⟩
  go_wp2_with fail
  go_ret2
  have hB : Below w.heap.size w (w.alloc (.cells #[.string t, .string r, .int .i32 m, .slice a3 l3 c3, .slice a4 l4 c4, .slice a5 l5 c5, .pointer none] 30)) := (Below.refl _ _).alloc (Nat.le_refl _) _
  exact ⟨rfl, hB.trans (hb.mono hB.size)⟩

set_option maxRecDepth 100000 in
theorem zz_some (t r : ByteArray) (m : Int) (a3 a4 a5 : Option Addr) (l3 c3 l4 c4 l5 c5 : Nat) (b : Nat) (md lf : ByteArray) (w : World) (h0 : w.cell? ⟨b, 0, none⟩ = some (.string md)) (h1 : w.cell? ⟨b, 1, none⟩ = some (.string lf)) (hb : b < w.heap.size) :
    Calls Trym.prog 13 #[.agg #[.string t, .string r, .int .i32 m, .slice a3 l3 c3, .slice a4 l4 c4, .slice a5 l5 c5, .pointer (some ⟨b, 0, none⟩)]] w fun e w' => e = .returned (.tuple #[.string (modeOf md), .string lf]) ∧ Below w.heap.size w w' := by
  have hB : Below w.heap.size w (w.alloc (.cells #[.string t, .string r, .int .i32 m, .slice a3 l3 c3, .slice a4 l4 c4, .slice a5 l5 c5, .pointer (some ⟨b, 0, none⟩)] 30)) := (Below.refl _ _).alloc (Nat.le_refl _) _
  have HB : Hid (Below w.heap.size w (w.alloc (.cells #[.string t, .string r, .int .i32 m, .slice a3 l3 c3, .slice a4 l4 c4, .slice a5 l5 c5, .pointer (some ⟨b, 0, none⟩)] 30))) := hB
  clear hB
  go_enter Trym.func13, Trym.ntmps13
  go_wp2_with fail
  refine (ipam_some t r m a3 a4 a5 l3 c3 l4 c4 l5 c5 b md lf _ ((HB.out.cell (p := ⟨b, 0, none⟩) hb).trans h0) ((HB.out.cell (p := ⟨b, 1, none⟩) hb).trans h1) (Nat.lt_of_lt_of_le hb HB.out.size)).mono ?_
  rintro e w1 ⟨rfl, hb1⟩
  go_wp2_with fail
  go_ret2
  exact ⟨rfl, HB.out.trans (hb1.mono HB.out.size)⟩

def SomeBool (e : Ending) : Prop := ∃ r : Bool, e = .returned (.bool r)

theorem zz15 (x : Bool) (t0 t1 : ByteArray) (w : World) (ht0 : t0.size ≤ maxLen) (ht1 : t1.size ≤ maxLen) :
    Calls Trym.prog 15 #[.bool x, .string t0, .string t1] w fun e w' => SomeBool e ∧ w' = w := by
  unfold maxLen at ht0 ht1
  go_enter Trym.func15, Trym.ntmps15
  go_wp2_with fail
  all_goals (go_ret; exact ⟨⟨_, rfl⟩, rfl⟩)
end Go.Proofs.Qxb6600856aMods.net
