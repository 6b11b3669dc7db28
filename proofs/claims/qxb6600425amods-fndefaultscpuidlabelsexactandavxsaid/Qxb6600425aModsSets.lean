/-
  Contracts of lawElems, lawOne, lawTwo, lawOtherOnly (seat b6600425aM).
-/
import Derived.Test.Qxb6600425aModsCopy
import Derived.Maps.OwnSet
import Derived.Maps.OwnOps
namespace Go.Proofs.Qxb6600425aMods.words
open Go.ChangeShapes Go.WideShapes Go.ChangeAt Go.RowKit Go.Maps Go.WideMaps
set_option linter.unusedVariables false

def litS (s : ByteArray) : Lit := .string s.data.toList
def setS (ss : List ByteArray) : DataW Unit := setOf (.agg []) (ss.map litS)

theorem take_getD (ss : List ByteArray) (k : Nat) (hk : k < ss.length) : ss.take (k + 1) = ss.take k ++ [ss.getD k ByteArray.empty] := by
  rw [List.take_add_one]
  simp [List.getD, List.getElem?_eq_getElem hk]

theorem setS_take (ss : List ByteArray) (k : Nat) (hk : k < ss.length) : setS (ss.take (k + 1)) = (setS (ss.take k)).put (litS (ss.getD k ByteArray.empty)) (.agg []) := by
  unfold setS
  rw [take_getD ss k hk, List.map_append]
  exact setOf_snoc _ _ _

theorem law9 : Keyed Trym.prog 9 := string_keyed Trym.underlying9
theorem key_ok {s : ByteArray} (hs : s.size ≤ maxLen) : keyOf Trym.prog 9 (.string s) = some (litS s) := keyOf_string_mk Trym.underlying9 hs

set_option maxRecDepth 100000 in
set_option maxHeartbeats 400000 in
theorem elems_any (a : Option Addr) (c : Nat) (ss : List ByteArray) (w : World) (hn : ss.length ≤ 4096) (hz : Hid (∀ s ∈ ss, s.size ≤ maxLen)) (hS : Hid (Strs w a ss)) :
    Calls Trym.prog 31 #[.slice a ss.length c] w fun e w' => e = .returned (.map (some w.heap.size)) ∧ w'.ownsMap Trym.prog 9 (unitElem (H := Unit)) w.heap.size ss.length (setS ss) ∧ Below w.heap.size w w' := by
  have hmm := @run_makeMap Trym.prog
  go_enter Trym.func31, Trym.ntmps31
  go_wp2
  go_loopw [4] (fun i wr => ∃ k : Nat, k ≤ ss.length ∧ i = .int .i64 k ∧ wr.ownsMap Trym.prog 9 (unitElem (H := Unit)) w.heap.size k (setS (ss.take k)) ∧ Below w.heap.size w wr) (fun i _ => ss.length - (intOf i).toNat)
  case atStart => exact ⟨0, Nat.zero_le _, rfl, World.ownsMap_made _ _ _ _, (Below.refl _ _).alloc (Nat.le_refl _) _⟩
  case round =>
    obtain ⟨k, hk, rfl, hown, hnx⟩ := hrel
    by_cases hlt : k < ss.length
    · obtain ⟨b, off, rfl, hbl, hc⟩ := hS.out.some hlt
      have hck : wr.cell? ⟨b, off + k, none⟩ = some (.string (ss.getD k ByteArray.empty)) := (hnx.cell (p := ⟨b, off + k, none⟩) hbl).trans (hc k hlt)
      clear hc
      have hkey := key_ok (hz.out _ (getD_mem hlt))
      have hstep : Hid (setS (ss.take (k + 1)) = (setS (ss.take k)).put (litS (ss.getD k ByteArray.empty)) (.agg [])) := setS_take ss k hlt
      generalize ss.getD k ByteArray.empty = s at hck hkey hstep
      go_wp2_with (first | (at_mapUpdate; refine wpList_mapUpdate_own _ rfl _ _ _ 48 rfl 9 52 law9 Trym.underlying48 (unitElem (H := Unit)) w.heap.size k _ rfl hown (by unfold maxLen; omega) _ _ _ rfl rfl hkey _ [] unitElem_mk ?_; intro w1 hown1 hgrow1))
      exact ⟨⟨k + 1, by omega, by go_num, by rw [hstep.out]; exact hown1, hnx.grown hgrow1 hnx.size (fun j hj => by cases hj; exact Nat.le_refl _)⟩, by simp [intOf]; omega⟩
    · go_wp2
      go_ret
      have hkn : k = ss.length := by omega
      subst hkn
      rw [List.take_length] at hown
      exact ⟨rfl, hown, hnx⟩

/-- The elements of the map of flags: the block of the inner map. -/
def flagElem : Value → Option (DataW Unit × List MemPlace)
  | .agg a => match a.toList with
    | [.map (some b)] => some (.lit (.int .i64 b), [])
    | [.map none] => some (.lit (.bool false), [])
    | _ => none
  | _ => none

theorem flagElem_mk (b : Nat) : flagElem (.agg #[.map (some b)]) = some (.lit (.int .i64 b), []) := rfl
theorem flagElem_zero : flagElem (.agg #[.map none]) = some (.lit (.bool false), []) := rfl
theorem flagElem_inv {v : Value} {b : Nat} {ps : List MemPlace} (h : flagElem v = some (.lit (.int .i64 b), ps)) : v = .agg #[.map (some b)] := by
  unfold flagElem at h
  split at h
  · rename_i a
    split at h
    · rename_i b' he
      simp at h
      have : a = #[.map (some b')] := by rw [← Array.toList_inj]; exact he
      rw [this]
      have hb : b' = b := by omega
      rw [hb]
    · simp at h
    · cases h
  · cases h
theorem flagElem_zero_inv {v : Value} {ps : List MemPlace} (h : flagElem v = some (.lit (.bool false), ps)) : v = .agg #[.map none] := by
  unfold flagElem at h
  split at h
  · rename_i a
    split at h
    · simp at h
    · rename_i he
      have : a = #[.map none] := by rw [← Array.toList_inj]; exact he
      rw [this]
    · cases h
  · cases h

theorem owns_below {H : Type} {P : Program} {k : TypeId} {R : Value → Option (DataW H × List MemPlace)} {w w' : World} {B b n : Nat} {D : DataW H} (h : w.ownsMap P k R b n D) (hb : Below B w w') (hlt : b < B) : w'.ownsMap P k R b n D := by
  obtain ⟨es, clock, h1, h2⟩ := h
  exact ⟨es, clock, (hb.block b hlt).trans h1, h2⟩

/-- The struct value v holds a map of flags whose entry at nm is the set S. -/
def SetHas (w : World) (v : Value) (nm : ByteArray) (S : DataW Unit) : Prop :=
  ∃ (F E n m : Nat) (D : DataW Unit), v = .agg #[.map none, .map (some F), .map none] ∧ w.ownsMap Trym.prog 9 flagElem F n D ∧ D.atKey (litS nm) (.lit (.bool false)) = .lit (.int .i64 E) ∧ m ≤ 4096 ∧ w.ownsMap Trym.prog 9 (unitElem (H := Unit)) E m S

/-- .. whose map of flags has no entry at nm. -/
def SetLacks (w : World) (v : Value) (nm : ByteArray) : Prop :=
  ∃ (F n : Nat) (D : DataW Unit), v = .agg #[.map none, .map (some F), .map none] ∧ w.ownsMap Trym.prog 9 flagElem F n D ∧ D.atKey (litS nm) (.lit (.bool false)) = .lit (.bool false)

theorem SetHas.below {w w' : World} {v : Value} {nm : ByteArray} {S : DataW Unit} (h : SetHas w v nm S) (hb : Below w.heap.size w w') : SetHas w' v nm S := by
  obtain ⟨F, E, n, m, D, hv, h1, h2, h3, h4⟩ := h
  exact ⟨F, E, n, m, D, hv, owns_below h1 hb h1.lt, h2, h3, owns_below h4 hb h4.lt⟩
theorem SetLacks.below {w w' : World} {v : Value} {nm : ByteArray} (h : SetLacks w v nm) (hb : Below w.heap.size w w') : SetLacks w' v nm := by
  obtain ⟨F, n, D, hv, h1, h2⟩ := h
  exact ⟨F, n, D, hv, owns_below h1 hb h1.lt, h2⟩

theorem grown_cell {w w' : World} {row B : Nat} {j : Nat} (h : w.grownBy w' (some row)) (hlt : B < w.heap.size) (hne : B ≠ row) : w'.cell? ⟨B, j, none⟩ = w.cell? ⟨B, j, none⟩ :=
  World.cell?_of_block (h.block B hlt (by simpa using hne))
theorem grown_frozen {w w' : World} {row B : Nat} {j : Nat} (h : w.grownBy w' (some row)) (hlt : B < w.heap.size) (hne : B ≠ row) : w'.frozen? ⟨B, j, none⟩ = w.frozen? ⟨B, j, none⟩ :=
  World.frozen?_of_block (h.block B hlt (by simpa using hne))

theorem isKey (s : ByteArray) : WideAt.IsKeyLit (litS s) := by simp [litS, WideAt.IsKeyLit]

theorem litS_inj {a b : ByteArray} (h : litS a = litS b) : a = b := by
  unfold litS at h
  injection h with h
  cases a; cases b
  congr 1
  exact Array.toList_inj.1 h

set_option maxRecDepth 100000 in
set_option maxHeartbeats 400000 in
theorem one_core (a : Option Addr) (c : Nat) (ss : List ByteArray) (nm : ByteArray) (w : World) (hn : ss.length ≤ 4096) (hnm : nm.size ≤ maxLen) (hz : Hid (∀ s ∈ ss, s.size ≤ maxLen)) (hS : Hid (Strs w a ss)) :
    Calls Trym.prog 18 #[.string nm, .slice a ss.length c] w fun e w' => ∃ F E, e = .returned (.agg #[.map none, .map (some F), .map none]) ∧ w'.ownsMap Trym.prog 9 flagElem F 1 ((.map [] : DataW Unit).put (litS nm) (.lit (.int .i64 (E : Nat)))) ∧ w'.ownsMap Trym.prog 9 (unitElem (H := Unit)) E ss.length (setS ss) ∧ Below w.heap.size w w' := by
  have hmm := @run_makeMap Trym.prog
  have hkey := key_ok hnm
  go_enter Trym.func18, Trym.ntmps18
  go_wp2_with fail
  have hB0 : Below w.heap.size w ((w.alloc (Obj.cells #[Value.map none, Value.map none, Value.map none] 34)).alloc (Obj.map #[] 0)) := Below.alloc (Below.alloc (Below.refl _ _) (Nat.le_refl _) _) (by simp) _
  have hM : ((w.alloc (Obj.cells #[Value.map none, Value.map none, Value.map none] 34)).alloc (Obj.map #[] 0)).ownsMap Trym.prog 9 flagElem (w.heap.size + 1) 0 (.map []) := by
    have := World.ownsMap_made (w.alloc (Obj.cells #[Value.map none, Value.map none, Value.map none] 34)) Trym.prog 9 flagElem
    rw [World.size_alloc] at this; exact this
  have hC : ∀ j, j < 3 → ((w.alloc (Obj.cells #[Value.map none, Value.map none, Value.map none] 34)).alloc (Obj.map #[] 0)).cell? ⟨w.heap.size, j, none⟩ = some (.map none) := fun j hj => by
    rw [World.cell?_alloc_past _ _ _ (by simp), World.cell?_alloc_at _ _ _ _ rfl]
    match j, hj with
    | 0, _ => rfl
    | 1, _ => rfl
    | 2, _ => rfl
  have hfz : ∀ j, ((w.alloc (Obj.cells #[Value.map none, Value.map none, Value.map none] 34)).alloc (Obj.map #[] 0)).frozen? ⟨w.heap.size, j, none⟩ = false := fun j => by
    rw [World.frozen?_alloc_past _ _ _ (by simp), World.frozen?_alloc_at _ _ _ _ rfl]
  have hsz : ((w.alloc (Obj.cells #[Value.map none, Value.map none, Value.map none] 34)).alloc (Obj.map #[] 0)).heap.size = w.heap.size + 2 := by simp
  refine (elems_any a c ss _ hn hz (hS.out.below hB0)).mono ?_
  rintro e w1 ⟨rfl, hown1, hb1⟩
  rw [hsz] at hown1 hb1
  have hM1 := owns_below hM hb1 (by omega)
  have hC1 : ∀ j, j < 3 → w1.cell? ⟨w.heap.size, j, none⟩ = some (.map none) := fun j hj => (hb1.cell (p := ⟨w.heap.size, j, none⟩) (by show w.heap.size < _; omega)).trans (hC j hj)
  have hfz1 : ∀ j, w1.frozen? ⟨w.heap.size, j, none⟩ = false := fun j => (hb1.frozen (p := ⟨w.heap.size, j, none⟩) (by show w.heap.size < _; omega)).trans (hfz j)
  have hB1 : Below w.heap.size w w1 := hB0.trans (hb1.mono (by omega))
  have hs1 := hb1.size
  rw [hsz] at hs1
  clear hM hC hfz hb1 hmm hB0
  go_wp2_with (first | (at_mapUpdate; refine wpList_mapUpdate_own _ rfl _ _ _ 31 rfl 9 51 law9 Trym.underlying31 flagElem (w.heap.size + 1) 0 _ rfl hM1 (by unfold maxLen; omega) _ _ _ rfl rfl hkey _ [] (flagElem_mk _) ?_))
  intro w2 hM2 hg2
  have hC2 : ∀ j, j < 3 → w2.cell? ⟨w.heap.size, j, none⟩ = some (.map none) := fun j hj => (grown_cell hg2 (by omega) (by omega)).trans (hC1 j hj)
  have hfz2 : ∀ j, w2.frozen? ⟨w.heap.size, j, none⟩ = false := fun j => (grown_frozen hg2 (by omega) (by omega)).trans (hfz1 j)
  have hE2 := hown1.kept hg2 (by simp)
  have hB2 : Below w.heap.size w w2 := hB1.grown hg2 hB1.size (fun k hk => by cases hk; omega)
  have hs2 := hg2.size
  have c0 := hC2 0 (by omega)
  have c1 := hC2 1 (by omega)
  have c2 := hC2 2 (by omega)
  have z0 := hfz2 0
  have z1 := hfz2 1
  have z2 := hfz2 2
  have hlt2 : w.heap.size < w2.heap.size := by omega
  clear hC1 hfz1 hC2 hfz2 hM1 hown1
  go_wp2_with fail
  refine bodyPost_ret (v := .agg #[.map none, .map (some (w.heap.size + 1)), .map none]) (by simp [results, Trym.results18, go_sem, c0, c1, c2]) rfl ⟨w.heap.size + 1, w.heap.size + 2, rfl, ?_, ?_, ?_⟩
  · exact ((hM2.setCell (by show _ ≠ w.heap.size; omega) _).setCell (by show _ ≠ w.heap.size; omega) _).setCell (by show _ ≠ w.heap.size; omega) _
  · exact ((hE2.setCell (by show _ ≠ w.heap.size; omega) _).setCell (by show _ ≠ w.heap.size; omega) _).setCell (by show _ ≠ w.heap.size; omega) _
  · exact ((hB2.setCell (Nat.le_refl _) _).setCell (Nat.le_refl _) _).setCell (Nat.le_refl _) _

set_option maxRecDepth 100000 in
set_option maxHeartbeats 400000 in
theorem other_core (a : Option Addr) (c : Nat) (ss : List ByteArray) (nm : ByteArray) (w : World) (hn : ss.length ≤ 4096) (hnm : nm.size ≤ maxLen) (hz : Hid (∀ s ∈ ss, s.size ≤ maxLen)) (hS : Hid (Strs w a ss)) :
    Calls Trym.prog 16 #[.string nm, .slice a ss.length c] w fun e w' => ∃ F E, e = .returned (.agg #[.map none, .map (some F), .map none]) ∧ w'.ownsMap Trym.prog 9 flagElem F 1 ((.map [] : DataW Unit).put (litS nm) (.lit (.int .i64 (E : Nat)))) ∧ w'.ownsMap Trym.prog 9 (unitElem (H := Unit)) E ss.length (setS ss) ∧ Below w.heap.size w w' := by
  have hmm := @run_makeMap Trym.prog
  have hkey := key_ok hnm
  go_enter Trym.func16, Trym.ntmps16
  go_wp2_with fail
  have hB0 : Below w.heap.size w ((w.alloc (Obj.cells #[Value.map none, Value.map none, Value.map none] 34)).alloc (Obj.map #[] 0)) := Below.alloc (Below.alloc (Below.refl _ _) (Nat.le_refl _) _) (by simp) _
  have hM : ((w.alloc (Obj.cells #[Value.map none, Value.map none, Value.map none] 34)).alloc (Obj.map #[] 0)).ownsMap Trym.prog 9 flagElem (w.heap.size + 1) 0 (.map []) := by
    have := World.ownsMap_made (w.alloc (Obj.cells #[Value.map none, Value.map none, Value.map none] 34)) Trym.prog 9 flagElem
    rw [World.size_alloc] at this; exact this
  have hC : ∀ j, j < 3 → ((w.alloc (Obj.cells #[Value.map none, Value.map none, Value.map none] 34)).alloc (Obj.map #[] 0)).cell? ⟨w.heap.size, j, none⟩ = some (.map none) := fun j hj => by
    rw [World.cell?_alloc_past _ _ _ (by simp), World.cell?_alloc_at _ _ _ _ rfl]
    match j, hj with
    | 0, _ => rfl
    | 1, _ => rfl
    | 2, _ => rfl
  have hfz : ∀ j, ((w.alloc (Obj.cells #[Value.map none, Value.map none, Value.map none] 34)).alloc (Obj.map #[] 0)).frozen? ⟨w.heap.size, j, none⟩ = false := fun j => by
    rw [World.frozen?_alloc_past _ _ _ (by simp), World.frozen?_alloc_at _ _ _ _ rfl]
  have hsz : ((w.alloc (Obj.cells #[Value.map none, Value.map none, Value.map none] 34)).alloc (Obj.map #[] 0)).heap.size = w.heap.size + 2 := by simp
  refine (elems_any a c ss _ hn hz (hS.out.below hB0)).mono ?_
  rintro e w1 ⟨rfl, hown1, hb1⟩
  rw [hsz] at hown1 hb1
  have hM1 := owns_below hM hb1 (by omega)
  have hC1 : ∀ j, j < 3 → w1.cell? ⟨w.heap.size, j, none⟩ = some (.map none) := fun j hj => (hb1.cell (p := ⟨w.heap.size, j, none⟩) (by show w.heap.size < _; omega)).trans (hC j hj)
  have hfz1 : ∀ j, w1.frozen? ⟨w.heap.size, j, none⟩ = false := fun j => (hb1.frozen (p := ⟨w.heap.size, j, none⟩) (by show w.heap.size < _; omega)).trans (hfz j)
  have hB1 : Below w.heap.size w w1 := hB0.trans (hb1.mono (by omega))
  have hs1 := hb1.size
  rw [hsz] at hs1
  clear hM hC hfz hb1 hmm hB0
  go_wp2_with (first | (at_mapUpdate; refine wpList_mapUpdate_own _ rfl _ _ _ 31 rfl 9 51 law9 Trym.underlying31 flagElem (w.heap.size + 1) 0 _ rfl hM1 (by unfold maxLen; omega) _ _ _ rfl rfl hkey _ [] (flagElem_mk _) ?_))
  intro w2 hM2 hg2
  have hC2 : ∀ j, j < 3 → w2.cell? ⟨w.heap.size, j, none⟩ = some (.map none) := fun j hj => (grown_cell hg2 (by omega) (by omega)).trans (hC1 j hj)
  have hfz2 : ∀ j, w2.frozen? ⟨w.heap.size, j, none⟩ = false := fun j => (grown_frozen hg2 (by omega) (by omega)).trans (hfz1 j)
  have hE2 := hown1.kept hg2 (by simp)
  have hB2 : Below w.heap.size w w2 := hB1.grown hg2 hB1.size (fun k hk => by cases hk; omega)
  have hs2 := hg2.size
  have c0 := hC2 0 (by omega)
  have c1 := hC2 1 (by omega)
  have c2 := hC2 2 (by omega)
  have z0 := hfz2 0
  have z1 := hfz2 1
  have z2 := hfz2 2
  have hlt2 : w.heap.size < w2.heap.size := by omega
  clear hC1 hfz1 hC2 hfz2 hM1 hown1
  go_wp2_with fail
  refine bodyPost_ret (v := .agg #[.map none, .map (some (w.heap.size + 1)), .map none]) (by simp [results, Trym.results16, go_sem, c0, c1, c2]) rfl ⟨w.heap.size + 1, w.heap.size + 2, rfl, ?_, ?_, ?_⟩
  · exact ((hM2.setCell (by show _ ≠ w.heap.size; omega) _).setCell (by show _ ≠ w.heap.size; omega) _).setCell (by show _ ≠ w.heap.size; omega) _
  · exact ((hE2.setCell (by show _ ≠ w.heap.size; omega) _).setCell (by show _ ≠ w.heap.size; omega) _).setCell (by show _ ≠ w.heap.size; omega) _
  · exact ((hB2.setCell (Nat.le_refl _) _).setCell (Nat.le_refl _) _).setCell (Nat.le_refl _) _

theorem one_any (a : Option Addr) (c : Nat) (ss : List ByteArray) (nm : ByteArray) (w : World) (hn : ss.length ≤ 4096) (hnm : nm.size ≤ maxLen) (hz : Hid (∀ s ∈ ss, s.size ≤ maxLen)) (hS : Hid (Strs w a ss)) :
    Calls Trym.prog 18 #[.string nm, .slice a ss.length c] w fun e w' => ∃ v, e = .returned v ∧ SetHas w' v nm (setS ss) ∧ Below w.heap.size w w' := by
  refine (one_core a c ss nm w hn hnm hz hS).mono ?_
  rintro e w' ⟨F, E, rfl, h1, h2, h3⟩
  exact ⟨_, rfl, ⟨F, E, 1, ss.length, _, rfl, h1, atKey_put_same isMap_empty (isKey nm) _ _, hn, h2⟩, h3⟩

theorem other_any (a : Option Addr) (c : Nat) (ss : List ByteArray) (nm other : ByteArray) (w : World) (hn : ss.length ≤ 4096) (hnm : other.size ≤ maxLen) (hz : Hid (∀ s ∈ ss, s.size ≤ maxLen)) (hS : Hid (Strs w a ss)) (hne : Hid (nm ≠ other)) :
    Calls Trym.prog 16 #[.string other, .slice a ss.length c] w fun e w' => ∃ v, e = .returned v ∧ SetLacks w' v nm ∧ Below w.heap.size w w' := by
  refine (other_core a c ss other w hn hnm hz hS).mono ?_
  rintro e w' ⟨F, E, rfl, h1, h2, h3⟩
  refine ⟨_, rfl, ⟨F, 1, _, rfl, h1, ?_⟩, h3⟩
  rw [atKey_put_other (fun e => hne.out (litS_inj e))]
  rfl

set_option maxRecDepth 100000 in
set_option maxHeartbeats 400000 in
theorem two_any (a1 a2 : Option Addr) (n1 n2 : Nat) (ss os : List ByteArray) (nm other : ByteArray) (w : World) (hn : ss.length ≤ 4096) (hno : os.length ≤ 4096) (hnm : nm.size ≤ maxLen) (hot : other.size ≤ maxLen)
    (hz : Hid (∀ s ∈ ss, s.size ≤ maxLen)) (hzo : Hid (∀ s ∈ os, s.size ≤ maxLen)) (hS : Hid (Strs w a1 ss)) (hSo : Hid (Strs w a2 os)) :
    Calls Trym.prog 13 #[.string nm, .slice a1 ss.length n1, .string other, .slice a2 os.length n2] w fun e w' => ∃ v, e = .returned v ∧ SetHas w' v nm (setS ss) ∧ Below w.heap.size w w' := by
  have hmm := @run_makeMap Trym.prog
  have hkey := key_ok hnm
  have hkeyo := key_ok hot
  by_cases hoe : other = nm
  · have hbeq : (other.toList == nm.toList) = true := (toList_beq other nm).2 hoe
    clear hoe
    go_enter Trym.func13, Trym.ntmps13
    go_wp2_with fail
    have hB0 : Below w.heap.size w ((w.alloc (Obj.cells #[Value.map none, Value.map none, Value.map none] 34)).alloc (Obj.map #[] 0)) := Below.alloc (Below.alloc (Below.refl _ _) (Nat.le_refl _) _) (by simp) _
    have hM : ((w.alloc (Obj.cells #[Value.map none, Value.map none, Value.map none] 34)).alloc (Obj.map #[] 0)).ownsMap Trym.prog 9 flagElem (w.heap.size + 1) 0 (.map []) := by
      have := World.ownsMap_made (w.alloc (Obj.cells #[Value.map none, Value.map none, Value.map none] 34)) Trym.prog 9 flagElem
      rw [World.size_alloc] at this; exact this
    have hC : ∀ j, j < 3 → ((w.alloc (Obj.cells #[Value.map none, Value.map none, Value.map none] 34)).alloc (Obj.map #[] 0)).cell? ⟨w.heap.size, j, none⟩ = some (.map none) := fun j hj => by
      rw [World.cell?_alloc_past _ _ _ (by simp), World.cell?_alloc_at _ _ _ _ rfl]
      match j, hj with
      | 0, _ => rfl
      | 1, _ => rfl
      | 2, _ => rfl
    have hfz : ∀ j, ((w.alloc (Obj.cells #[Value.map none, Value.map none, Value.map none] 34)).alloc (Obj.map #[] 0)).frozen? ⟨w.heap.size, j, none⟩ = false := fun j => by
      rw [World.frozen?_alloc_past _ _ _ (by simp), World.frozen?_alloc_at _ _ _ _ rfl]
    have hsz : ((w.alloc (Obj.cells #[Value.map none, Value.map none, Value.map none] 34)).alloc (Obj.map #[] 0)).heap.size = w.heap.size + 2 := by simp
    refine (elems_any a1 n1 ss _ hn hz (hS.out.below hB0)).mono ?_
    rintro e w1 ⟨rfl, hown1, hb1⟩
    rw [hsz] at hown1 hb1
    have hM1 := owns_below hM hb1 (by omega)
    have hC1 : ∀ j, j < 3 → w1.cell? ⟨w.heap.size, j, none⟩ = some (.map none) := fun j hj => (hb1.cell (p := ⟨w.heap.size, j, none⟩) (by show w.heap.size < _; omega)).trans (hC j hj)
    have hfz1 : ∀ j, w1.frozen? ⟨w.heap.size, j, none⟩ = false := fun j => (hb1.frozen (p := ⟨w.heap.size, j, none⟩) (by show w.heap.size < _; omega)).trans (hfz j)
    have hB1 : Below w.heap.size w w1 := hB0.trans (hb1.mono (by omega))
    have hs1 := hb1.size
    rw [hsz] at hs1
    clear hM hC hfz hb1 hmm hB0
    go_wp2_with (first | (at_mapUpdate; refine wpList_mapUpdate_own _ rfl _ _ _ 31 rfl 9 51 law9 Trym.underlying31 flagElem (w.heap.size + 1) 0 _ rfl hM1 (by unfold maxLen; omega) _ _ _ rfl rfl hkey _ [] (flagElem_mk _) ?_))
    intro w2 hM2 hg2
    have hC2 : ∀ j, j < 3 → w2.cell? ⟨w.heap.size, j, none⟩ = some (.map none) := fun j hj => (grown_cell hg2 (by omega) (by omega)).trans (hC1 j hj)
    have hfz2 : ∀ j, w2.frozen? ⟨w.heap.size, j, none⟩ = false := fun j => (grown_frozen hg2 (by omega) (by omega)).trans (hfz1 j)
    have hE2 := hown1.kept hg2 (by simp)
    have hB2 : Below w.heap.size w w2 := hB1.grown hg2 hB1.size (fun k hk => by cases hk; omega)
    have hs2 := hg2.size
    have c0 := hC2 0 (by omega)
    have c1 := hC2 1 (by omega)
    have c2 := hC2 2 (by omega)
    have z0 := hfz2 0
    have z1 := hfz2 1
    have z2 := hfz2 2
    have hlt2 : w.heap.size < w2.heap.size := by omega
    clear hC1 hfz1 hC2 hfz2 hM1 hown1
    go_wp2_with fail
    refine bodyPost_ret (v := .agg #[.map none, .map (some (w.heap.size + 1)), .map none]) (by simp [results, Trym.results13, go_sem, c0, c1, c2]) rfl ⟨_, rfl, ⟨w.heap.size + 1, w.heap.size + 2, 1, ss.length, (.map [] : DataW Unit).put (litS nm) (.lit (.int .i64 (w.heap.size + 2 : Nat))), rfl, ?_, atKey_put_same isMap_empty (isKey nm) _ _, hn, ?_⟩, ?_⟩
    · exact ((hM2.setCell (by show _ ≠ w.heap.size; omega) _).setCell (by show _ ≠ w.heap.size; omega) _).setCell (by show _ ≠ w.heap.size; omega) _
    · exact ((hE2.setCell (by show _ ≠ w.heap.size; omega) _).setCell (by show _ ≠ w.heap.size; omega) _).setCell (by show _ ≠ w.heap.size; omega) _
    · exact ((hB2.setCell (Nat.le_refl _) _).setCell (Nat.le_refl _) _).setCell (Nat.le_refl _) _
  · have hbeq : (other.toList == nm.toList) = false := by
      cases h : (other.toList == nm.toList)
      · rfl
      · exact absurd ((toList_beq other nm).1 h) hoe
    clear hoe
    go_enter Trym.func13, Trym.ntmps13
    go_wp2_with fail
    have hB0 : Below w.heap.size w ((w.alloc (Obj.cells #[Value.map none, Value.map none, Value.map none] 34)).alloc (Obj.map #[] 0)) := Below.alloc (Below.alloc (Below.refl _ _) (Nat.le_refl _) _) (by simp) _
    have hM : ((w.alloc (Obj.cells #[Value.map none, Value.map none, Value.map none] 34)).alloc (Obj.map #[] 0)).ownsMap Trym.prog 9 flagElem (w.heap.size + 1) 0 (.map []) := by
      have := World.ownsMap_made (w.alloc (Obj.cells #[Value.map none, Value.map none, Value.map none] 34)) Trym.prog 9 flagElem
      rw [World.size_alloc] at this; exact this
    have hC : ∀ j, j < 3 → ((w.alloc (Obj.cells #[Value.map none, Value.map none, Value.map none] 34)).alloc (Obj.map #[] 0)).cell? ⟨w.heap.size, j, none⟩ = some (.map none) := fun j hj => by
      rw [World.cell?_alloc_past _ _ _ (by simp), World.cell?_alloc_at _ _ _ _ rfl]
      match j, hj with
      | 0, _ => rfl
      | 1, _ => rfl
      | 2, _ => rfl
    have hfz : ∀ j, ((w.alloc (Obj.cells #[Value.map none, Value.map none, Value.map none] 34)).alloc (Obj.map #[] 0)).frozen? ⟨w.heap.size, j, none⟩ = false := fun j => by
      rw [World.frozen?_alloc_past _ _ _ (by simp), World.frozen?_alloc_at _ _ _ _ rfl]
    have hsz : ((w.alloc (Obj.cells #[Value.map none, Value.map none, Value.map none] 34)).alloc (Obj.map #[] 0)).heap.size = w.heap.size + 2 := by simp
    refine (elems_any a2 n2 os _ hno hzo (hSo.out.below hB0)).mono ?_
    rintro e w1 ⟨rfl, hown1, hb1⟩
    rw [hsz] at hown1 hb1
    have hM1 := owns_below hM hb1 (by omega)
    have hC1 : ∀ j, j < 3 → w1.cell? ⟨w.heap.size, j, none⟩ = some (.map none) := fun j hj => (hb1.cell (p := ⟨w.heap.size, j, none⟩) (by show w.heap.size < _; omega)).trans (hC j hj)
    have hfz1 : ∀ j, w1.frozen? ⟨w.heap.size, j, none⟩ = false := fun j => (hb1.frozen (p := ⟨w.heap.size, j, none⟩) (by show w.heap.size < _; omega)).trans (hfz j)
    have hB1 : Below w.heap.size w w1 := hB0.trans (hb1.mono (by omega))
    have hs1 := hb1.size
    rw [hsz] at hs1
    clear hM hC hfz hb1 hmm hB0
    go_wp2_with (first | (at_mapUpdate; refine wpList_mapUpdate_own _ rfl _ _ _ 31 rfl 9 51 law9 Trym.underlying31 flagElem (w.heap.size + 1) 0 _ rfl hM1 (by unfold maxLen; omega) _ _ _ rfl rfl hkeyo _ [] (flagElem_mk _) ?_))
    intro w2 hM2 hg2
    have hC2 : ∀ j, j < 3 → w2.cell? ⟨w.heap.size, j, none⟩ = some (.map none) := fun j hj => (grown_cell hg2 (by omega) (by omega)).trans (hC1 j hj)
    have hfz2 : ∀ j, w2.frozen? ⟨w.heap.size, j, none⟩ = false := fun j => (grown_frozen hg2 (by omega) (by omega)).trans (hfz1 j)
    have hB2 : Below w.heap.size w w2 := hB1.grown hg2 hB1.size (fun k hk => by cases hk; omega)
    have hs2 := hg2.size
    clear hC1 hfz1 hM1 hown1 hg2 hB1
    go_wp2_with fail
    refine (elems_any a1 n1 ss _ hn hz (hS.out.below hB2)).mono ?_
    rintro e w3 ⟨rfl, hown3, hb3⟩
    have hM3 := owns_below hM2 hb3 (by omega)
    have hC3 : ∀ j, j < 3 → w3.cell? ⟨w.heap.size, j, none⟩ = some (.map none) := fun j hj => (hb3.cell (p := ⟨w.heap.size, j, none⟩) (by show w.heap.size < _; omega)).trans (hC2 j hj)
    have hfz3 : ∀ j, w3.frozen? ⟨w.heap.size, j, none⟩ = false := fun j => (hb3.frozen (p := ⟨w.heap.size, j, none⟩) (by show w.heap.size < _; omega)).trans (hfz2 j)
    have hB3 : Below w.heap.size w w3 := hB2.trans (hb3.mono hB2.size)
    have hs3 := hb3.size
    clear hC2 hfz2 hM2 hb3 hB2
    go_wp2_with (first | (at_mapUpdate; refine wpList_mapUpdate_own _ rfl _ _ _ 31 rfl 9 51 law9 Trym.underlying31 flagElem (w.heap.size + 1) 1 _ rfl hM3 (by unfold maxLen; omega) _ _ _ rfl rfl hkey _ [] (flagElem_mk _) ?_))
    intro w4 hM4 hg4
    have hC4 : ∀ j, j < 3 → w4.cell? ⟨w.heap.size, j, none⟩ = some (.map none) := fun j hj => (grown_cell hg4 (by omega) (by omega)).trans (hC3 j hj)
    have hfz4 : ∀ j, w4.frozen? ⟨w.heap.size, j, none⟩ = false := fun j => (grown_frozen hg4 (by omega) (by omega)).trans (hfz3 j)
    have hE4 := hown3.kept hg4 (by simp; omega)
    have hB4 : Below w.heap.size w w4 := hB3.grown hg4 hB3.size (fun k hk => by cases hk; omega)
    have hs4 := hg4.size
    have c0 := hC4 0 (by omega)
    have c1 := hC4 1 (by omega)
    have c2 := hC4 2 (by omega)
    have z0 := hfz4 0
    have z1 := hfz4 1
    have z2 := hfz4 2
    have hlt4 : w.heap.size < w4.heap.size := by omega
    clear hC3 hfz3 hC4 hfz4 hM3 hown3
    go_wp2_with fail
    refine bodyPost_ret (v := .agg #[.map none, .map (some (w.heap.size + 1)), .map none]) (by simp [results, Trym.results13, go_sem, c0, c1, c2]) rfl ⟨_, rfl, ⟨w.heap.size + 1, w2.heap.size, 2, ss.length, ((.map [] : DataW Unit).put (litS other) (.lit (.int .i64 (w.heap.size + 2 : Nat)))).put (litS nm) (.lit (.int .i64 (w2.heap.size : Nat))), rfl, ?_, atKey_put_same (IsMap.put isMap_empty _ _) (isKey nm) _ _, hn, ?_⟩, ?_⟩
    · exact ((hM4.setCell (by show _ ≠ w.heap.size; omega) _).setCell (by show _ ≠ w.heap.size; omega) _).setCell (by show _ ≠ w.heap.size; omega) _
    · exact ((hE4.setCell (by show _ ≠ w.heap.size; omega) _).setCell (by show _ ≠ w.heap.size; omega) _).setCell (by show _ ≠ w.heap.size; omega) _
    · exact ((hB4.setCell (Nat.le_refl _) _).setCell (Nat.le_refl _) _).setCell (Nat.le_refl _) _

end Go.Proofs.Qxb6600425aMods.words
