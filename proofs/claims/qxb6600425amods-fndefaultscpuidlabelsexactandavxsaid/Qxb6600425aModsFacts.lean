/-
  Plain facts on the default lists (seat b6600425aM).
-/
import Derived.Test.Qxb6600425aModsDefaults
namespace Go.Proofs.Qxb6600425aMods.words
open Go.ChangeShapes Go.WideShapes Go.ChangeAt Go.RowKit
set_option linter.unusedVariables false

def upb (c : UInt8) : Bool := (65 ≤ c.toNat && c.toNat ≤ 90) || (48 ≤ c.toNat && c.toNat ≤ 57) || c.toNat == 95
def lob (c : UInt8) : Bool := (97 ≤ c.toNat && c.toNat ≤ 122) || c.toNat == 95
def hexb (c : UInt8) : Bool := (48 ≤ c.toNat && c.toNat ≤ 57) || (97 ≤ c.toNat && c.toNat ≤ 102)

theorem all_at {p : UInt8 → Bool} {s : ByteArray} (h : s.data.toList.all p = true) (k : Nat) (hk : k < s.size) : p s[k] = true := by
  rw [List.all_eq_true] at h
  exact h _ (by simp [ByteArray.getElem_eq_getElem_data])

theorem up_of {s : ByteArray} (h : s.data.toList.all upb = true) : ∀ k (hk : k < s.size), upB (s[k].toNat : Int) := fun k hk => by
  have := all_at h k hk
  simp [upb] at this
  unfold upB; omega
theorem lo_of {s : ByteArray} (h : s.data.toList.all lob = true) : ∀ k (hk : k < s.size), loB (s[k].toNat : Int) := fun k hk => by
  have := all_at h k hk
  simp [lob] at this
  unfold loB; omega
theorem hex_of {s : ByteArray} (h : s.data.toList.all hexb = true) : ∀ k (hk : k < s.size), hexB (s[k].toNat : Int) := fun k hk => by
  have := all_at h k hk
  simp [hexb] at this
  unfold hexB; omega

theorem U_facts : ∀ k, k < 25 → 0 < (UL.getD k ByteArray.empty).size ∧ (UL.getD k ByteArray.empty).size ≤ 20 ∧ (UL.getD k ByteArray.empty).data.toList.all upb = true := by decide +kernel
theorem U_less : ∀ k, k < 24 → lessL (UL.getD k ByteArray.empty).data.toList (UL.getD (k + 1) ByteArray.empty).data.toList = true := by decide +kernel
theorem K_facts : ∀ k, k < 4 → 0 < (KL.getD k ByteArray.empty).size ∧ (KL.getD k ByteArray.empty).size ≤ 20 ∧ (KL.getD k ByteArray.empty).data.toList.all upb = true ∧ firstN KL (KL.getD k ByteArray.empty) = k := by decide +kernel
theorem P_facts : ∀ k, k < 3 → ((PL.getD k ByteArray.empty).size = 2 ∨ (PL.getD k ByteArray.empty).size = 4) ∧ (PL.getD k ByteArray.empty).data.toList.all hexb = true := by decide +kernel
theorem P_pre : ∀ i, i < 3 → ∀ j, j < 3 → j ≠ i → preL (PL.getD i ByteArray.empty).data.toList (PL.getD j ByteArray.empty).data.toList = false := by decide +kernel
theorem F_facts : ∀ k, k < 2 → 0 < (FL.getD k ByteArray.empty).size ∧ (FL.getD k ByteArray.empty).size ≤ 20 ∧ (FL.getD k ByteArray.empty).data.toList.all lob = true ∧ firstN FL (FL.getD k ByteArray.empty) = k := by decide +kernel

theorem getD_mem {l : List ByteArray} {k : Nat} (h : k < l.length) : l.getD k ByteArray.empty ∈ l := by
  have e : l.getD k ByteArray.empty = l[k] := by simp [List.getD, h]
  rw [e]; exact List.getElem_mem h

theorem first_is (b off c n : Nat) (ss : List ByteArray) (x : ByteArray) (k : Nat) (w : World) (hn : n ≤ maxLen) (hl : Hid (ss.length = n)) (hx : Hid (x ∈ ss)) (hk : Hid (firstN ss x = k))
    (hc : Hid (∀ j, j < n → w.cell? ⟨b, off + j, none⟩ = some (.string (ss.getD j ByteArray.empty)))) :
    Calls Trym.prog 14 #[.slice (some ⟨b, off, none⟩) n c, .string x] w fun e w' => e = .returned (.int .i64 k) ∧ w' = w := by
  have e := hl.out
  have e2 := hk.out
  subst e
  subst e2
  exact first_any b off c ss x w hn hx hc.out
end Go.Proofs.Qxb6600425aMods.words
