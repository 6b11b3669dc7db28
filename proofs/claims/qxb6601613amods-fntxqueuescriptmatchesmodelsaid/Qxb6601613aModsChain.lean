/-
  Chains, in plain words (seat b6601613aM).
-/
import Derived.Test.Qxb6601613aModsTxOps
namespace Go.Proofs.Qxb6601613aMods.q
open Go.ChangeShapes Go.WideShapes Go.ChangeAt Go.RowKit
set_option linter.unusedVariables false

/-- L, front to back, is what the links say. -/
structure Chain (L : List Nat) (F B : Option Nat) (P N : Nat → Option Nat) : Prop where
  nodup : L.Nodup
  front : F = L[0]?
  back : B = L[L.length - 1]?
  prev : ∀ i b, L[i]? = some b → P b = if i = 0 then none else L[i - 1]?
  next : ∀ i b, L[i]? = some b → N b = L[i + 1]?

theorem at_inj {L : List Nat} (h : L.Nodup) {i j b : Nat} (hi : L[i]? = some b) (hj : L[j]? = some b) : i = j := by
  have hlt : i < L.length := (List.getElem?_eq_some_iff.1 hi).1
  exact (List.getElem?_inj hlt h).1 (hi.trans hj.symm)

theorem at_lt {L : List Nat} {i b : Nat} (hi : L[i]? = some b) : i < L.length := (List.getElem?_eq_some_iff.1 hi).1
theorem at_mem {L : List Nat} {i b : Nat} (hi : L[i]? = some b) : b ∈ L := List.mem_of_getElem? hi

theorem chain_nil (P N : Nat → Option Nat) : Chain [] none none P N := ⟨List.Pairwise.nil, rfl, rfl, fun i b h => by simp at h, fun i b h => by simp at h⟩

theorem chain_push_nil {F : Option Nat} {P N : Nat → Option Nat} {p : Nat} (hN : N p = none) : Chain [p] (some p) (some p) (upd P p none) N := by
  refine ⟨by simp, rfl, rfl, fun i b h => ?_, fun i b h => ?_⟩
  · have hi := at_lt h
    simp at hi
    subst hi
    simp at h
    subst h
    rw [upd_same]; rfl
  · have hi := at_lt h
    simp at hi
    subst hi
    simp at h
    subst h
    rw [hN]; rfl

theorem chain_push {L : List Nat} {F : Option Nat} {P N : Nat → Option Nat} {p x : Nat} (h : Chain L F (some x) P N) (hp : p ∉ L) (hN : N p = none) : Chain (L ++ [p]) F (some p) (upd P p (some x)) (upd N x (some p)) := by
  have hb : L[L.length - 1]? = some x := h.back.symm
  have hlt := at_lt hb
  have hxL := at_mem hb
  have hxp : p ≠ x := fun e => hp (e ▸ hxL)
  have old : ∀ i, i < L.length → (L ++ [p])[i]? = L[i]? := fun i hi => by rw [List.getElem?_append_left hi]
  have new : (L ++ [p])[L.length]? = some p := by simp
  have past : ∀ i, L.length < i → (L ++ [p])[i]? = none := fun i hi => by rw [List.getElem?_eq_none]; simp; omega
  refine ⟨?_, ?_, ?_, fun i b hi => ?_, fun i b hi => ?_⟩
  · rw [List.nodup_append]
    exact ⟨h.nodup, by simp, fun a ha b hb => by rw [List.mem_singleton] at hb; subst hb; exact fun e => hp (e ▸ ha)⟩
  · rw [h.front, old 0 (by omega)]
  · rw [List.length_append, List.length_singleton, Nat.add_sub_cancel, new]
  · rcases Nat.lt_trichotomy i L.length with hl | hl | hl
    · rw [old i hl] at hi
      have hbp : b ≠ p := fun e => hp (e ▸ at_mem hi)
      rw [upd_other _ _ hbp, h.prev i b hi]
      by_cases e : i = 0
      · rw [if_pos e, if_pos e]
      · rw [if_neg e, if_neg e, old (i - 1) (by omega)]
    · subst hl
      rw [new] at hi
      cases hi
      rw [upd_same, if_neg (by omega), old _ (by omega), hb]
    · rw [past i hl] at hi; cases hi
  · rcases Nat.lt_trichotomy i L.length with hl | hl | hl
    · rw [old i hl] at hi
      by_cases e : b = x
      · subst e
        have := at_inj h.nodup hi hb
        have e2 : i + 1 = L.length := by omega
        rw [upd_same, e2, new]
      · rw [upd_other _ _ e, h.next i b hi]
        have hne : i ≠ L.length - 1 := fun e2 => by rw [e2, hb] at hi; exact e (Option.some.inj hi).symm
        rw [old (i + 1) (by omega)]
    · subst hl
      rw [new] at hi
      cases hi
      rw [upd_other _ _ hxp, hN, past _ (by omega)]
    · rw [past i hl] at hi; cases hi

theorem chain_erase {L : List Nat} {F B F' B' : Option Nat} {P N P' N' : Nat → Option Nat} {k p : Nat} (h : Chain L F B P N) (hk : L[k]? = some p)
    (hF : F' = if k = 0 then N p else F) (hB : B' = if k + 1 = L.length then P p else B)
    (hP : ∀ b, P' b = if L[k + 1]? = some b then P p else P b) (hN : ∀ b, N' b = if k ≠ 0 ∧ L[k - 1]? = some b then N p else N b) : Chain (L.eraseIdx k) F' B' P' N' := by
  have hlt := at_lt hk
  have er : ∀ i, (L.eraseIdx k)[i]? = if i < k then L[i]? else L[i + 1]? := fun i => List.getElem?_eraseIdx
  have hlen : (L.eraseIdx k).length = L.length - 1 := by rw [List.length_eraseIdx, if_pos hlt]
  have hPp := h.prev k p hk
  have hNp := h.next k p hk
  refine ⟨List.Nodup.sublist (List.eraseIdx_sublist L k) h.nodup, ?_, ?_, fun i b hi => ?_, fun i b hi => ?_⟩
  · rw [hF, er 0]
    by_cases e : k = 0
    · subst e
      rw [if_pos rfl, if_neg (by omega), hNp]
    · rw [if_neg e, if_pos (by omega), h.front]
  · rw [hB, hlen, er]
    by_cases e : k + 1 = L.length
    · rw [if_pos e, hPp]
      by_cases e0 : k = 0
      · rw [if_pos e0, if_neg (by omega)]
        rw [List.getElem?_eq_none (by omega)]
      · rw [if_neg e0, if_pos (by omega)]
        congr 1
        omega
    · rw [if_neg e, h.back]
      by_cases e2 : L.length - 1 - 1 < k
      · omega
      · rw [if_neg e2]
        congr 1
        omega
  · rw [er] at hi
    by_cases hik : i < k
    · rw [if_pos hik] at hi
      have hne : L[k + 1]? ≠ some b := fun e => by have := at_inj h.nodup hi e; omega
      rw [hP, if_neg hne, h.prev i b hi]
      by_cases e : i = 0
      · rw [if_pos e, if_pos e]
      · rw [if_neg e, if_neg e, er, if_pos (by omega)]
    · rw [if_neg hik] at hi
      by_cases e : i = k
      · subst e
        rw [hP, if_pos hi, hPp]
        by_cases e0 : i = 0
        · rw [if_pos e0, if_pos e0]
        · rw [if_neg e0, if_neg e0, er, if_pos (by omega)]
      · have hne : L[k + 1]? ≠ some b := fun e2 => by have := at_inj h.nodup hi e2; omega
        rw [hP, if_neg hne, h.prev (i + 1) b hi, if_neg (by omega), if_neg (by omega), er, if_neg (by omega)]
        congr 1
        omega
  · rw [er] at hi
    by_cases hik : i < k
    · rw [if_pos hik] at hi
      by_cases e : i = k - 1
      · have hki : i + 1 = k := by omega
        have hc : L[k - 1]? = some b := by rw [← e]; exact hi
        rw [hN, if_pos ⟨by omega, hc⟩, hNp, er, if_neg (by omega), hki]
      · have hne : ¬ (k ≠ 0 ∧ L[k - 1]? = some b) := fun e2 => by have := at_inj h.nodup hi e2.2; omega
        rw [hN, if_neg hne, h.next i b hi, er, if_pos (by omega)]
    · rw [if_neg hik] at hi
      have hne : ¬ (k ≠ 0 ∧ L[k - 1]? = some b) := fun e2 => by have := at_inj h.nodup hi e2.2; omega
      rw [hN, if_neg hne, h.next (i + 1) b hi, er, if_neg (by omega)]

theorem zz_push (w : World) (Q p : Nat) (F B : Option Nat) (S L : List Nat) (P N : Nat → Option Nat) (hM : Hid (Mem w Q F B S P N)) (hC : Hid (Chain L F B P N)) (hS : Hid (∀ x ∈ L, x ∈ S)) (hp : Hid (p ∈ S)) (hL : Hid (p ∉ L)) (hN : Hid (N p = none)) :
    Calls Trym.prog 15 #[.pointer (some ⟨Q, 0, none⟩), .pointer (some ⟨p, 0, none⟩)] w fun e w' => e = .returned (.tuple #[]) ∧ ∃ F' P' N', Mem w' Q F' (some p) S P' N' ∧ Chain (L ++ [p]) F' (some p) P' N' ∧ (∀ b, b ∉ L → b ≠ p → P' b = P b ∧ N' b = N b) ∧ Only (Q :: S) w w' := by
  cases B with
  | none =>
    have hL0 : L = [] := by
      have := hC.out.back
      cases L with
      | nil => rfl
      | cons a l => simp at this
    go_enter Trym.func15, Trym.ntmps15
    go_wp2_with fail
    refine (push_nil w p hM hp).mono ?_
    rintro e w' ⟨rfl, h1, h2⟩
    go_wp2_with fail
    go_end0
    refine ⟨rfl, some p, upd P p none, N, h1, ?_, fun b _ hb => ⟨upd_other _ _ hb, rfl⟩, h2⟩
    rw [hL0]
    exact chain_push_nil (F := F) hN.out
  | some x =>
    have hx : Hid (x ∈ S) := hS.out x (at_mem hC.out.back.symm)
    have hxL : Hid (x ∈ L) := at_mem hC.out.back.symm
    go_enter Trym.func15, Trym.ntmps15
    go_wp2_with fail
    refine (push_some w p x hM hp hx).mono ?_
    rintro e w' ⟨rfl, h1, h2⟩
    go_wp2_with fail
    go_end0
    exact ⟨rfl, F, _, _, h1, chain_push hC.out hL.out hN.out, fun b hb hbp => ⟨upd_other _ _ hbp, upd_other _ _ (fun e => hb (e ▸ hxL.out))⟩, h2⟩

theorem mem_erase {L : List Nat} {k j b : Nat} (hj : L[j]? = some b) (hne : j ≠ k) (hk : k < L.length) : b ∈ L.eraseIdx k := by
  rcases Nat.lt_or_ge j k with h | h
  · exact List.mem_of_getElem? (i := j) (by rw [List.getElem?_eraseIdx, if_pos h]; exact hj)
  · exact List.mem_of_getElem? (i := j - 1) (by rw [List.getElem?_eraseIdx, if_neg (by omega)]; rw [show j - 1 + 1 = j by omega]; exact hj)

theorem zz_remove (w : World) (Q p k : Nat) (F B : Option Nat) (S L : List Nat) (P N : Nat → Option Nat) (hM : Hid (Mem w Q F B S P N)) (hC : Hid (Chain L F B P N)) (hS : Hid (∀ x ∈ L, x ∈ S)) (hk : Hid (L[k]? = some p)) :
    Calls Trym.prog 18 #[.pointer (some ⟨Q, 0, none⟩), .pointer (some ⟨p, 0, none⟩)] w fun e w' => e = .returned (.tuple #[]) ∧ ∃ F' B' P' N', Mem w' Q F' B' S P' N' ∧ Chain (L.eraseIdx k) F' B' P' N' ∧ (∀ b, b ∉ L.eraseIdx k → P' b = P b ∧ N' b = N b) ∧ Only (Q :: S) w w' := by
  have hlt := at_lt hk.out
  have hp : Hid (p ∈ S) := hS.out p (at_mem hk.out)
  have hPp := hC.out.prev k p hk.out
  have hNp := hC.out.next k p hk.out
  by_cases e0 : k = 0
  · rw [if_pos e0] at hPp
    by_cases e1 : k + 1 = L.length
    · have hnn : L[k + 1]? = none := by rw [List.getElem?_eq_none]; omega
      rw [hnn] at hNp
      have hP : Hid (P p = none) := hPp
      have hN : Hid (N p = none) := hNp
      clear hPp hNp
      go_enter Trym.func18, Trym.ntmps18
      go_wp2_with fail
      refine (rem_nn w p hM hp hP hN).mono ?_
      rintro e w' ⟨rfl, h1, h2⟩
      go_wp2_with fail
      go_end0
      refine ⟨rfl, _, _, _, _, h1, chain_erase hC.out hk.out (by rw [if_pos e0, hN.out]) (by rw [if_pos e1, hP.out]) (fun b => by rw [hnn, if_neg (by simp)]) (fun b => by rw [if_neg (fun h => h.1 e0)]), fun b _ => ⟨rfl, rfl⟩, h2⟩
    · obtain ⟨y, hy⟩ : ∃ y, L[k + 1]? = some y := ⟨_, List.getElem?_eq_getElem (by omega)⟩
      rw [hy] at hNp
      have hP : Hid (P p = none) := hPp
      have hN : Hid (N p = some y) := hNp
      clear hPp hNp
      have hyS : Hid (y ∈ S) := hS.out y (at_mem hy)
      have hyp : y ≠ p := fun e => by subst e; have := at_inj hC.out.nodup hy hk.out; omega
      go_enter Trym.func18, Trym.ntmps18
      go_wp2_with fail
      refine (rem_ns w p y hM hp hyS hP hN hyp).mono ?_
      rintro e w' ⟨rfl, h1, h2⟩
      go_wp2_with fail
      go_end0
      refine ⟨rfl, _, _, _, _, h1, chain_erase hC.out hk.out (by rw [if_pos e0, hN.out]) (by rw [if_neg e1]) (fun b => ?_) (fun b => by rw [if_neg (fun h => h.1 e0)]), fun b hb => ⟨upd_other _ _ (fun e => hb (e ▸ mem_erase hy (by omega) hlt)), rfl⟩, h2⟩
      rw [hy, hP.out]
      by_cases e : b = y
      · subst e; rw [upd_same, if_pos rfl]
      · rw [upd_other _ _ e, if_neg (fun h => e (Option.some.inj h).symm)]
  · rw [if_neg e0] at hPp
    obtain ⟨x, hx⟩ : ∃ x, L[k - 1]? = some x := ⟨_, List.getElem?_eq_getElem (by omega)⟩
    rw [hx] at hPp
    have hxS : Hid (x ∈ S) := hS.out x (at_mem hx)
    have hxp : x ≠ p := fun e => by subst e; have := at_inj hC.out.nodup hx hk.out; omega
    by_cases e1 : k + 1 = L.length
    · have hnn : L[k + 1]? = none := by rw [List.getElem?_eq_none]; omega
      rw [hnn] at hNp
      have hP : Hid (P p = some x) := hPp
      have hN : Hid (N p = none) := hNp
      clear hPp hNp
      go_enter Trym.func18, Trym.ntmps18
      go_wp2_with fail
      refine (rem_sn w p x hM hp hxS hP hN hxp).mono ?_
      rintro e w' ⟨rfl, h1, h2⟩
      go_wp2_with fail
      go_end0
      refine ⟨rfl, _, _, _, _, h1, chain_erase hC.out hk.out (by rw [if_neg e0]) (by rw [if_pos e1, hP.out]) (fun b => by rw [hnn, if_neg (by simp)]) (fun b => ?_), fun b hb => ⟨rfl, upd_other _ _ (fun e => hb (e ▸ mem_erase hx (by omega) hlt))⟩, h2⟩
      rw [hx, hN.out]
      by_cases e : b = x
      · subst e; rw [upd_same, if_pos ⟨e0, rfl⟩]
      · rw [upd_other _ _ e, if_neg (fun h => e (Option.some.inj h.2).symm)]
    · obtain ⟨y, hy⟩ : ∃ y, L[k + 1]? = some y := ⟨_, List.getElem?_eq_getElem (by omega)⟩
      rw [hy] at hNp
      have hP : Hid (P p = some x) := hPp
      have hN : Hid (N p = some y) := hNp
      clear hPp hNp
      have hyS : Hid (y ∈ S) := hS.out y (at_mem hy)
      have hyp : y ≠ p := fun e => by subst e; have := at_inj hC.out.nodup hy hk.out; omega
      go_enter Trym.func18, Trym.ntmps18
      go_wp2_with fail
      refine (rem_ss w p x y hM hp hxS hyS hP hN hxp hyp).mono ?_
      rintro e w' ⟨rfl, h1, h2⟩
      go_wp2_with fail
      go_end0
      refine ⟨rfl, _, _, _, _, h1, chain_erase hC.out hk.out (by rw [if_neg e0]) (by rw [if_neg e1]) (fun b => ?_) (fun b => ?_), fun b hb => ⟨upd_other _ _ (fun e => hb (e ▸ mem_erase hy (by omega) hlt)), upd_other _ _ (fun e => hb (e ▸ mem_erase hx (by omega) hlt))⟩, h2⟩
      · rw [hy, hP.out]
        by_cases e : b = y
        · subst e; rw [upd_same, if_pos rfl]
        · rw [upd_other _ _ e, if_neg (fun h => e (Option.some.inj h).symm)]
      · rw [hx, hN.out]
        by_cases e : b = x
        · subst e; rw [upd_same, if_pos ⟨e0, rfl⟩]
        · rw [upd_other _ _ e, if_neg (fun h => e (Option.some.inj h.2).symm)]
end Go.Proofs.Qxb6601613aMods.q
