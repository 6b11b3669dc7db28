/-
  Plain facts on the labels' map: how many entries it has (seat b6600425aM).
-/
import Derived.Test.Qxb6600425aModsZzLabels
import Derived.Maps.StringElems
namespace Go.Proofs.Qxb6600425aMods.words
open Go.ChangeShapes Go.WideShapes Go.ChangeAt Go.RowKit Go.Maps Go.WideMaps
set_option linter.unusedVariables false

theorem len_le {α : Type} : ∀ (l₁ l₂ : List α), l₁.Nodup → (∀ x ∈ l₁, x ∈ l₂) → l₁.length ≤ l₂.length
  | [], _, _, _ => Nat.zero_le _
  | x :: r, l₂, hn, hs => by
    obtain ⟨u, v, rfl⟩ := List.append_of_mem (hs x (by simp))
    have hx : x ∉ r := (List.nodup_cons.1 hn).1
    have ih := len_le r (u ++ v) (List.nodup_cons.1 hn).2 (fun y hy => by
      have := hs y (by simp [hy])
      rcases List.mem_append.1 this with h | h
      · exact List.mem_append.2 (.inl h)
      · rcases List.mem_cons.1 h with h | h
        · subst h; exact absurd hy hx
        · exact List.mem_append.2 (.inr h))
    simp at ih ⊢
    omega

theorem size_of {D : DataW Unit} (hD : ∃ es, D = .map es ∧ es.Pairwise (fun p q => p.1 ≠ q.1) ∧ ∀ p ∈ es, WideAt.IsKeyLit p.1) (L : List Lit) (hL : L.Nodup) (h : ∀ k, Maps.has D k = true ↔ k ∈ L) : Maps.size D = L.length := by
  obtain ⟨es, rfl, hp, hk⟩ := hD
  have hmem : ∀ k, k ∈ es.map Prod.fst ↔ k ∈ L := fun k => by
    rw [← h k, has_eq, List.any_eq_true]
    constructor
    · intro hm
      obtain ⟨p, hp1, rfl⟩ := List.mem_map.1 hm
      exact ⟨p, hp1, WideAt.sameKey_self (hk p hp1)⟩
    · rintro ⟨p, hp1, hs⟩
      exact List.mem_map.2 ⟨p, hp1, WideAt.sameKey_eq hs⟩
  have hnd : (es.map Prod.fst).Nodup := by
    rw [List.Nodup, List.pairwise_map]; exact hp
  have e1 := len_le _ _ hnd (fun x hx => (hmem x).1 hx)
  have e2 := len_le _ _ hL (fun x hx => (hmem x).2 hx)
  rw [size_eq]
  simp at e1 e2
  omega

/-- The keys that the law's loop has counted behind k rounds. -/
def selTo (ss : List ByteArray) (m : ByteArray → Bool) : Nat → List Lit
  | 0 => []
  | k + 1 => if firstN ss (ss.getD k ByteArray.empty) = k ∧ m (ss.getD k ByteArray.empty) = true then selTo ss m k ++ [litS (ss.getD k ByteArray.empty)] else selTo ss m k

theorem selTo_le (ss : List ByteArray) (m : ByteArray → Bool) : ∀ k, (selTo ss m k).length ≤ k
  | 0 => Nat.le_refl _
  | k + 1 => by
    have := selTo_le ss m k
    unfold selTo; split <;> simp <;> omega

theorem mem_selTo (ss : List ByteArray) (m : ByteArray → Bool) : ∀ (k : Nat) (x : Lit), x ∈ selTo ss m k ↔ ∃ j, j < k ∧ firstN ss (ss.getD j ByteArray.empty) = j ∧ m (ss.getD j ByteArray.empty) = true ∧ x = litS (ss.getD j ByteArray.empty)
  | 0, x => by simp [selTo]
  | k + 1, x => by
    unfold selTo
    split
    · rename_i h
      rw [List.mem_append, mem_selTo ss m k x, List.mem_singleton]
      constructor
      · rintro (⟨j, hj, h1, h2, h3⟩ | h3)
        · exact ⟨j, by omega, h1, h2, h3⟩
        · exact ⟨k, by omega, h.1, h.2, h3⟩
      · rintro ⟨j, hj, h1, h2, h3⟩
        by_cases e : j = k
        · subst e; exact .inr h3
        · exact .inl ⟨j, by omega, h1, h2, h3⟩
    · rename_i h
      rw [mem_selTo ss m k x]
      constructor
      · rintro ⟨j, hj, h1, h2, h3⟩
        exact ⟨j, by omega, h1, h2, h3⟩
      · rintro ⟨j, hj, h1, h2, h3⟩
        by_cases e : j = k
        · subst e; exact absurd ⟨h1, h2⟩ h
        · exact ⟨j, by omega, h1, h2, h3⟩

theorem selTo_nodup (ss : List ByteArray) (m : ByteArray → Bool) : ∀ k, (selTo ss m k).Nodup
  | 0 => List.Pairwise.nil
  | k + 1 => by
    unfold selTo
    split
    · rename_i h
      rw [List.nodup_append]
      refine ⟨selTo_nodup ss m k, by simp, ?_⟩
      intro x hx y hy
      rw [List.mem_singleton] at hy
      subst hy
      obtain ⟨j, hj, h1, h2, rfl⟩ := (mem_selTo ss m k x).1 hx
      intro e
      have e2 := litS_inj e
      rw [e2] at h1
      omega
    · exact selTo_nodup ss m k

theorem has_setS (ss : List ByteArray) (k : Lit) : Maps.has (setS ss) k = true ↔ ∃ s ∈ ss, litS s = k := by
  unfold setS
  rw [has_setOf _ _ _ (fun x hx => by obtain ⟨s, _, rfl⟩ := List.mem_map.1 hx; exact isKey s), List.any_eq_true]
  constructor
  · rintro ⟨x, hx, hs⟩
    obtain ⟨s, h1, rfl⟩ := List.mem_map.1 hx
    exact ⟨s, h1, WideAt.sameKey_eq hs⟩
  · rintro ⟨s, h1, rfl⟩
    exact ⟨litS s, List.mem_map.2 ⟨s, h1, rfl⟩, WideAt.sameKey_self (isKey s)⟩

theorem mem_getD {ss : List ByteArray} {s : ByteArray} (h : s ∈ ss) : firstN ss s < ss.length ∧ ss.getD (firstN ss s) ByteArray.empty = s := ⟨firstN_lt h, firstN_at ss s (firstN_lt h)⟩

/-- What the law asks of the labels' map. -/
structure Right (w : World) (L : Nat) (ss : List ByteArray) (m : ByteArray → Bool) : Prop where
  look : ∀ s ∈ ss, s.size ≤ maxLen → ∃ v : ByteArray, (Instr.lookup 28 (.map (some L)) (.string s) true).run Trym.prog w = .ok (.tuple #[.string v, .bool (m s)]) w ∧ (m s = true → v = trueB)
  len : ∀ ty, (Builtin.len_ #[28] ty #[.map (some L)]).run Trym.prog w = .ok (.int .i64 ((selTo ss m ss.length).length : Nat)) w

theorem zero9 (w : World) : (zeroValue 9).run Trym.prog w = .ok (.string ByteArray.empty) w := by kernel_rfl

theorem Labels.right {w : World} {L : Nat} {ss un la : List ByteArray} (h : Labels w L (setS ss) (modL un la)) : Right w L ss (modelB un la) := by
  obtain ⟨n, D, hown, hn, hhas, hval⟩ := h
  constructor
  · intro s hs hsz
    obtain ⟨v, ps, hrun, hv⟩ := hown.look_ok law9 Trym.underlying28 (zero9 w) (plainElem_string (H := Unit) Trym.underlying9 (s := ByteArray.empty) (by decide)) (key_ok hsz)
    have hh : Maps.has D (litS s) = modelB un la s := by
      rw [hhas, (has_setS ss (litS s)).2 ⟨s, hs, rfl⟩, modL_litS]; rfl
    rw [hh] at hrun
    obtain ⟨t, rfl, hz, _⟩ := plainElem_string_inv Trym.underlying9 hv
    refine ⟨t, hrun, fun hm => ?_⟩
    have hd := hval (litS s) (.lit (.string ByteArray.empty.data.toList)) (hh.trans hm)
    simp only [Prod.mk.injEq] at hz
    rw [hz.1] at hd
    unfold trueD at hd
    injection hd with hd
    injection hd with hd
    cases t
    unfold trueB
    congr 1
    exact Array.toList_inj.1 hd
  · intro ty
    have e : Maps.size D = (selTo ss (modelB un la) ss.length).length := size_of (hown.entries law9) _ (selTo_nodup _ _ _) (fun k => by
      rw [hhas, Bool.and_eq_true, has_setS, mem_selTo]
      constructor
      · rintro ⟨⟨s, hs, rfl⟩, hm⟩
        obtain ⟨h1, h2⟩ := mem_getD hs
        exact ⟨firstN ss s, h1, by rw [h2], by rw [h2]; exact hm, by rw [h2]⟩
      · rintro ⟨j, hj, h1, h2, rfl⟩
        exact ⟨⟨_, getD_mem hj, rfl⟩, by rw [modL_litS]; exact h2⟩)
    rw [← e]
    exact hown.len Trym.underlying28 ty
end Go.Proofs.Qxb6600425aMods.words
