/-
  Contracts of lawPrefix and lawFirst (seat b6600425aM).
-/
import Derived.Test.Qxb6600425aModsWords
namespace Go.Proofs.Qxb6600425aMods.words
open Go.ChangeShapes Go.WideShapes Go.ChangeAt Go.RowKit
set_option linter.unusedVariables false

/-- preL s p: p is a prefix of s. -/
def preL : List UInt8 → List UInt8 → Bool
  | _, [] => true
  | [], _ :: _ => false
  | a :: s, b :: p => if a = b then preL s p else false

theorem preL_short : ∀ (s p : List UInt8), s.length < p.length → preL s p = false
  | _, [], h => by simp at h
  | [], _ :: _, _ => rfl
  | a :: s, b :: p, h => by
    unfold preL
    split
    · exact preL_short s p (by simpa using h)
    · rfl

set_option maxHeartbeats 400000 in
theorem prefix_any (s p : ByteArray) (w : World) (hs : s.size ≤ maxLen) (hp : p.size ≤ maxLen) (r : Bool) (h : Hid (preL s.data.toList p.data.toList = r)) :
    Calls Trym.prog 25 #[.string s, .string p] w fun e w' => e = .returned (.bool r) ∧ ∃ m, w' = w.drewN m := by
  unfold maxLen at hs hp
  by_cases hsp : s.size < p.size
  · have hr : r = false := by rw [← h.out]; exact preL_short _ _ (by simpa using hsp)
    subst hr
    go_enter Trym.func25, Trym.ntmps25
    go_wp2
    go_ret
    exact ⟨rfl, 0, rfl⟩
  · go_enter Trym.func25, Trym.ntmps25
    go_wp2
    go_loopw [5] (fun i wr => ∃ k n : Nat, k ≤ p.size ∧ i = .int .i64 k ∧ wr = w.drewN n ∧ Hid (preL (s.data.toList.drop k) (p.data.toList.drop k) = r)) (fun i _ => p.size - (intOf i).toNat)
    case atStart => exact ⟨0, 0, Nat.zero_le _, rfl, rfl, h⟩
    case round =>
      obtain ⟨k, n, hkp, rfl, rfl, hL⟩ := hrel
      clear h
      by_cases hlt : k < p.size
      · have hls : k < s.size := by omega
        have hL' : Hid (preL (s[k] :: s.data.toList.drop (k + 1)) (p[k] :: p.data.toList.drop (k + 1)) = r) := by
          have := hL.out; rw [drop_cons s k hls, drop_cons p k hlt] at this; exact this
        clear hL
        go_wp2
        go_quiet (fail)
        go_wp2
        · go_ret
          rename_i hne
          refine ⟨ret_bool ?_, _, by rw [World.drewN_drewN]⟩
          have hq := hL'.out
          have hne' : ¬ s[k] = p[k] := fun e => by rw [e] at hne; simp at hne
          simp only [preL, if_neg hne'] at hq
          exact hq
        · rename_i heq
          have hq := hL'.out
          have he : s[k] = p[k] := toNat_inj (by simpa using heq)
          simp only [preL, if_pos he] at hq
          exact ⟨⟨k + 1, n + nq, by omega, by go_num, rfl, hq⟩, by simp [intOf]; omega⟩
      · go_wp2
        go_ret
        have hq := hL.out
        rw [List.drop_of_length_le (l := p.data.toList) (by simp; omega)] at hq
        refine ⟨ret_bool ?_, _, rfl⟩
        simpa [preL] using hq

/-- The first place of x in ss (ss.length where there is none). -/
def firstN : List ByteArray → ByteArray → Nat
  | [], _ => 0
  | s :: r, x => if s = x then 0 else firstN r x + 1

theorem firstN_le : ∀ (ss : List ByteArray) (x : ByteArray), firstN ss x ≤ ss.length
  | [], _ => Nat.le_refl _
  | s :: r, x => by unfold firstN; split <;> simp; exact firstN_le r x

theorem firstN_lt {ss : List ByteArray} {x : ByteArray} (h : x ∈ ss) : firstN ss x < ss.length := by
  induction ss with
  | nil => cases h
  | cons s r ih =>
    unfold firstN; split
    · simp
    · rename_i hne
      rcases List.mem_cons.1 h with h | h
      · exact absurd h.symm hne
      · simpa using ih h

theorem firstN_ne : ∀ (ss : List ByteArray) (x : ByteArray) (k : Nat), k < firstN ss x → ss.getD k ByteArray.empty ≠ x
  | [], _, _, h => by simp [firstN] at h
  | s :: r, x, k, h => by
    unfold firstN at h
    split at h
    · simp at h
    · rename_i hne
      cases k with
      | zero => simpa using hne
      | succ k => simpa using firstN_ne r x k (by omega)

theorem firstN_at : ∀ (ss : List ByteArray) (x : ByteArray), firstN ss x < ss.length → ss.getD (firstN ss x) ByteArray.empty = x
  | [], _, h => by simp at h
  | s :: r, x, h => by
    unfold firstN at h ⊢
    split
    · rename_i he; simpa using he
    · rename_i hne
      rw [if_neg hne] at h
      simpa using firstN_at r x (by simpa using h)

theorem firstN_of_lt {ss : List ByteArray} {x : ByteArray} {k : Nat} (hk : k ≤ firstN ss x) (hlt : k < ss.length) (h : ¬ ss.getD k ByteArray.empty = x) : k + 1 ≤ firstN ss x := by
  rcases Nat.lt_or_ge k (firstN ss x) with h1 | h1
  · exact h1
  · have : k = firstN ss x := by omega
    subst this
    exact absurd (firstN_at ss x hlt) h

theorem firstN_of_eq {ss : List ByteArray} {x : ByteArray} {k : Nat} (hk : k ≤ firstN ss x) (h : ss.getD k ByteArray.empty = x) : k = firstN ss x := by
  rcases Nat.lt_or_ge k (firstN ss x) with h1 | h1
  · exact absurd h (firstN_ne ss x k h1)
  · omega

theorem toList_beq (a b : ByteArray) : (a.toList == b.toList) = true ↔ a = b := by
  rw [beq_iff_eq, ByteArray.toList_eq, ByteArray.toList_eq]
  constructor
  · intro h
    cases a; cases b
    congr 1
    exact Array.toList_inj.1 h
  · intro h; rw [h]

theorem ret_int {k : IntKind} {a b : Int} (h : a = b) : Ending.returned (.int k a) = .returned (.int k b) := by rw [h]

set_option maxHeartbeats 400000 in
theorem first_any (b off c : Nat) (ss : List ByteArray) (x : ByteArray) (w : World) (hn : ss.length ≤ maxLen) (hx : Hid (x ∈ ss))
    (hc : ∀ j, j < ss.length → w.cell? ⟨b, off + j, none⟩ = some (.string (ss.getD j ByteArray.empty))) :
    Calls Trym.prog 14 #[.slice (some ⟨b, off, none⟩) ss.length c, .string x] w fun e w' => e = .returned (.int .i64 (firstN ss x)) ∧ w' = w := by
  unfold maxLen at hn
  go_enter Trym.func14, Trym.ntmps14
  go_wp2
  go_loop [5] (fun i => ∃ k : Nat, k ≤ firstN ss x ∧ i = .int .i64 k) (fun i => ss.length - (intOf i).toNat)
  case atStart => exact ⟨0, Nat.zero_le _, rfl⟩
  case round =>
    obtain ⟨k, hk, rfl⟩ := hrel
    have hlt : k < ss.length := Nat.lt_of_le_of_lt hk (firstN_lt hx.out)
    have hck := hc k hlt
    obtain ⟨s, hs⟩ : ∃ s, s = ss.getD k ByteArray.empty := ⟨_, rfl⟩
    rw [← hs] at hck
    have HS : Hid (s = ss.getD k ByteArray.empty) := hs
    clear hs
    clear hc
    go_wp2
    · go_ret
      rename_i heq _
      refine ⟨ret_int ?_, rfl⟩
      have := firstN_of_eq hk (by rw [← HS.out]; exact (toList_beq s x).1 heq)
      omega
    · rename_i hne
      have := firstN_of_lt hk hlt (by rw [← HS.out]; exact fun e => by rw [(toList_beq s x).2 e] at hne; cases hne)
      exact ⟨⟨k + 1, this, by go_num⟩, by simp [intOf]; omega⟩
end Go.Proofs.Qxb6600425aMods.words
