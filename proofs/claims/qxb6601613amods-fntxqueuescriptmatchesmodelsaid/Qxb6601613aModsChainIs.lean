/-
  chainIs (seat b6601613aM).
-/
import Derived.Test.Qxb6601613aModsScript
namespace Go.Proofs.Qxb6601613aMods.q
open Go.ChangeShapes Go.WideShapes Go.ChangeAt Go.RowKit
set_option linter.unusedVariables false

section
variable {Q : Nat} {F B : Option Nat} {S : List Nat} {P N : Nat → Option Nat}

theorem prev_is (w : World) (b : Nat) (x : Option Addr) (hM : Hid (Mem w Q F B S P N)) (hb : Hid (b ∈ S)) (hx : Hid (adr (P b) = x)) : Calls Trym.prog 16 #[.pointer (some ⟨b, 0, none⟩)] w fun e w' => e = .returned (.pointer x) ∧ w' = w := by
  have h := hx.out
  subst h
  exact prev_any w b hM hb
theorem next_is (w : World) (b : Nat) (x : Option Addr) (hM : Hid (Mem w Q F B S P N)) (hb : Hid (b ∈ S)) (hx : Hid (adr (N b) = x)) : Calls Trym.prog 17 #[.pointer (some ⟨b, 0, none⟩)] w fun e w' => e = .returned (.pointer x) ∧ w' = w := by
  have h := hx.out
  subst h
  exact next_any w b hM hb
theorem front_is (w : World) (x : Option Addr) (hM : Hid (Mem w Q F B S P N)) (hx : Hid (adr F = x)) : Calls Trym.prog 21 #[.pointer (some ⟨Q, 0, none⟩)] w fun e w' => e = .returned (.pointer x) ∧ w' = w := by
  have h := hx.out
  subst h
  exact front_any w hM
theorem back_is (w : World) (x : Option Addr) (hM : Hid (Mem w Q F B S P N)) (hx : Hid (adr B = x)) : Calls Trym.prog 22 #[.pointer (some ⟨Q, 0, none⟩)] w fun e w' => e = .returned (.pointer x) ∧ w' = w := by
  have h := hx.out
  subst h
  exact back_any w hM

theorem chain_is_nil (H n : Nat) (w : World) (hM : Hid (Mem w Q F B S P N)) (hC : Hid (Chain [] F B P N)) :
    Calls Trym.prog 19 #[.pointer (some ⟨Q, 0, none⟩), .slice (some ⟨H, 0, none⟩) 0 n] w fun e w' => e = .returned (.bool true) ∧ ∃ m, w' = w.drewN m := by
  have hF : Hid (adr F = none) := by show _ = _; rw [hC.out.front]; rfl
  have hB : Hid (adr B = none) := by show _ = _; rw [hC.out.back]; rfl
  go_enter Trym.func19, Trym.ntmps19
  go_wp2_with fail
  refine (front_is _ _ hM hF).mono ?_
  rintro e w3 ⟨rfl, rfl⟩
  go_wp2_with fail
  refine (back_is _ _ hM hB).mono ?_
  rintro e w3 ⟨rfl, rfl⟩
  go_wp2_with fail
  go_ret
  exact ⟨rfl, 0, rfl⟩

set_option maxRecDepth 100000 in
set_option maxHeartbeats 1000000 in
theorem chain_is_some (H n : Nat) (L : List Nat) (w : World) (hM : Hid (Mem w Q F B S P N)) (HC : Hid (Chain L F B P N)) (hS : Hid (∀ x ∈ L, x ∈ S)) (hR : Hid (ORow w H n (L.map some))) (hn : L.length ≤ 4096) (h0 : 0 < L.length) :
    Calls Trym.prog 19 #[.pointer (some ⟨Q, 0, none⟩), .slice (some ⟨H, 0, none⟩) L.length n] w fun e w' => e = .returned (.bool true) ∧ ∃ m, w' = w.drewN m := by
  have hnq := neq_same
  obtain ⟨f, hf⟩ : ∃ f, L[0]? = some f := ⟨_, List.getElem?_eq_getElem h0⟩
  obtain ⟨g, hg⟩ : ∃ g, L[L.length - 1]? = some g := ⟨_, List.getElem?_eq_getElem (by omega)⟩
  have hF : Hid (adr F = some ⟨f, 0, none⟩) := by show _ = _; rw [HC.out.front, hf]; rfl
  have hB : Hid (adr B = some ⟨g, 0, none⟩) := by show _ = _; rw [HC.out.back, hg]; rfl
  have kf : w.cell? ⟨H, 0, none⟩ = some (.pointer (some ⟨f, 0, none⟩)) := hR.out.cell (x := some f) (by simp [hf])
  have kg : w.cell? ⟨H, L.length - 1, none⟩ = some (.pointer (some ⟨g, 0, none⟩)) := hR.out.cell (x := some g) (by simp [hg])
  clear hf hg
  have hz : ((L.length : Int) == 0) = false := beq_eq_false_iff_ne.2 (by omega)
  have h0i : (0 : Int) < (L.length : Int) := by omega
  have h1i : (0 : Int) ≤ (L.length : Int) - 1 := by omega
  have h2i : (L.length : Int) - 1 < (L.length : Int) := by omega
  go_enter Trym.func19, Trym.ntmps19
  go_wp2_with fail
  refine wp_region_quiet_lit (by kernel_rfl) (by kernel_rfl) ?_
  repeat (first | go_big_quiet_step (first | (go_at_call 21; refine Calls.quiet_of_same (front_is _ _ (hM.out.drewN _) hF)) | (go_at_call 22; refine Calls.quiet_of_same (back_is _ _ (hM.out.drewN _) hB))) | quiet_step (first | (go_at_call 21; refine Calls.quiet_of_same (front_is _ _ (hM.out.drewN _) hF)) | (go_at_call 22; refine Calls.quiet_of_same (back_is _ _ (hM.out.drewN _) hB))))
  refine wpQuiet_nil ?_
  intro _ hw'
  obtain ⟨nq, hw''⟩ := hw'
  subst hw''
  go_wp2_with fail
  clear kf kg hF hB h1i h2i
  go_loopw [6] (fun i wr => ∃ k n0 : Nat, k ≤ L.length ∧ i = .int .i64 k ∧ wr = w.drewN n0) (fun i _ => L.length - (intOf i).toNat)
  case atStart => exact ⟨0, nq, Nat.zero_le _, rfl, rfl⟩
  case round =>
    obtain ⟨k, n0, hk, rfl, rfl⟩ := hrel
    by_cases hlt : k < L.length
    · obtain ⟨b, hb⟩ : ∃ b, L[k]? = some b := ⟨_, List.getElem?_eq_getElem hlt⟩
      have hbS : Hid (b ∈ S) := hS.out b (at_mem hb)
      have hMV : Hid (Mem (w.drewN n0) Q F B S P N) := hM.out.drewN n0
      have hRV : Hid (ORow (w.drewN n0) H n (L.map some)) := hR.out.block rfl
      obtain ⟨V, hV⟩ : ∃ V, V = w.drewN n0 := ⟨_, rfl⟩
      rw [← hV] at hMV hRV
      rw [← hV]
      have HV : Hid (V = w.drewN n0) := hV
      clear hV
      have kb : V.cell? ⟨H, k, none⟩ = some (.pointer (some ⟨b, 0, none⟩)) := hRV.out.cell (x := some b) (by simp [hb])
      have hki : (k : Int) < (L.length : Int) := by omega
      cases k with
      | zero =>
        by_cases hl : 0 + 1 < L.length
        · have hkb : L[0]? = some b := hb
          have hP := HC.out.prev _ b hkb
          have hN := HC.out.next _ b hkb
          have hP' : Hid (adr (P b) = none) := by show _ = _; rw [hP]; rfl
          obtain ⟨y, hy⟩ : ∃ y, L[0 + 1]? = some y := ⟨_, List.getElem?_eq_getElem (by omega)⟩
          have hN' : Hid (adr (N b) = some ⟨y, 0, none⟩) := by show _ = _; rw [hN, hy]; rfl
          have ky : V.cell? ⟨H, 0 + 1, none⟩ = some (.pointer (some ⟨y, 0, none⟩)) := hRV.out.cell (x := some y) (by simp [hy])
          have hlast : ((0 : Int) + 1 < (L.length : Int)) := by omega
          have hlast1 : ((1 : Int) < (L.length : Int)) := by omega
          have ky1 : V.cell? ⟨H, 1, none⟩ = some (.pointer (some ⟨y, 0, none⟩)) := ky
          clear hy
          clear hkb hb hP hN
          go_wp2_with fail
          refine (prev_is _ b _ hMV hbS hP').mono ?_
          rintro e w3 ⟨rfl, rfl⟩
          go_wp2_with fail
          refine (next_is _ b _ hMV hbS hN').mono ?_
          rintro e w3 ⟨rfl, rfl⟩
          go_wp2_with fail
          exact ⟨⟨0 + 1, n0, by omega, by go_num, HV.out⟩, by simp [intOf]; omega⟩
        · have hkb : L[0]? = some b := hb
          have hP := HC.out.prev _ b hkb
          have hN := HC.out.next _ b hkb
          have hP' : Hid (adr (P b) = none) := by show _ = _; rw [hP]; rfl
          have hN' : Hid (adr (N b) = none) := by show _ = _; rw [hN, List.getElem?_eq_none (by omega)]; rfl
          have hlast : ¬ ((0 : Int) + 1 < (L.length : Int)) := by omega
          clear hkb hb hP hN
          go_wp2_with fail
          refine (prev_is _ b _ hMV hbS hP').mono ?_
          rintro e w3 ⟨rfl, rfl⟩
          go_wp2_with fail
          refine (next_is _ b _ hMV hbS hN').mono ?_
          rintro e w3 ⟨rfl, rfl⟩
          go_wp2_with fail
          exact ⟨⟨0 + 1, n0, by omega, by go_num, HV.out⟩, by simp [intOf]; omega⟩
      | succ m =>
        have hpos : (0 : Int) < (m : Int) + 1 := by omega
        have hmi : (m : Int) < (L.length : Int) := by omega
        have hmi1 : (m : Int) + 1 < (L.length : Int) := by omega
        by_cases hl : m + 1 + 1 < L.length
        · have hkb : L[m + 1]? = some b := hb
          have hP := HC.out.prev _ b hkb
          have hN := HC.out.next _ b hkb
          obtain ⟨x, hx⟩ : ∃ x, L[m]? = some x := ⟨_, List.getElem?_eq_getElem (by omega)⟩
          have hP' : Hid (adr (P b) = some ⟨x, 0, none⟩) := by show _ = _; rw [hP, if_neg (by omega), show m + 1 - 1 = m by omega, hx]; rfl
          have kx : V.cell? ⟨H, m, none⟩ = some (.pointer (some ⟨x, 0, none⟩)) := hRV.out.cell (x := some x) (by simp [hx])
          clear hx
          obtain ⟨y, hy⟩ : ∃ y, L[m + 1 + 1]? = some y := ⟨_, List.getElem?_eq_getElem (by omega)⟩
          have hN' : Hid (adr (N b) = some ⟨y, 0, none⟩) := by show _ = _; rw [hN, hy]; rfl
          have ky : V.cell? ⟨H, m + 1 + 1, none⟩ = some (.pointer (some ⟨y, 0, none⟩)) := hRV.out.cell (x := some y) (by simp [hy])
          have hlast : (((m : Int) + 1 : Int) + 1 < (L.length : Int)) := by omega
          clear hy
          clear hkb hb hP hN
          go_wp2_with fail
          refine (prev_is _ b _ hMV hbS hP').mono ?_
          rintro e w3 ⟨rfl, rfl⟩
          go_wp2_with fail
          refine (next_is _ b _ hMV hbS hN').mono ?_
          rintro e w3 ⟨rfl, rfl⟩
          go_wp2_with fail
          exact ⟨⟨m + 1 + 1, n0, by omega, by go_num, HV.out⟩, by simp [intOf]; omega⟩
        · have hkb : L[m + 1]? = some b := hb
          have hP := HC.out.prev _ b hkb
          have hN := HC.out.next _ b hkb
          obtain ⟨x, hx⟩ : ∃ x, L[m]? = some x := ⟨_, List.getElem?_eq_getElem (by omega)⟩
          have hP' : Hid (adr (P b) = some ⟨x, 0, none⟩) := by show _ = _; rw [hP, if_neg (by omega), show m + 1 - 1 = m by omega, hx]; rfl
          have kx : V.cell? ⟨H, m, none⟩ = some (.pointer (some ⟨x, 0, none⟩)) := hRV.out.cell (x := some x) (by simp [hx])
          clear hx
          have hN' : Hid (adr (N b) = none) := by show _ = _; rw [hN, List.getElem?_eq_none (by omega)]; rfl
          have hlast : ¬ (((m : Int) + 1 : Int) + 1 < (L.length : Int)) := by omega
          clear hkb hb hP hN
          go_wp2_with fail
          refine (prev_is _ b _ hMV hbS hP').mono ?_
          rintro e w3 ⟨rfl, rfl⟩
          go_wp2_with fail
          refine (next_is _ b _ hMV hbS hN').mono ?_
          rintro e w3 ⟨rfl, rfl⟩
          go_wp2_with fail
          exact ⟨⟨m + 1 + 1, n0, by omega, by go_num, HV.out⟩, by simp [intOf]; omega⟩
    · go_wp2_with fail
      go_ret
      exact ⟨rfl, _, rfl⟩

theorem chain_is (H n : Nat) (L : List Nat) (w : World) (hM : Hid (Mem w Q F B S P N)) (HC : Hid (Chain L F B P N)) (hS : Hid (∀ x ∈ L, x ∈ S)) (hR : Hid (ORow w H n (L.map some))) (hn : L.length ≤ 4096) :
    Calls Trym.prog 19 #[.pointer (some ⟨Q, 0, none⟩), .slice (some ⟨H, 0, none⟩) L.length n] w fun e w' => e = .returned (.bool true) ∧ ∃ m, w' = w.drewN m := by
  cases L with
  | nil => exact chain_is_nil H n w hM HC
  | cons a l => exact chain_is_some H n (a :: l) w hM HC hS hR hn (by simp)
end
end Go.Proofs.Qxb6601613aMods.q
