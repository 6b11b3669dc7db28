/-
  Contracts of zzSpec, mtuOf, withDefaults, ZZwithDefaults (seat b6600856aM).
-/
import Derived.Test.Qxb6600856aModsZz
namespace Go.Proofs.Qxb6600856aMods.net
open Go.ChangeShapes Go.WideShapes Go.ChangeAt Go.RowKit
set_option linter.unusedVariables false

set_option maxRecDepth 100000 in
theorem spec_false (t r : ByteArray) (m : Int) (a3 a4 a5 : Option Addr) (l3 c3 l4 c4 l5 c5 : Nat) (md lf : ByteArray) (w : World) :
    Calls Trym.prog 9 #[.string t, .string r, .int .i32 m, .slice a3 l3 c3, .slice a4 l4 c4, .slice a5 l5 c5, .bool false, .string md, .string lf] w fun e w' =>
      e = .returned (.agg #[.string t, .string r, .int .i32 m, .slice a3 l3 c3, .slice a4 l4 c4, .slice a5 l5 c5, .pointer none]) ∧ Below w.heap.size w w' := by
  go_enter Trym.func9, Trym.ntmps9
  go_wp2
  refine bodyPost_ret (v := .agg #[.string t, .string r, .int .i32 m, .slice a3 l3 c3, .slice a4 l4 c4, .slice a5 l5 c5, .pointer none]) (by simp [results, Trym.results9, go_sem]) rfl ⟨rfl, ?_⟩
  exact Below.alloc (Below.alloc (Below.refl _ _) (Nat.le_refl _) _) (by simp) _

set_option maxRecDepth 100000 in
theorem spec_true (t r : ByteArray) (m : Int) (a3 a4 a5 : Option Addr) (l3 c3 l4 c4 l5 c5 : Nat) (md lf : ByteArray) (w : World) :
    Calls Trym.prog 9 #[.string t, .string r, .int .i32 m, .slice a3 l3 c3, .slice a4 l4 c4, .slice a5 l5 c5, .bool true, .string md, .string lf] w fun e w' =>
      ∃ b, e = .returned (.agg #[.string t, .string r, .int .i32 m, .slice a3 l3 c3, .slice a4 l4 c4, .slice a5 l5 c5, .pointer (some ⟨b, 0, none⟩)]) ∧ w'.cell? ⟨b, 0, none⟩ = some (.string md) ∧ w'.cell? ⟨b, 1, none⟩ = some (.string lf) ∧ b < w'.heap.size ∧ Below w.heap.size w w' := by
  go_enter Trym.func9, Trym.ntmps9
  go_wp2
  refine bodyPost_ret (v := .agg #[.string t, .string r, .int .i32 m, .slice a3 l3 c3, .slice a4 l4 c4, .slice a5 l5 c5, .pointer (some ⟨w.heap.size + 1 + 1, 0, none⟩)]) (by simp [results, Trym.results9, go_sem]) rfl ⟨_, rfl, ?_, ?_, ?_, ?_⟩
  · rw [World.cell?_alloc_at _ _ _ _ (by simp)]; rfl
  · rw [World.cell?_alloc_at _ _ _ _ (by simp)]; rfl
  · simp
  · exact Below.alloc (Below.alloc (Below.alloc (Below.refl _ _) (Nat.le_refl _) _) (by simp) _) (by simp; omega) _

set_option maxRecDepth 100000 in
theorem mtu_any (t r : ByteArray) (m : Int) (a3 a4 a5 : Option Addr) (l3 c3 l4 c4 l5 c5 : Nat) (p6 : Option Addr) (w : World) :
    Calls Trym.prog 20 #[.agg #[.string t, .string r, .int .i32 m, .slice a3 l3 c3, .slice a4 l4 c4, .slice a5 l5 c5, .pointer p6]] w fun e w' => ∃ q : Int, e = .returned (.int .i64 q) ∧ Below w.heap.size w w' := by
  go_enter Trym.func20, Trym.ntmps20
  go_wp2
  all_goals (go_ret; exact ⟨_, rfl, (Below.refl _ _).alloc (Nat.le_refl _) _⟩)

/-- What ipamOf reads at the pointer p6 in w. -/
def IpamIs (w : World) (p6 : Option Addr) (mm ll : ByteArray) : Prop :=
  (p6 = none ∧ mm = enB ∧ ll = noB) ∨ ∃ b md, p6 = some ⟨b, 0, none⟩ ∧ w.cell? ⟨b, 0, none⟩ = some (.string md) ∧ w.cell? ⟨b, 1, none⟩ = some (.string ll) ∧ b < w.heap.size ∧ modeOf md = mm

theorem IpamIs.below {w w' : World} {p6 : Option Addr} {mm ll : ByteArray} (h : IpamIs w p6 mm ll) (hb : Below w.heap.size w w') : IpamIs w' p6 mm ll := by
  rcases h with h | ⟨b, md, h1, h2, h3, h4, h5⟩
  · exact Or.inl h
  · exact Or.inr ⟨b, md, h1, (hb.cell (p := ⟨b, 0, none⟩) h4).trans h2, (hb.cell (p := ⟨b, 1, none⟩) h4).trans h3, Nat.lt_of_lt_of_le h4 hb.size, h5⟩

theorem ipam_is (t r : ByteArray) (m : Int) (a3 a4 a5 : Option Addr) (l3 c3 l4 c4 l5 c5 : Nat) (p6 : Option Addr) (mm ll : ByteArray) (w : World) (h : Hid (IpamIs w p6 mm ll)) :
    Calls Trym.prog 19 #[.agg #[.string t, .string r, .int .i32 m, .slice a3 l3 c3, .slice a4 l4 c4, .slice a5 l5 c5, .pointer p6]] w fun e w' => e = .returned (.tuple #[.string mm, .string ll]) ∧ Below w.heap.size w w' := by
  rcases h.out with ⟨rfl, rfl, rfl⟩ | ⟨b, md, rfl, h2, h3, h4, rfl⟩
  · exact ipam_nil t r m a3 a4 a5 l3 c3 l4 c4 l5 c5 w
  · exact ipam_some t r m a3 a4 a5 l3 c3 l4 c4 l5 c5 b md ll w h2 h3 h4

theorem zz_ipam (t r : ByteArray) (m : Int) (a3 a4 a5 : Option Addr) (l3 c3 l4 c4 l5 c5 : Nat) (p6 : Option Addr) (mm ll : ByteArray) (w : World) (h : Hid (IpamIs w p6 mm ll)) :
    Calls Trym.prog 13 #[.agg #[.string t, .string r, .int .i32 m, .slice a3 l3 c3, .slice a4 l4 c4, .slice a5 l5 c5, .pointer p6]] w fun e w' => e = .returned (.tuple #[.string mm, .string ll]) ∧ Below w.heap.size w w' := by
  rcases h.out with ⟨rfl, rfl, rfl⟩ | ⟨b, md, rfl, h2, h3, h4, rfl⟩
  · exact zz_nil t r m a3 a4 a5 l3 c3 l4 c4 l5 c5 w
  · exact zz_some t r m a3 a4 a5 l3 c3 l4 c4 l5 c5 b md ll w h2 h3 h4

theorem ne_block {P j b i : Nat} (h : P ≠ b) : (⟨P, j, none⟩ : Addr) ≠ ⟨b, i, none⟩ := fun e => h (congrArg Addr.block e)

/-- The world of withDefaults from its loop on: P: its own spec; R: its result; b: the new IPAM; G: the list of pointers. -/
structure Mid (w wr : World) (P R b G : Nat) (t r : ByteArray) (q : Int) (mm ll : ByteArray) : Prop where
  below : Below w.heap.size w wr
  c0 : wr.cell? ⟨P, 0, none⟩ = some (.string t)
  c1 : wr.cell? ⟨P, 1, none⟩ = some (.string r)
  c2 : wr.cell? ⟨P, 2, none⟩ = some (.int .i32 q)
  c3 : ∃ a l c, wr.cell? ⟨P, 3, none⟩ = some (.slice a l c)
  c4 : ∃ a l c, wr.cell? ⟨P, 4, none⟩ = some (.slice a l c)
  c5 : ∃ a l c, wr.cell? ⟨P, 5, none⟩ = some (.slice a l c)
  c6 : wr.cell? ⟨P, 6, none⟩ = some (.pointer (some ⟨b, 0, none⟩))
  fP : ∀ j, wr.frozen? ⟨P, j, none⟩ = false
  d : ∀ j, j < 7 → ∃ v, wr.cell? ⟨R, j, none⟩ = some v
  fR : ∀ j, wr.frozen? ⟨R, j, none⟩ = false
  e0 : wr.cell? ⟨b, 0, none⟩ = some (.string mm)
  e1 : wr.cell? ⟨b, 1, none⟩ = some (.string ll)
  fb : ∀ j, wr.frozen? ⟨b, j, none⟩ = false
  g0 : wr.cell? ⟨G, 0, none⟩ = some (.pointer (some ⟨P, 3, none⟩))
  g1 : wr.cell? ⟨G, 1, none⟩ = some (.pointer (some ⟨P, 4, none⟩))
  g2 : wr.cell? ⟨G, 2, none⟩ = some (.pointer (some ⟨P, 5, none⟩))
  hP : w.heap.size ≤ P
  hRP : P < R
  hbR : R < b
  hGb : b < G
  hG : G < wr.heap.size

theorem Mid.set {w wr : World} {P R b G : Nat} {t r : ByteArray} {q : Int} {mm ll : ByteArray} (h : Mid w wr P R b G t r q mm ll) (j : Nat) (hj : j = 3 ∨ j = 4 ∨ j = 5) : Mid w (wr.setCell ⟨P, j, none⟩ (.slice none 0 0)) P R b G t r q mm ll := by
  have hRP := h.hRP
  have hbR := h.hbR
  have hGb := h.hGb
  have far : ∀ B i, P < B → (wr.setCell ⟨P, j, none⟩ (.slice none 0 0)).cell? ⟨B, i, none⟩ = wr.cell? ⟨B, i, none⟩ := fun B i hB => World.cell?_setCell_other _ _ _ _ (fun e => by have := congrArg Addr.block e; simp at this; omega)
  have near : ∀ i, i ≠ j → (wr.setCell ⟨P, j, none⟩ (.slice none 0 0)).cell? ⟨P, i, none⟩ = wr.cell? ⟨P, i, none⟩ := fun i hi => World.cell?_setCell_other _ _ _ _ (fun e => hi (congrArg Addr.off e).symm)
  have sl : ∀ i, (∃ a l c, wr.cell? ⟨P, i, none⟩ = some (.slice a l c)) → ∃ a l c, (wr.setCell ⟨P, j, none⟩ (.slice none 0 0)).cell? ⟨P, i, none⟩ = some (.slice a l c) := fun i hi => by
    by_cases e : i = j
    · subst e
      obtain ⟨a, l, c, hc⟩ := hi
      exact ⟨none, 0, 0, World.cell?_setCell_same _ _ _ hc⟩
    · obtain ⟨a, l, c, hc⟩ := hi
      exact ⟨a, l, c, (near i e).trans hc⟩
  exact { below := h.below.setCell h.hP _, c0 := (near 0 (by omega)).trans h.c0, c1 := (near 1 (by omega)).trans h.c1, c2 := (near 2 (by omega)).trans h.c2, c3 := sl 3 h.c3, c4 := sl 4 h.c4, c5 := sl 5 h.c5,
          c6 := (near 6 (by omega)).trans h.c6, fP := fun i => by simpa using h.fP i, d := fun i hi => by obtain ⟨v, hv⟩ := h.d i hi; exact ⟨v, (far R i hRP).trans hv⟩, fR := fun i => by simpa using h.fR i,
          e0 := (far b 0 (by omega)).trans h.e0, e1 := (far b 1 (by omega)).trans h.e1, fb := fun i => by simpa using h.fb i,
          g0 := (far G 0 (by omega)).trans h.g0, g1 := (far G 1 (by omega)).trans h.g1, g2 := (far G 2 (by omega)).trans h.g2,
          hP := h.hP, hRP := hRP, hbR := hbR, hGb := hGb, hG := by simpa using h.hG }

theorem mid_start {w w2 : World} {P : Nat} {t r : ByteArray} {q : Int} {mm ll : ByteArray} {a3 a4 a5 : Option Addr} {l3 c3 l4 c4 l5 c5 : Nat} {p6 : Option Addr} (hP : w.heap.size ≤ P) (hle : P + 2 ≤ w2.heap.size) (hB : Below w.heap.size w w2)
    (k0 : w2.cell? ⟨P, 0, none⟩ = some (.string t)) (k1 : w2.cell? ⟨P, 1, none⟩ = some (.string r)) (k2 : w2.cell? ⟨P, 2, none⟩ = some (.int .i32 q)) (k3 : w2.cell? ⟨P, 3, none⟩ = some (.slice a3 l3 c3)) (k4 : w2.cell? ⟨P, 4, none⟩ = some (.slice a4 l4 c4)) (k5 : w2.cell? ⟨P, 5, none⟩ = some (.slice a5 l5 c5)) (k6 : w2.cell? ⟨P, 6, none⟩ = some (.pointer p6))
    (HR : ∀ j, w2.cell? ⟨P + 1, j, none⟩ = (#[.string ⟨#[]⟩, .string ⟨#[]⟩, .int .i32 0, .slice none 0 0, .slice none 0 0, .slice none 0 0, .pointer none] : Array Value)[j]?) (GP : ∀ j, w2.frozen? ⟨P, j, none⟩ = false) (GR : ∀ j, w2.frozen? ⟨P + 1, j, none⟩ = false) :
    Mid w (((w2.setCell ⟨P, 6, none⟩ (.pointer (some ⟨w2.heap.size, 0, none⟩))).alloc (.cells #[.string mm, .string ll] 39)).alloc (.cells #[.pointer (some ⟨P, 3, none⟩), .pointer (some ⟨P, 4, none⟩), .pointer (some ⟨P, 5, none⟩)] 45)) P (P + 1) w2.heap.size (w2.heap.size + 1) t r q mm ll := by
  have down : ∀ B i, B < w2.heap.size → (((w2.setCell ⟨P, 6, none⟩ (.pointer (some ⟨w2.heap.size, 0, none⟩))).alloc (.cells #[.string mm, .string ll] 39)).alloc (.cells #[.pointer (some ⟨P, 3, none⟩), .pointer (some ⟨P, 4, none⟩), .pointer (some ⟨P, 5, none⟩)] 45)).cell? ⟨B, i, none⟩ = (w2.setCell ⟨P, 6, none⟩ (.pointer (some ⟨w2.heap.size, 0, none⟩))).cell? ⟨B, i, none⟩ := fun B i hB => by
    rw [World.cell?_alloc_past _ _ _ (by simp; omega), World.cell?_alloc_past _ _ _ (by simp; omega)]
  have fdown : ∀ B i, B < w2.heap.size → (((w2.setCell ⟨P, 6, none⟩ (.pointer (some ⟨w2.heap.size, 0, none⟩))).alloc (.cells #[.string mm, .string ll] 39)).alloc (.cells #[.pointer (some ⟨P, 3, none⟩), .pointer (some ⟨P, 4, none⟩), .pointer (some ⟨P, 5, none⟩)] 45)).frozen? ⟨B, i, none⟩ = w2.frozen? ⟨B, i, none⟩ := fun B i hB => by
    rw [World.frozen?_alloc_past _ _ _ (by simp; omega), World.frozen?_alloc_past _ _ _ (by simp; omega), World.frozen?_setCell]
  have near : ∀ i, i ≠ 6 → (((w2.setCell ⟨P, 6, none⟩ (.pointer (some ⟨w2.heap.size, 0, none⟩))).alloc (.cells #[.string mm, .string ll] 39)).alloc (.cells #[.pointer (some ⟨P, 3, none⟩), .pointer (some ⟨P, 4, none⟩), .pointer (some ⟨P, 5, none⟩)] 45)).cell? ⟨P, i, none⟩ = w2.cell? ⟨P, i, none⟩ := fun i hi =>
    (down P i (by omega)).trans (World.cell?_setCell_other _ _ _ _ (fun e => hi (congrArg Addr.off e).symm))
  have far : ∀ i, (((w2.setCell ⟨P, 6, none⟩ (.pointer (some ⟨w2.heap.size, 0, none⟩))).alloc (.cells #[.string mm, .string ll] 39)).alloc (.cells #[.pointer (some ⟨P, 3, none⟩), .pointer (some ⟨P, 4, none⟩), .pointer (some ⟨P, 5, none⟩)] 45)).cell? ⟨P + 1, i, none⟩ = w2.cell? ⟨P + 1, i, none⟩ := fun i =>
    (down (P + 1) i (by omega)).trans (World.cell?_setCell_other _ _ _ _ (fun e => by have := congrArg Addr.block e; simp at this))
  have atb : ∀ i, (((w2.setCell ⟨P, 6, none⟩ (.pointer (some ⟨w2.heap.size, 0, none⟩))).alloc (.cells #[.string mm, .string ll] 39)).alloc (.cells #[.pointer (some ⟨P, 3, none⟩), .pointer (some ⟨P, 4, none⟩), .pointer (some ⟨P, 5, none⟩)] 45)).cell? ⟨w2.heap.size, i, none⟩ = (#[.string mm, .string ll] : Array Value)[i]? := fun i => by
    rw [World.cell?_alloc_past _ _ _ (by simp), World.cell?_alloc_at _ _ _ _ (by simp)]
  have atG : ∀ i, (((w2.setCell ⟨P, 6, none⟩ (.pointer (some ⟨w2.heap.size, 0, none⟩))).alloc (.cells #[.string mm, .string ll] 39)).alloc (.cells #[.pointer (some ⟨P, 3, none⟩), .pointer (some ⟨P, 4, none⟩), .pointer (some ⟨P, 5, none⟩)] 45)).cell? ⟨w2.heap.size + 1, i, none⟩ = (#[.pointer (some ⟨P, 3, none⟩), .pointer (some ⟨P, 4, none⟩), .pointer (some ⟨P, 5, none⟩)] : Array Value)[i]? := fun i => by
    rw [World.cell?_alloc_at _ _ _ _ (by simp)]
  have fbb : ∀ i, (((w2.setCell ⟨P, 6, none⟩ (.pointer (some ⟨w2.heap.size, 0, none⟩))).alloc (.cells #[.string mm, .string ll] 39)).alloc (.cells #[.pointer (some ⟨P, 3, none⟩), .pointer (some ⟨P, 4, none⟩), .pointer (some ⟨P, 5, none⟩)] 45)).frozen? ⟨w2.heap.size, i, none⟩ = false := fun i => by
    rw [World.frozen?_alloc_past _ _ _ (by simp), World.frozen?_alloc_at _ _ _ _ (by simp)]
  exact { below := Below.alloc (Below.alloc (hB.setCell hP _) (by have := hB.size; simp; omega) _) (by have := hB.size; simp; omega) _,
          c0 := (near 0 (by omega)).trans k0, c1 := (near 1 (by omega)).trans k1, c2 := (near 2 (by omega)).trans k2, c3 := ⟨_, _, _, (near 3 (by omega)).trans k3⟩, c4 := ⟨_, _, _, (near 4 (by omega)).trans k4⟩, c5 := ⟨_, _, _, (near 5 (by omega)).trans k5⟩,
          c6 := (down P 6 (by omega)).trans (World.cell?_setCell_same _ _ _ k6), fP := fun j => (fdown P j (by omega)).trans (GP j),
          d := fun j hj => by
            refine ⟨_, (far j).trans ((HR j).trans (Array.getElem?_eq_getElem (by simpa using hj)))⟩,
          fR := fun j => (fdown (P + 1) j (by omega)).trans (GR j), e0 := atb 0, e1 := atb 1, fb := fbb, g0 := atG 0, g1 := atG 1, g2 := atG 2,
          hP := hP, hRP := Nat.lt_succ_self _, hbR := by omega, hGb := Nat.lt_succ_self _, hG := by simp }

set_option maxRecDepth 100000 in
set_option maxHeartbeats 1000000 in
theorem def_any (t r : ByteArray) (m : Int) (a3 a4 a5 : Option Addr) (l3 c3 l4 c4 l5 c5 : Nat) (p6 : Option Addr) (mm ll : ByteArray) (w : World) (hI : Hid (IpamIs w p6 mm ll)) :
    Calls Trym.prog 17 #[.agg #[.string t, .string r, .int .i32 m, .slice a3 l3 c3, .slice a4 l4 c4, .slice a5 l5 c5, .pointer p6]] w fun e w' =>
      ∃ (q : Int) (a3' a4' a5' : Option Addr) (l3' c3' l4' c4' l5' c5' b : Nat), e = .returned (.agg #[.string t, .string r, .int .i32 q, .slice a3' l3' c3', .slice a4' l4' c4', .slice a5' l5' c5', .pointer (some ⟨b, 0, none⟩)]) ∧
        w'.cell? ⟨b, 0, none⟩ = some (.string mm) ∧ w'.cell? ⟨b, 1, none⟩ = some (.string ll) ∧ (∀ j, w'.frozen? ⟨b, j, none⟩ = false) ∧ w.heap.size ≤ b ∧ b < w'.heap.size ∧ Below w.heap.size w w' := by
  go_enter Trym.func17, Trym.ntmps17
  go_wp2_with fail
  obtain ⟨W0, hW0⟩ : ∃ W0, W0 = (w.alloc (.cells #[.string t, .string r, .int .i32 m, .slice a3 l3 c3, .slice a4 l4 c4, .slice a5 l5 c5, .pointer p6] 30)).alloc (.cells #[.string ⟨#[]⟩, .string ⟨#[]⟩, .int .i32 0, .slice none 0 0, .slice none 0 0, .slice none 0 0, .pointer none] 30) := ⟨_, rfl⟩
  have cP : ∀ j, W0.cell? ⟨w.heap.size, j, none⟩ = (#[.string t, .string r, .int .i32 m, .slice a3 l3 c3, .slice a4 l4 c4, .slice a5 l5 c5, .pointer p6] : Array Value)[j]? := fun j => by
    rw [hW0, World.cell?_alloc_past _ _ _ (by simp), World.cell?_alloc_at _ _ _ _ rfl]
  have cR : ∀ j, W0.cell? ⟨w.heap.size + 1, j, none⟩ = (#[.string ⟨#[]⟩, .string ⟨#[]⟩, .int .i32 0, .slice none 0 0, .slice none 0 0, .slice none 0 0, .pointer none] : Array Value)[j]? := fun j => by
    rw [hW0, World.cell?_alloc_at _ _ _ _ (by simp)]
  have fP : ∀ j, W0.frozen? ⟨w.heap.size, j, none⟩ = false := fun j => by
    rw [hW0, World.frozen?_alloc_past _ _ _ (by simp), World.frozen?_alloc_at _ _ _ _ rfl]
  have fR : ∀ j, W0.frozen? ⟨w.heap.size + 1, j, none⟩ = false := fun j => by
    rw [hW0, World.frozen?_alloc_at _ _ _ _ (by simp)]
  have hs0 : W0.heap.size = w.heap.size + 2 := by rw [hW0]; simp
  have hB0 : Below w.heap.size w W0 := by rw [hW0]; exact Below.alloc (Below.alloc (Below.refl _ _) (Nat.le_refl _) _) (by simp) _
  rw [← hW0]
  clear hW0
  refine (mtu_any t r m a3 a4 a5 l3 c3 l4 c4 l5 c5 p6 _).mono ?_
  rintro e w1 ⟨q, rfl, hB1⟩
  have hs1 := hB1.size
  rw [hs0] at hB1 hs1
  have kP : ∀ j, w1.cell? ⟨w.heap.size, j, none⟩ = (#[.string t, .string r, .int .i32 m, .slice a3 l3 c3, .slice a4 l4 c4, .slice a5 l5 c5, .pointer p6] : Array Value)[j]? := fun j => (hB1.cell (p := ⟨w.heap.size, j, none⟩) (by show w.heap.size < _; omega)).trans (cP j)
  have kR : ∀ j, w1.cell? ⟨w.heap.size + 1, j, none⟩ = (#[.string ⟨#[]⟩, .string ⟨#[]⟩, .int .i32 0, .slice none 0 0, .slice none 0 0, .slice none 0 0, .pointer none] : Array Value)[j]? := fun j => (hB1.cell (p := ⟨w.heap.size + 1, j, none⟩) (by show w.heap.size + 1 < _; omega)).trans (cR j)
  have gP : ∀ j, w1.frozen? ⟨w.heap.size, j, none⟩ = false := fun j => (hB1.frozen (p := ⟨w.heap.size, j, none⟩) (by show w.heap.size < _; omega)).trans (fP j)
  have gR : ∀ j, w1.frozen? ⟨w.heap.size + 1, j, none⟩ = false := fun j => (hB1.frozen (p := ⟨w.heap.size + 1, j, none⟩) (by show w.heap.size + 1 < _; omega)).trans (fR j)
  have hBw : Below w.heap.size w w1 := hB0.trans (hB1.mono (by omega))
  clear cP cR fP fR hB0 hB1 hs0
  have k0 : w1.cell? ⟨w.heap.size, 0, none⟩ = some (.string t) := kP 0
  have k1 : w1.cell? ⟨w.heap.size, 1, none⟩ = some (.string r) := kP 1
  have k2 : w1.cell? ⟨w.heap.size, 2, none⟩ = some (.int .i32 m) := kP 2
  have k3 : w1.cell? ⟨w.heap.size, 3, none⟩ = some (.slice a3 l3 c3) := kP 3
  have k4 : w1.cell? ⟨w.heap.size, 4, none⟩ = some (.slice a4 l4 c4) := kP 4
  have k5 : w1.cell? ⟨w.heap.size, 5, none⟩ = some (.slice a5 l5 c5) := kP 5
  have k6 : w1.cell? ⟨w.heap.size, 6, none⟩ = some (.pointer p6) := kP 6
  have z2 := gP 2
  have HR : Hid (∀ j, w1.cell? ⟨w.heap.size + 1, j, none⟩ = (#[.string ⟨#[]⟩, .string ⟨#[]⟩, .int .i32 0, .slice none 0 0, .slice none 0 0, .slice none 0 0, .pointer none] : Array Value)[j]?) := kR
  have GP : Hid (∀ j, w1.frozen? ⟨w.heap.size, j, none⟩ = false) := gP
  have GR : Hid (∀ j, w1.frozen? ⟨w.heap.size + 1, j, none⟩ = false) := gR
  clear kP kR gP gR
  go_wp2_with fail
  generalize wrap32 q = q'
  obtain ⟨W1, hW1⟩ : ∃ W1, W1 = w1.setCell ⟨w.heap.size, 2, none⟩ (.int .i32 q') := ⟨_, rfl⟩
  have hBW1 : Below w.heap.size w W1 := by rw [hW1]; exact hBw.setCell (Nat.le_refl _) _
  have hs1' : W1.heap.size = w1.heap.size := by rw [hW1]; simp
  have near : ∀ i, i ≠ 2 → W1.cell? ⟨w.heap.size, i, none⟩ = w1.cell? ⟨w.heap.size, i, none⟩ := fun i hi => by
    rw [hW1]; exact World.cell?_setCell_other _ _ _ _ (fun e => hi (congrArg Addr.off e).symm)
  have far : ∀ i, W1.cell? ⟨w.heap.size + 1, i, none⟩ = w1.cell? ⟨w.heap.size + 1, i, none⟩ := fun i => by
    rw [hW1]; exact World.cell?_setCell_other _ _ _ _ (fun e => by have := congrArg Addr.block e; simp at this)
  have j0 : W1.cell? ⟨w.heap.size, 0, none⟩ = some (.string t) := (near 0 (by omega)).trans k0
  have j1 : W1.cell? ⟨w.heap.size, 1, none⟩ = some (.string r) := (near 1 (by omega)).trans k1
  have j2 : W1.cell? ⟨w.heap.size, 2, none⟩ = some (.int .i32 q') := by rw [hW1]; exact World.cell?_setCell_same _ _ _ k2
  have j3 : W1.cell? ⟨w.heap.size, 3, none⟩ = some (.slice a3 l3 c3) := (near 3 (by omega)).trans k3
  have j4 : W1.cell? ⟨w.heap.size, 4, none⟩ = some (.slice a4 l4 c4) := (near 4 (by omega)).trans k4
  have j5 : W1.cell? ⟨w.heap.size, 5, none⟩ = some (.slice a5 l5 c5) := (near 5 (by omega)).trans k5
  have j6 : W1.cell? ⟨w.heap.size, 6, none⟩ = some (.pointer p6) := (near 6 (by omega)).trans k6
  have HR1 : Hid (∀ j, W1.cell? ⟨w.heap.size + 1, j, none⟩ = (#[.string ⟨#[]⟩, .string ⟨#[]⟩, .int .i32 0, .slice none 0 0, .slice none 0 0, .slice none 0 0, .pointer none] : Array Value)[j]?) := fun j => (far j).trans (HR.out j)
  have GP1 : Hid (∀ j, W1.frozen? ⟨w.heap.size, j, none⟩ = false) := fun j => by rw [hW1]; simpa using GP.out j
  have GR1 : Hid (∀ j, W1.frozen? ⟨w.heap.size + 1, j, none⟩ = false) := fun j => by rw [hW1]; simpa using GR.out j
  rw [← hW1]
  have hs2 : w.heap.size + 2 ≤ W1.heap.size := by rw [hs1']; exact hs1
  clear near far hW1 k0 k1 k2 k3 k4 k5 k6 z2 HR GP GR hBw hs1 hs1'
  refine (ipam_is t r q' a3 a4 a5 l3 c3 l4 c4 l5 c5 p6 mm ll _ (hI.out.below hBW1)).mono ?_
  rintro e w2 ⟨rfl, hB2⟩
  have hs3 := hB2.size
  have cc : ∀ i, w2.cell? ⟨w.heap.size, i, none⟩ = W1.cell? ⟨w.heap.size, i, none⟩ := fun i => hB2.cell (p := ⟨w.heap.size, i, none⟩) (by show w.heap.size < _; omega)
  have k0 := (cc 0).trans j0
  have k1 := (cc 1).trans j1
  have k2 := (cc 2).trans j2
  have k3 := (cc 3).trans j3
  have k4 := (cc 4).trans j4
  have k5 := (cc 5).trans j5
  have k6 := (cc 6).trans j6
  have HR2 : Hid (∀ j, w2.cell? ⟨w.heap.size + 1, j, none⟩ = (#[.string ⟨#[]⟩, .string ⟨#[]⟩, .int .i32 0, .slice none 0 0, .slice none 0 0, .slice none 0 0, .pointer none] : Array Value)[j]?) := fun j => (hB2.cell (p := ⟨w.heap.size + 1, j, none⟩) (by show w.heap.size + 1 < _; omega)).trans (HR1.out j)
  have GP2 : Hid (∀ j, w2.frozen? ⟨w.heap.size, j, none⟩ = false) := fun j => (hB2.frozen (p := ⟨w.heap.size, j, none⟩) (by show w.heap.size < _; omega)).trans (GP1.out j)
  have GR2 : Hid (∀ j, w2.frozen? ⟨w.heap.size + 1, j, none⟩ = false) := fun j => (hB2.frozen (p := ⟨w.heap.size + 1, j, none⟩) (by show w.heap.size + 1 < _; omega)).trans (GR1.out j)
  have hBw2 : Below w.heap.size w w2 := hBW1.trans (hB2.mono hBW1.size)
  have z6 := GP2.out 6
  have hlt2 : w.heap.size < w2.heap.size := by omega
  have hle2 : w.heap.size + 2 ≤ w2.heap.size := by omega
  clear cc j0 j1 j2 j3 j4 j5 j6 HR1 GP1 GR1 hB2 hBW1 hs2 hs3
  go_wp2_with fail
  have HM : Hid (Mid w (((w2.setCell ⟨w.heap.size, 6, none⟩ (.pointer (some ⟨w2.heap.size, 0, none⟩))).alloc (.cells #[.string mm, .string ll] 39)).alloc (.cells #[.pointer (some ⟨w.heap.size, 3, none⟩), .pointer (some ⟨w.heap.size, 4, none⟩), .pointer (some ⟨w.heap.size, 5, none⟩)] 45)) w.heap.size (w.heap.size + 1) w2.heap.size (w2.heap.size + 1) t r q' mm ll) :=
    mid_start (Nat.le_refl _) hle2 hBw2 k0 k1 k2 k3 k4 k5 k6 HR2.out GP2.out GR2.out
  clear k0 k1 k2 k3 k4 k5 k6 HR2 GP2 GR2 z6 hlt2
  generalize w2.heap.size = b at *
  go_loopw [26] (fun i wr => ∃ k : Nat, k ≤ 3 ∧ i = .int .i64 k ∧ Hid (Mid w wr w.heap.size (w.heap.size + 1) b (b + 1) t r q' mm ll)) (fun i _ => 3 - (intOf i).toNat)
  case atStart => exact ⟨0, Nat.zero_le _, rfl, HM⟩
  case round =>
    clear HM
    obtain ⟨k, hk, rfl, HM⟩ := hrel
    by_cases hlt : k < 3
    · have h3 : k = 0 ∨ k = 1 ∨ k = 2 := by omega
      clear hk hlt
      rcases h3 with rfl | rfl | rfl
      · have g := HM.out.g0
        obtain ⟨a, l, c, hc⟩ := HM.out.c3
        have hz := HM.out.fP 3
        have HM2 : Hid (Mid w (wr.setCell ⟨w.heap.size, 3, none⟩ (.slice none 0 0)) w.heap.size (w.heap.size + 1) b (b + 1) t r q' mm ll) := HM.out.set 3 (by omega)
        by_cases hl : ((l : Int) == 0) = true
        · go_wp2_with fail
          exact ⟨⟨1, by omega, by go_num, HM2⟩, by simp [intOf]⟩
        · have hl' : ((l : Int) == 0) = false := by simpa using hl
          clear hl
          go_wp2_with fail
          exact ⟨⟨1, by omega, by go_num, HM⟩, by simp [intOf]⟩
      · have g := HM.out.g1
        obtain ⟨a, l, c, hc⟩ := HM.out.c4
        have hz := HM.out.fP 4
        have HM2 : Hid (Mid w (wr.setCell ⟨w.heap.size, 4, none⟩ (.slice none 0 0)) w.heap.size (w.heap.size + 1) b (b + 1) t r q' mm ll) := HM.out.set 4 (by omega)
        by_cases hl : ((l : Int) == 0) = true
        · go_wp2_with fail
          exact ⟨⟨2, by omega, by go_num, HM2⟩, by simp [intOf]⟩
        · have hl' : ((l : Int) == 0) = false := by simpa using hl
          clear hl
          go_wp2_with fail
          exact ⟨⟨2, by omega, by go_num, HM⟩, by simp [intOf]⟩
      · have g := HM.out.g2
        obtain ⟨a, l, c, hc⟩ := HM.out.c5
        have hz := HM.out.fP 5
        have HM2 : Hid (Mid w (wr.setCell ⟨w.heap.size, 5, none⟩ (.slice none 0 0)) w.heap.size (w.heap.size + 1) b (b + 1) t r q' mm ll) := HM.out.set 5 (by omega)
        by_cases hl : ((l : Int) == 0) = true
        · go_wp2_with fail
          exact ⟨⟨3, by omega, by go_num, HM2⟩, by simp [intOf]⟩
        · have hl' : ((l : Int) == 0) = false := by simpa using hl
          clear hl
          go_wp2_with fail
          exact ⟨⟨3, by omega, by go_num, HM⟩, by simp [intOf]⟩
    · have k0 := HM.out.c0
      have k1 := HM.out.c1
      have k2 := HM.out.c2
      obtain ⟨x3, y3, u3, k3⟩ := HM.out.c3
      obtain ⟨x4, y4, u4, k4⟩ := HM.out.c4
      obtain ⟨x5, y5, u5, k5⟩ := HM.out.c5
      have k6 := HM.out.c6
      obtain ⟨v0, d0⟩ := HM.out.d 0 (by omega)
      obtain ⟨v1, d1⟩ := HM.out.d 1 (by omega)
      obtain ⟨v2, d2⟩ := HM.out.d 2 (by omega)
      obtain ⟨v3, d3⟩ := HM.out.d 3 (by omega)
      obtain ⟨v4, d4⟩ := HM.out.d 4 (by omega)
      obtain ⟨v5, d5⟩ := HM.out.d 5 (by omega)
      obtain ⟨v6, d6⟩ := HM.out.d 6 (by omega)
      have f0 := HM.out.fR 0
      have f1 := HM.out.fR 1
      have f2 := HM.out.fR 2
      have f3 := HM.out.fR 3
      have f4 := HM.out.fR 4
      have f5 := HM.out.fR 5
      have f6 := HM.out.fR 6
      have hbR := HM.out.hbR
      go_wp2_with fail
      refine bodyPost_ret (v := .agg #[.string t, .string r, .int .i32 q', .slice x3 y3 u3, .slice x4 y4 u4, .slice x5 y5 u5, .pointer (some ⟨b, 0, none⟩)]) (by simp [results, Trym.results17, go_sem, d0, d1, d2, d3, d4, d5, d6]) rfl ⟨q', x3, x4, x5, y3, u3, y4, u4, y5, u5, b, rfl, ?_, ?_, ?_, ?_, ?_, ?_⟩
      · iterate 7 rw [World.cell?_setCell_other _ _ _ _ (ne_block (by omega))]
        exact HM.out.e0
      · iterate 7 rw [World.cell?_setCell_other _ _ _ _ (ne_block (by omega))]
        exact HM.out.e1
      · intro j
        simp only [World.frozen?_setCell]
        exact HM.out.fb j
      · omega
      · simp only [World.size_setCell]
        have h1 := HM.out.hGb
        have h2 := HM.out.hG
        omega
      · have hR : w.heap.size ≤ w.heap.size + 1 := Nat.le_succ _
        exact ((((((HM.out.below.setCell hR _).setCell hR _).setCell hR _).setCell hR _).setCell hR _).setCell hR _).setCell hR _

set_option maxRecDepth 100000 in
set_option maxHeartbeats 1000000 in
theorem zz_def (t r : ByteArray) (m : Int) (a3 a4 a5 : Option Addr) (l3 c3 l4 c4 l5 c5 : Nat) (p6 : Option Addr) (mm ll : ByteArray) (w : World) (hI : Hid (IpamIs w p6 mm ll)) :
    Calls Trym.prog 10 #[.agg #[.string t, .string r, .int .i32 m, .slice a3 l3 c3, .slice a4 l4 c4, .slice a5 l5 c5, .pointer p6]] w fun e w' =>
      ∃ (q : Int) (a3' a4' a5' : Option Addr) (l3' c3' l4' c4' l5' c5' b : Nat), e = .returned (.agg #[.string t, .string r, .int .i32 q, .slice a3' l3' c3', .slice a4' l4' c4', .slice a5' l5' c5', .pointer (some ⟨b, 0, none⟩)]) ∧
        w'.cell? ⟨b, 0, none⟩ = some (.string mm) ∧ w'.cell? ⟨b, 1, none⟩ = some (.string ll) ∧ (∀ j, w'.frozen? ⟨b, j, none⟩ = false) ∧ w.heap.size ≤ b ∧ b < w'.heap.size ∧ Below w.heap.size w w' := by
  go_enter Trym.func10, Trym.ntmps10
  go_wp2_with fail
  obtain ⟨W0, hW0⟩ : ∃ W0, W0 = (w.alloc (.cells #[.string t, .string r, .int .i32 m, .slice a3 l3 c3, .slice a4 l4 c4, .slice a5 l5 c5, .pointer p6] 30)).alloc (.cells #[.string ⟨#[]⟩, .string ⟨#[]⟩, .int .i32 0, .slice none 0 0, .slice none 0 0, .slice none 0 0, .pointer none] 30) := ⟨_, rfl⟩
  have cR : ∀ j, j < 7 → ∃ v, W0.cell? ⟨w.heap.size + 1, j, none⟩ = some v := fun j hj => by
    rw [hW0, World.cell?_alloc_at _ _ _ _ (by simp)]
    exact ⟨_, Array.getElem?_eq_getElem (by simpa using hj)⟩
  have fR : ∀ j, W0.frozen? ⟨w.heap.size + 1, j, none⟩ = false := fun j => by
    rw [hW0, World.frozen?_alloc_at _ _ _ _ (by simp)]
  have hs0 : W0.heap.size = w.heap.size + 2 := by rw [hW0]; simp
  have hB0 : Below w.heap.size w W0 := by rw [hW0]; exact Below.alloc (Below.alloc (Below.refl _ _) (Nat.le_refl _) _) (by simp) _
  rw [← hW0]
  clear hW0
  refine (def_any t r m a3 a4 a5 l3 c3 l4 c4 l5 c5 p6 mm ll _ (hI.out.below hB0)).mono ?_
  rintro e w1 ⟨q, a3', a4', a5', l3', c3', l4', c4', l5', c5', b, rfl, e0, e1, fb, hb1, hb2, hB1⟩
  rw [hs0] at hb1 hB1
  have up : ∀ j, w1.cell? ⟨w.heap.size + 1, j, none⟩ = W0.cell? ⟨w.heap.size + 1, j, none⟩ := fun j => hB1.cell (p := ⟨w.heap.size + 1, j, none⟩) (by show w.heap.size + 1 < _; omega)
  have fup : ∀ j, w1.frozen? ⟨w.heap.size + 1, j, none⟩ = false := fun j => (hB1.frozen (p := ⟨w.heap.size + 1, j, none⟩) (by show w.heap.size + 1 < _; omega)).trans (fR j)
  obtain ⟨v0, d0⟩ := cR 0 (by omega)
  obtain ⟨v1, d1⟩ := cR 1 (by omega)
  obtain ⟨v2, d2⟩ := cR 2 (by omega)
  obtain ⟨v3, d3⟩ := cR 3 (by omega)
  obtain ⟨v4, d4⟩ := cR 4 (by omega)
  obtain ⟨v5, d5⟩ := cR 5 (by omega)
  obtain ⟨v6, d6⟩ := cR 6 (by omega)
  rw [← up] at d0 d1 d2 d3 d4 d5 d6
  have f0 := fup 0
  have f1 := fup 1
  have f2 := fup 2
  have f3 := fup 3
  have f4 := fup 4
  have f5 := fup 5
  have f6 := fup 6
  have hBw : Below w.heap.size w w1 := hB0.trans (hB1.mono (by omega))
  have FB : Hid (∀ j, w1.frozen? ⟨b, j, none⟩ = false) := fb
  clear up fup cR fR fb hB0 hB1 hs0
  go_wp2_with fail
  refine bodyPost_ret (v := .agg #[.string t, .string r, .int .i32 q, .slice a3' l3' c3', .slice a4' l4' c4', .slice a5' l5' c5', .pointer (some ⟨b, 0, none⟩)]) (by simp [results, Trym.results10, go_sem, d0, d1, d2, d3, d4, d5, d6]) rfl ⟨q, a3', a4', a5', l3', c3', l4', c4', l5', c5', b, rfl, ?_, ?_, ?_, ?_, ?_, ?_⟩
  · iterate 7 rw [World.cell?_setCell_other _ _ _ _ (ne_block (by omega))]
    exact e0
  · iterate 7 rw [World.cell?_setCell_other _ _ _ _ (ne_block (by omega))]
    exact e1
  · intro j
    simp only [World.frozen?_setCell]
    exact FB.out j
  · omega
  · simp only [World.size_setCell]
    omega
  · have hR : w.heap.size ≤ w.heap.size + 1 := Nat.le_succ _
    exact ((((((hBw.setCell hR _).setCell hR _).setCell hR _).setCell hR _).setCell hR _).setCell hR _).setCell hR _
end Go.Proofs.Qxb6600856aMods.net
