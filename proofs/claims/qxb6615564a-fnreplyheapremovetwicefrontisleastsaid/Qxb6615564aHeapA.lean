import Derived.Test.Qxb6615564aTime
import Derived.Deep.RegionWith
namespace Go.Proofs.Qxb6615564a
open Go.RowKit

/-- A plain block of cells, none of them frozen. -/
def Blk (w : World) (r : Nat) : Prop := ∃ c t, w.heap[r]? = some (.cells c t (0, 0))
theorem Blk.set {w : World} {r : Nat} (h : Blk w r) (p : Addr) (v : Value) : Blk (w.setCell p v) r := by
  obtain ⟨c, t, h⟩ := h
  by_cases e : r = p.block
  · subst e
    by_cases hs : p.spot.isSome = true
    · exact ⟨c, t, by simp [World.setCell, Array.getElem?_modify, h, hs]⟩
    · exact ⟨c.setIfInBounds p.off v, t, by simp [World.setCell, Array.getElem?_modify, h, hs]⟩
  · exact ⟨c, t, by rw [Go.Deep.blk_setCell_other _ _ _ _ e]; exact h⟩

/-- What lies in one reply's block: due and place. -/
structure Rep (w : World) (r : Nat) (d k : Int) : Prop where
  wall : w.cell? ⟨r, 13, none⟩ = some (.int .u64 (d % 1000000000))
  ext : w.cell? ⟨r, 14, none⟩ = some (.int .i64 (d / 1000000000))
  loc : w.cell? ⟨r, 15, none⟩ = some (.pointer none)
  idx : w.cell? ⟨r, 16, none⟩ = some (.int .i64 k)
  fz : w.frozen? ⟨r, 16, none⟩ = false
  blk : Blk w r

theorem newReply (d k : Int) (w : World) (hd : -9223372036854775808 ≤ d) (hd' : d ≤ 9223372036854775807) :
    Calls Try.prog 12 #[.int .i64 d, .int .i64 k] w fun e w' => e = .returned (.pointer (some ⟨w.heap.size + 3, 0, none⟩)) ∧ Below w.heap.size w w' ∧ w'.heap.size = w.heap.size + 4 ∧ Rep w' (w.heap.size + 3) d k := by
  go_enter Try.func12, Try.ntmps12
  go_wp2_with fail
  refine (add_any d _ hd hd').mono ?_
  rintro e w1 ⟨rfl, hb, hs⟩
  rw [World.size_alloc] at hs
  go_wp2_with fail
  go_ret
  refine ⟨rfl, ((((Below.refl _ _).alloc (Nat.le_refl _) _).trans (hb.mono (by simp))).alloc (by omega) _), by simp; omega, ?_⟩
  rw [show w.heap.size + 3 = w1.heap.size by omega]
  refine ⟨by simp, by simp, by simp, by simp, by simp, _, _, Go.Deep.blk_alloc_new _ _⟩

theorem and_two (a b : Int) (h0 : 0 ≤ a) (h1 : a < 1000000000) (h2 : 0 ≤ b) (h3 : b < 1000000000) : bits .and .u64 (bits .and .u64 a b) 9223372036854775808 = 0 := by
  have e := u64_and a b h0 (by omega) h2 (by omega)
  have hle : (a.toNat &&& b.toNat) ≤ a.toNat := Nat.and_le_left
  rw [e]
  exact and_mono _ (by omega) (by omega)

theorem ret_bool {a b : Bool} (h : a = b) : Ending.returned (.bool a) = .returned (.bool b) := by rw [h]

theorem before_any (d1 d2 : Int) (w : World) :
    Calls Try.prog 30 #[.agg #[.int .u64 (d1 % 1000000000), .int .i64 (d1 / 1000000000), .pointer none], .agg #[.int .u64 (d2 % 1000000000), .int .i64 (d2 / 1000000000), .pointer none]] w
      fun e w' => e = .returned (.bool (decide (d1 < d2))) ∧ Below w.heap.size w w' := by
  have hm := and_two (d1 % 1000000000) (d2 % 1000000000) (by omega) (by omega) (by omega) (by omega)
  by_cases hs : d1 / 1000000000 < d2 / 1000000000
  · go_enter Try.func30, Try.ntmps30
    go_wp2_with fail
    refine (sec_any w.heap.size (d1 % 1000000000) (d1 / 1000000000) _ (by simp) (by simp) (by omega) (by omega)).mono ?_
    rintro e w' ⟨rfl, rfl⟩
    go_wp2_with fail
    refine (sec_any (w.heap.size + 1) (d2 % 1000000000) (d2 / 1000000000) _ (by simp) (by simp) (by omega) (by omega)).mono ?_
    rintro e w' ⟨rfl, rfl⟩
    go_wp2_with fail
    go_ret
    exact ⟨ret_bool (by simp; omega), ((Below.refl _ _).alloc (Nat.le_refl _) _).alloc (by simp) _⟩
  have hs' : decide (d1 / 1000000000 < d2 / 1000000000) = false := decide_eq_false hs
  by_cases he : d1 / 1000000000 = d2 / 1000000000
  · have he' : (d1 / 1000000000 == d2 / 1000000000) = true := by rw [beq_iff_eq]; exact he
    have HE : Hid (d1 / 1000000000 = d2 / 1000000000) := he
    clear he
    go_enter Try.func30, Try.ntmps30
    go_wp2_with fail
    refine (sec_any w.heap.size (d1 % 1000000000) (d1 / 1000000000) _ (by simp) (by simp) (by omega) (by omega)).mono ?_
    rintro e w' ⟨rfl, rfl⟩
    go_wp2_with fail
    refine (sec_any (w.heap.size + 1) (d2 % 1000000000) (d2 / 1000000000) _ (by simp) (by simp) (by omega) (by omega)).mono ?_
    rintro e w' ⟨rfl, rfl⟩
    go_wp2_with fail
    refine (nsec_any w.heap.size (d1 % 1000000000) _ (by simp) (by omega) (by omega)).mono ?_
    rintro e w' ⟨rfl, rfl⟩
    go_wp2_with fail
    refine (nsec_any (w.heap.size + 1) (d2 % 1000000000) _ (by simp) (by omega) (by omega)).mono ?_
    rintro e w' ⟨rfl, rfl⟩
    go_wp2_with fail
    go_ret
    have := HE.out
    exact ⟨ret_bool (by simp; omega), ((Below.refl _ _).alloc (Nat.le_refl _) _).alloc (by simp) _⟩
  · have he' : (d1 / 1000000000 == d2 / 1000000000) = false := by rw [beq_eq_false_iff_ne]; exact he
    go_enter Try.func30, Try.ntmps30
    go_wp2_with fail
    refine (sec_any w.heap.size (d1 % 1000000000) (d1 / 1000000000) _ (by simp) (by simp) (by omega) (by omega)).mono ?_
    rintro e w' ⟨rfl, rfl⟩
    go_wp2_with fail
    refine (sec_any (w.heap.size + 1) (d2 % 1000000000) (d2 / 1000000000) _ (by simp) (by simp) (by omega) (by omega)).mono ?_
    rintro e w' ⟨rfl, rfl⟩
    go_wp2_with fail
    go_ret
    exact ⟨ret_bool (by simp; omega), ((Below.refl _ _).alloc (Nat.le_refl _) _).alloc (by simp) _⟩

set_option maxHeartbeats 1000000 in
theorem less_any (ab m c i j ri rj : Nat) (di dj ki kj : Int) (w : World) (hi : i < m) (hj : j < m) (ci : w.cell? ⟨ab, i, none⟩ = some (.pointer (some ⟨ri, 0, none⟩))) (cj : w.cell? ⟨ab, j, none⟩ = some (.pointer (some ⟨rj, 0, none⟩)))
    (Ri : Hid (Rep w ri di ki)) (Rj : Hid (Rep w rj dj kj)) :
    Calls Try.prog 59 #[.slice (some ⟨ab, 0, none⟩) m c, .int .i64 i, .int .i64 j] w fun e w' => e = .returned (.bool (decide (di < dj))) ∧ Below w.heap.size w w' := by
  have a1 := Ri.out.wall
  have a2 := Ri.out.ext
  have a3 := Ri.out.loc
  have b1 := Rj.out.wall
  have b2 := Rj.out.ext
  have b3 := Rj.out.loc
  have hi' : (i : Int) < (m : Int) := by omega
  have hj' : (j : Int) < (m : Int) := by omega
  go_enter Try.func59, Try.ntmps59
  go_wp2
  go_region_with (go_at_call 30; refine (before_any di dj _).mono ?_; rintro e w' ⟨rfl, hb⟩)
  all_goals (go_wp2; go_ret; exact ⟨rfl, ((Below.refl _ _).drew).trans hb⟩)

theorem len_any (a : Option Addr) (m c : Nat) (w : World) : Calls Try.prog 58 #[.slice a m c] w fun e w' => e = .returned (.int .i64 m) ∧ w = w' := by
  go_enter Try.func58, Try.ntmps58
  go_wp2
  go_ret
  exact ⟨rfl, rfl⟩

set_option maxHeartbeats 1000000 in
theorem swap_any (ab m c i j ri rj : Nat) (ki kj : Value) (w : World) (hi : i < m) (hj : j < m) (hij : i ≠ j) (hr : ri ≠ rj) (hai : ab ≠ ri) (haj : ab ≠ rj)
    (ci : w.cell? ⟨ab, i, none⟩ = some (.pointer (some ⟨ri, 0, none⟩))) (cj : w.cell? ⟨ab, j, none⟩ = some (.pointer (some ⟨rj, 0, none⟩)))
    (fi : w.frozen? ⟨ab, i, none⟩ = false) (fj : w.frozen? ⟨ab, j, none⟩ = false) (xi : w.cell? ⟨ri, 16, none⟩ = some ki) (xj : w.cell? ⟨rj, 16, none⟩ = some kj) (gi : w.frozen? ⟨ri, 16, none⟩ = false) (gj : w.frozen? ⟨rj, 16, none⟩ = false) :
    Calls Try.prog 61 #[.slice (some ⟨ab, 0, none⟩) m c, .int .i64 i, .int .i64 j] w fun e w' => e = .returned (.tuple #[]) ∧
      ∃ q, w' = ((((w.setCell ⟨ab, i, none⟩ (.pointer (some ⟨rj, 0, none⟩))).setCell ⟨ab, j, none⟩ (.pointer (some ⟨ri, 0, none⟩))).setCell ⟨rj, 16, none⟩ (.int .i64 i)).setCell ⟨ri, 16, none⟩ (.int .i64 j)).drewN q := by
  have hi' : (i : Int) < (m : Int) := by omega
  have hj' : (j : Int) < (m : Int) := by omega
  have hji : ¬ j = i := fun h => hij h.symm
  have hij' : ¬ i = j := hij
  have h1 : ¬ ri = rj := hr
  have h2 : ¬ rj = ri := fun h => hr h.symm
  have h3 : ¬ ab = ri := hai
  have h4 : ¬ ri = ab := fun h => hai h.symm
  have h5 : ¬ ab = rj := haj
  have h6 : ¬ rj = ab := fun h => haj h.symm
  go_enter Try.func61, Try.ntmps61
  go_wp2
  go_region
  go_wp2
  go_region
  go_end0
  exact ⟨rfl, 2, rfl⟩
end Go.Proofs.Qxb6615564a
