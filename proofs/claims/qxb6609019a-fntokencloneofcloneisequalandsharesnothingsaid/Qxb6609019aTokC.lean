import Derived.Test.Qxb6609019aTokA
import Derived.Laws.BitsAllLaws
namespace Go.Proofs.Qxb6609019a
open Go.RowKit

theorem and_mono (x : Int) (h0 : 0 ≤ x) (h1 : x < 1073741824) : bits .and .u64 x 9223372036854775808 = 0 := by
  rw [u64_and x _ h0 (by omega) (by omega) (by omega)]
  have : x.toNat &&& (9223372036854775808 : Int).toNat = 0 := by
    apply Nat.eq_of_testBit_eq
    intro i
    have e : (9223372036854775808 : Int).toNat = 2 ^ 63 := by decide
    rw [e, Nat.testBit_and, Nat.testBit_two_pow, Nat.zero_testBit]
    by_cases h : 63 = i
    · subst h
      rw [Nat.testBit_lt_two_pow (by omega : x.toNat < 2 ^ 63)]
      rfl
    · simp [h]
  rw [this]
  rfl
theorem and_mask (x : Int) (h0 : 0 ≤ x) (h1 : x < 1073741824) : bits .and .u64 x 1073741823 = x := by
  rw [u64_and x _ h0 (by omega) (by omega) (by omega)]
  have e : (1073741823 : Int).toNat = 2 ^ 30 - 1 := by decide
  rw [e, Nat.and_two_pow_sub_one_eq_mod, Nat.mod_eq_of_lt (by omega)]
  omega
theorem or_zero (x : Int) (h0 : 0 ≤ x) (h1 : x < 1073741824) : bits .or .u64 0 x = x := by
  rw [u64_or 0 x (by omega) (by omega) h0 (by omega)]
  simp
  omega
theorem andNot_zero : bits .andNot .u64 0 1073741823 = 0 := by decide

theorem nsec_any (b : Nat) (x : Int) (w : World) (h : w.cell? ⟨b, 0, none⟩ = some (.int .u64 x)) (h0 : 0 ≤ x) (h1 : x < 1000000000) :
    Calls Try.prog 34 #[.pointer (some ⟨b, 0, none⟩)] w fun e w' => e = .returned (.int .i32 x) ∧ w = w' := by
  have hm := and_mask x h0 (by omega)
  go_enter Try.func34, Try.ntmps34
  go_wp2
  go_ret
  exact ⟨rfl, rfl⟩

theorem sec_any (b : Nat) (x y : Int) (w : World) (h : w.cell? ⟨b, 0, none⟩ = some (.int .u64 x)) (h2 : w.cell? ⟨b, 1, none⟩ = some (.int .i64 y)) (h0 : 0 ≤ x) (h1 : x < 1000000000) :
    Calls Try.prog 37 #[.pointer (some ⟨b, 0, none⟩)] w fun e w' => e = .returned (.int .i64 y) ∧ w = w' := by
  have hm := and_mono x h0 (by omega)
  go_enter Try.func37, Try.ntmps37
  go_wp2
  go_ret
  exact ⟨rfl, rfl⟩

theorem addSec_any (b : Nat) (x d : Int) (w : World) (h : w.cell? ⟨b, 0, none⟩ = some (.int .u64 x)) (h2 : w.cell? ⟨b, 1, none⟩ = some (.int .i64 0)) (hf : w.frozen? ⟨b, 1, none⟩ = false) (h0 : 0 ≤ x) (h1 : x < 1000000000) (hd : -9223372037 ≤ d) (hd' : d ≤ 9223372037) :
    Calls Try.prog 35 #[.pointer (some ⟨b, 0, none⟩), .int .i64 d] w fun e w' => e = .returned (.tuple #[]) ∧ w' = w.setCell ⟨b, 1, none⟩ (.int .i64 d) := by
  have hm := and_mono x h0 (by omega)
  by_cases hp : 0 < d
  · go_enter Try.func35, Try.ntmps35
    go_wp2
    go_end0
    exact ⟨rfl, rfl⟩
  · have hp' : decide (0 < d) = false := decide_eq_false hp
    go_enter Try.func35, Try.ntmps35
    go_wp2
    go_end0
    exact ⟨rfl, rfl⟩

theorem neg_parts (d : Int) (h : d < 0) (hd : -9223372036854775808 ≤ d) : -9223372037 < d.tdiv 1000000000 ∧ d.tdiv 1000000000 ≤ 0 ∧ -1000000000 < d.tmod 1000000000 ∧ d.tmod 1000000000 ≤ 0 ∧
    (d.tmod 1000000000 < 0 → d.tmod 1000000000 + 1000000000 = d % 1000000000 ∧ d.tdiv 1000000000 - 1 = d / 1000000000) ∧ (¬ d.tmod 1000000000 < 0 → d.tmod 1000000000 = d % 1000000000 ∧ d.tdiv 1000000000 = d / 1000000000) := by
  obtain ⟨e, rfl⟩ : ∃ e : Int, d = -e := ⟨-d, by omega⟩
  have h1 : (-e).tdiv 1000000000 = -(e / 1000000000) := by rw [Int.neg_tdiv, Int.tdiv_eq_ediv_of_nonneg (by omega)]
  have h2 : (-e).tmod 1000000000 = -(e % 1000000000) := by rw [Int.neg_tmod, Int.tmod_eq_emod_of_nonneg (by omega)]
  rw [h1, h2]
  omega

theorem add_pos (d : Int) (w : World) (hp : 0 ≤ d) (hd' : d ≤ 9223372036854775807) :
    Calls Try.prog 29 #[.agg #[.int .u64 0, .int .i64 0, .pointer none], .int .i64 d] w fun e w' => e = .returned (.agg #[.int .u64 (d % 1000000000), .int .i64 (d / 1000000000), .pointer none]) ∧ Below w.heap.size w w' ∧ w'.heap.size = w.heap.size + 2 := by
  have hz := andNot_zero
  have ho := or_zero (d % 1000000000) (by omega) (by omega)
  have hm := and_mono (d % 1000000000) (by omega) (by omega)
  go_enter Try.func29, Try.ntmps29
  go_wp2_with fail
  refine (nsec_any w.heap.size 0 _ (by simp) (by omega) (by omega)).mono ?_
  rintro e w' ⟨rfl, rfl⟩
  go_wp2_with fail
  refine (addSec_any w.heap.size (d % 1000000000) (d / 1000000000) _ (by simp) (by simp) (by simp) (by omega) (by omega) (by omega) (by omega)).mono ?_
  rintro e w' ⟨rfl, rfl⟩
  go_wp2_with fail
  exact bodyPost_ret (v := .agg #[.int .u64 (d % 1000000000), .int .i64 (d / 1000000000), .pointer none]) (by simp [results, Try.results29, go_sem]) rfl ⟨rfl, ((Below.refl _ _).alloc (Nat.le_refl _) _).alloc (by simp) _, by simp⟩

theorem add_neg (d : Int) (w : World) (hp : d < 0) (hd : -9223372036854775808 ≤ d) :
    Calls Try.prog 29 #[.agg #[.int .u64 0, .int .i64 0, .pointer none], .int .i64 d] w fun e w' => e = .returned (.agg #[.int .u64 (d % 1000000000), .int .i64 (d / 1000000000), .pointer none]) ∧ Below w.heap.size w w' ∧ w'.heap.size = w.heap.size + 2 := by
  obtain ⟨q1, q2, r1, r2, p1, p2⟩ := neg_parts d hp hd
  have hz := andNot_zero
  by_cases hr : d.tmod 1000000000 < 0
  · obtain ⟨e1, e2⟩ := p1 hr
    clear p1 p2
    rw [← e1, ← e2]
    clear e1 e2
    have ho := or_zero (d.tmod 1000000000 + 1000000000) (by omega) (by omega)
    have hm := and_mono (d.tmod 1000000000 + 1000000000) (by omega) (by omega)
    go_enter Try.func29, Try.ntmps29
    go_wp2_with fail
    refine (nsec_any w.heap.size 0 _ (by simp) (by omega) (by omega)).mono ?_
    rintro e w' ⟨rfl, rfl⟩
    go_wp2_with fail
    refine (addSec_any w.heap.size (d.tmod 1000000000 + 1000000000) (d.tdiv 1000000000 - 1) _ (by simp) (by simp) (by simp) (by omega) (by omega) (by omega) (by omega)).mono ?_
    rintro e w' ⟨rfl, rfl⟩
    go_wp2_with fail
    exact bodyPost_ret (v := .agg #[.int .u64 (d.tmod 1000000000 + 1000000000), .int .i64 (d.tdiv 1000000000 - 1), .pointer none]) (by simp [results, Try.results29, go_sem]) rfl ⟨rfl, ((Below.refl _ _).alloc (Nat.le_refl _) _).alloc (by simp) _, by simp⟩
  · obtain ⟨e1, e2⟩ := p2 hr
    clear p1 p2
    rw [← e1, ← e2]
    clear e1 e2
    have r0 : d.tmod 1000000000 = 0 := by omega
    have ho := or_zero 0 (by omega) (by omega)
    have hm := and_mono 0 (by omega) (by omega)
    go_enter Try.func29, Try.ntmps29
    go_wp2_with fail
    refine (nsec_any w.heap.size 0 _ (by simp) (by omega) (by omega)).mono ?_
    rintro e w' ⟨rfl, rfl⟩
    go_wp2_with fail
    refine (addSec_any w.heap.size 0 (d.tdiv 1000000000) _ (by simp) (by simp) (by simp) (by omega) (by omega) (by omega) (by omega)).mono ?_
    rintro e w' ⟨rfl, rfl⟩
    go_wp2_with fail
    exact bodyPost_ret (v := .agg #[.int .u64 0, .int .i64 (d.tdiv 1000000000), .pointer none]) (by simp [results, Try.results29, go_sem]) rfl ⟨by rw [r0], ((Below.refl _ _).alloc (Nat.le_refl _) _).alloc (by simp) _, by simp⟩

theorem add_any (d : Int) (w : World) (hd : -9223372036854775808 ≤ d) (hd' : d ≤ 9223372036854775807) :
    Calls Try.prog 29 #[.agg #[.int .u64 0, .int .i64 0, .pointer none], .int .i64 d] w fun e w' => e = .returned (.agg #[.int .u64 (d % 1000000000), .int .i64 (d / 1000000000), .pointer none]) ∧ Below w.heap.size w w' ∧ w'.heap.size = w.heap.size + 2 := by
  by_cases hp : 0 ≤ d
  · exact add_pos d w hp hd'
  · exact add_neg d w (by omega) hd

/-- the time that so many nanoseconds behind the zero time are. -/
def timeV (d : Int) : Array Value := #[.int .u64 (d % 1000000000), .int .i64 (d / 1000000000), .pointer none]

theorem timeAt_any (d : Int) (w : World) (hd : -9223372036854775808 ≤ d) (hd' : d ≤ 9223372036854775807) :
    Calls Try.prog 24 #[.int .i64 d] w fun e w' => e = .returned (.agg (timeV d)) ∧ Below w.heap.size w w' := by
  go_enter Try.func24, Try.ntmps24
  go_wp2_with fail
  refine (add_any d _ hd hd').mono ?_
  rintro _ w2 ⟨rfl, hB, hs⟩
  have hc : ∀ i : Nat, w2.cell? ⟨w.heap.size, i, none⟩ = (w.alloc (.cells #[.int .u64 0, .int .i64 0, .pointer none] 43)).cell? ⟨w.heap.size, i, none⟩ := fun i => hB.cell (by simp)
  have hf : ∀ i : Nat, w2.frozen? ⟨w.heap.size, i, none⟩ = (w.alloc (.cells #[.int .u64 0, .int .i64 0, .pointer none] 43)).frozen? ⟨w.heap.size, i, none⟩ := fun i => World.frozen?_of_block (hB.block _ (by simp))
  have hc0 := hc 0
  have hc1 := hc 1
  have hc2 := hc 2
  have hf0 := hf 0
  have hf1 := hf 1
  have hf2 := hf 2
  simp [go_sem] at hc0 hc1 hc2 hf0 hf1 hf2
  have HB : Hid (Below w.heap.size w w2) := ((Below.refl _ _).alloc (Nat.le_refl _) _).trans (hB.mono (by simp))
  clear hc hf hB
  go_wp2
  exact bodyPost_ret (v := .agg (timeV d)) (by simp [results, Try.results24, go_sem, timeV, hc0, hc1, hc2]) rfl ⟨rfl, ((HB.out.setCell (p := ⟨w.heap.size, _, none⟩) (Nat.le_refl _) _).setCell (p := ⟨w.heap.size, _, none⟩) (Nat.le_refl _) _).setCell (p := ⟨w.heap.size, _, none⟩) (Nat.le_refl _) _⟩
end Go.Proofs.Qxb6609019a
