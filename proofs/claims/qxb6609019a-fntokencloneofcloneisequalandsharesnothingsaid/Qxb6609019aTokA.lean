import Derived.Test.Qxb6609019aProg
import Derived.WalkKit
import Derived.WalkSpells
import Derived.WalkLawsBesides
import Derived.Deep.OwnRows
import Derived.Deep.QuietTactic
import Derived.BigQuiet
namespace Go.Proofs.Qxb6609019a
open Go.RowKit

theorem lt_of_cell {w : World} {a : Addr} {v : Value} (h : w.cell? a = some v) : a.block < w.heap.size := by
  unfold World.cell? at h
  by_cases hb : a.block < w.heap.size
  · exact hb
  · rw [Array.getElem?_eq_none (by omega)] at h
    simp at h

theorem cell_of_block {w w' : World} {b : Nat} (h : w'.heap[b]? = w.heap[b]?) (i : Nat) : w'.cell? ⟨b, i, none⟩ = w.cell? ⟨b, i, none⟩ := by
  simp only [World.cell?, h]

/-- Block b is a plain block whose first n cells are V. -/
def Own (w : World) (b n : Nat) (V : Nat → Value) : Prop :=
  ∃ (c : Array Value) (t : TypeId), w.heap[b]? = some (.cells c t (0, 0)) ∧ n ≤ c.size ∧ ∀ i, i < n → c[i]? = some (V i)

namespace Own
variable {w w' : World} {b n : Nat} {V U : Nat → Value}
theorem cell (h : Own w b n V) {i : Nat} (hi : i < n) : w.cell? ⟨b, i, none⟩ = some (V i) := by
  obtain ⟨c, t, hb, _, hc⟩ := h
  simp [World.cell?, hb, hc i hi]
theorem frozen (h : Own w b n V) (i : Nat) : w.frozen? ⟨b, i, none⟩ = false := by
  obtain ⟨c, t, hb, _, _⟩ := h
  simp [World.frozen?, hb]
theorem lt (h : Own w b n V) : b < w.heap.size := by
  obtain ⟨c, t, hb, _, _⟩ := h
  rcases Nat.lt_or_ge b w.heap.size with h | h
  · exact h
  · rw [Array.getElem?_eq_none h] at hb; cases hb
theorem block (h : Own w b n V) (hb : w'.heap[b]? = w.heap[b]?) : Own w' b n V := by
  obtain ⟨c, t, h1, h2, h3⟩ := h
  exact ⟨c, t, hb.trans h1, h2, h3⟩
theorem congr (h : Own w b n V) (e : ∀ i, i < n → V i = U i) : Own w b n U := by
  obtain ⟨c, t, h1, h2, h3⟩ := h
  exact ⟨c, t, h1, h2, fun i hi => by rw [h3 i hi, e i hi]⟩
theorem set (h : Own w b n V) (k : Nat) (x : Value) : Own (w.setCell ⟨b, k, none⟩ x) b n (fun i => if i = k then x else V i) := by
  obtain ⟨c, t, h1, h2, h3⟩ := h
  have hlt : b < w.heap.size := Own.lt ⟨c, t, h1, h2, h3⟩
  refine ⟨c.setIfInBounds k x, t, ?_, by simpa using h2, fun i hi => ?_⟩
  · simp only [World.setCell, Array.getElem?_modify]
    rw [if_pos trivial, h1]
    rfl
  · show _ = some (if i = k then x else V i)
    by_cases e : i = k
    · subst e
      rw [if_pos rfl, Array.getElem?_setIfInBounds, if_pos rfl, if_pos (by omega)]
    · rw [if_neg e, Array.getElem?_setIfInBounds, if_neg (by omega)]
      exact h3 i hi
theorem of_row {t : TypeId} (h : w.rowIs b t n V) : Own w b n V := by
  obtain ⟨c, h1, h2, h3⟩ := h
  exact ⟨c, t, h1, by omega, h3⟩
theorem of_owns {base size cap : Nat} {e : TypeId} {v : Value} {l : Nat} {xs : List Value} (h : w.ownsRow base e size v l xs) (hv : v = .slice (some ⟨b, 0, none⟩) l cap) (hx : ∀ i, i < l * size → xs[i]? = some (V i)) (hl : n ≤ l * size) : Own w b n V ∧ base ≤ b := by
  subst hv
  obtain ⟨h1, ⟨h2, _⟩ | ⟨g, cp, cur, h2, h3, h4, h5, h6, h7, h8⟩⟩ := h
  · cases h2
  · cases h2
    refine ⟨⟨cur, e, h4, by rw [h7]; exact Nat.le_trans hl (Nat.mul_le_mul_right _ h5), fun i hi => ?_⟩, h3⟩
    have := hx i (by omega)
    rw [← h8, List.getElem?_take_of_lt (by omega)] at this
    simpa using this
end Own

theorem setCell_block (w : World) (b k : Nat) (x : Value) (j : Nat) (h : j ≠ b) : (w.setCell ⟨b, k, none⟩ x).heap[j]? = w.heap[j]? := by
  simp only [World.setCell, Array.getElem?_modify]
  rw [if_neg (by simpa using fun e => h e.symm)]

/-- A slice value of length l over n cells V: at a block of which P holds. -/
def Slot (w : World) (P : Nat → Prop) (v : Value) (z : Bool) (l n : Nat) (V : Nat → Value) : Prop :=
  ∃ (a : Option Addr) (b c : Nat), v = .slice a l c ∧ a.isNone = z ∧ (0 < l → a = some ⟨b, 0, none⟩ ∧ P b ∧ Own w b n V)

/-- The same of a slice that is only read. -/
def Arg (w : World) (v : Value) (z : Bool) (l n : Nat) (V : Nat → Value) : Prop :=
  ∃ (a : Option Addr) (b o c : Nat), v = .slice a l c ∧ a.isNone = z ∧ (0 < l → a = some ⟨b, o, none⟩) ∧ ∀ i, i < n → w.cell? ⟨b, o + i, none⟩ = some (V i)

theorem Slot.arg {w : World} {P : Nat → Prop} {v : Value} {z : Bool} {l n : Nat} {V : Nat → Value} (h : Slot w P v z l n V) (hn : 0 < n → 0 < l) : Arg w v z l n V := by
  obtain ⟨a, b, c, hv, hz, hp⟩ := h
  by_cases hl : 0 < l
  · obtain ⟨h1, _, h3⟩ := hp hl
    exact ⟨a, b, 0, c, hv, hz, fun _ => h1, fun i hi => by rw [Nat.zero_add]; exact h3.cell hi⟩
  · exact ⟨a, b, 0, c, hv, hz, fun h => absurd h hl, fun i hi => absurd (hn (by omega)) hl⟩

theorem Slot.mono {w w' : World} {P P' : Nat → Prop} {v : Value} {z : Bool} {l n : Nat} {V : Nat → Value} (h : Slot w P v z l n V) (hp : ∀ b, b < w.heap.size → P b → P' b ∧ w'.heap[b]? = w.heap[b]?) : Slot w' P' v z l n V := by
  obtain ⟨a, b, c, hv, hz, h⟩ := h
  refine ⟨a, b, c, hv, hz, fun hl => ?_⟩
  obtain ⟨h1, h2, h3⟩ := h hl
  obtain ⟨q1, q2⟩ := hp b h3.lt h2
  exact ⟨h1, q1, h3.block q2⟩

theorem Arg.below {w w' : World} {B : Nat} {v : Value} {z : Bool} {l n : Nat} {V : Nat → Value} (h : Arg w v z l n V) (hb : Below B w w') (hB : w.heap.size ≤ B) : Arg w' v z l n V := by
  obtain ⟨a, b, o, c, hv, hz, h1, h2⟩ := h
  refine ⟨a, b, o, c, hv, hz, h1, fun i hi => ?_⟩
  rw [cell_of_block (hb.block b (by have := lt_of_cell (h2 i hi); simp at this; omega))]
  exact h2 i hi

theorem take_any (n k : Int) (w : World) (hn : -1 ≤ n) (hn' : n ≤ 1048576) (hk : 0 ≤ k) (hk' : k ≤ 9223372036854775807) :
    Calls Try.prog 20 #[.int .i64 n, .int .i64 k] w fun e w' => (∃ m : Int, e = .returned (.int .i64 m) ∧ -1 ≤ m ∧ m ≤ 1048576) ∧ w' = w := by
  by_cases h0 : n < 0
  · go_enter Try.func20, Try.ntmps20
    go_wp2
    go_ret
    exact ⟨⟨-1, rfl, by omega, by omega⟩, rfl⟩
  · have h0' : decide (n < 0) = false := decide_eq_false h0
    by_cases h1 : 1048576 - n < k
    · go_enter Try.func20, Try.ntmps20
      go_wp2
      go_ret
      exact ⟨⟨-1, rfl, by omega, by omega⟩, rfl⟩
    · have h1' : decide (1048576 - n < k) = false := decide_eq_false h1
      go_enter Try.func20, Try.ntmps20
      go_wp2
      go_ret
      exact ⟨⟨n + k, rfl, by omega, by omega⟩, rfl⟩

theorem words_any (n k m : Int) (w : World) (hn : -1 ≤ n) (hn' : n ≤ 1048576) (hk : 0 ≤ k) (hk' : k ≤ 9223372036854775807) (hm : 0 < m) (hm' : m ≤ 8) :
    Calls Try.prog 22 #[.int .i64 n, .int .i64 k, .int .i64 m] w fun e w' => (∃ m : Int, e = .returned (.int .i64 m) ∧ -1 ≤ m ∧ m ≤ 1048576) ∧ w' = w := by
  by_cases h0 : n < 0
  · go_enter Try.func22, Try.ntmps22
    go_wp2
    go_ret
    exact ⟨⟨-1, rfl, by omega, by omega⟩, rfl⟩
  · have h0' : decide (n < 0) = false := decide_eq_false h0
    have hq : (1048576 - n).tdiv (8 * m) = (1048576 - n) / (8 * m) := Int.tdiv_eq_ediv_of_nonneg (by omega)
    have hle : (1048576 - n) / (8 * m) ≤ 1048576 := Int.le_trans (Int.ediv_le_self _ (by omega)) (by omega)
    have hge : 0 ≤ (1048576 - n) / (8 * m) := Int.ediv_nonneg (by omega) (by omega)
    by_cases h1 : (1048576 - n) / (8 * m) < k
    · have h1' : decide ((1048576 - n) / (8 * m) < k) = true := decide_eq_true h1
      go_enter Try.func22, Try.ntmps22
      go_wp2
      go_ret
      exact ⟨⟨-1, rfl, by omega, by omega⟩, rfl⟩
    · have h1' : decide ((1048576 - n) / (8 * m) < k) = false := decide_eq_false h1
      have hs : k * (8 * m) ≤ 1048576 - n := by
        refine Int.le_trans (Int.mul_le_mul_of_nonneg_right (Int.not_lt.1 h1) (by omega)) ?_
        exact Int.ediv_mul_le _ (by omega)
      have hs' : k * 8 * m ≤ 1048576 - n := by rw [Int.mul_assoc]; exact hs
      have hs0 : 0 ≤ k * 8 * m := Int.mul_nonneg (by omega) (by omega)
      go_enter Try.func22, Try.ntmps22
      go_wp2
      go_ret
      exact ⟨⟨n + k * 8 * m, rfl, by omega, by omega⟩, rfl⟩

theorem drewN_two (w : World) (m n : Nat) : (w.drewN m).drewN n = w.drewN (m + n) := by
  simp [World.drewN, Nat.add_assoc]

theorem takeStrs_any (n : Int) (v : Value) (z : Bool) (l : Nat) (N : Nat → ByteArray) (w : World) (hn : -1 ≤ n) (hn' : n ≤ 1048576) (hl : l ≤ 1048576) (hN : ∀ i, i < l → (N i).size ≤ 1048576)
    (hv : Arg w v z l l (fun i => .string (N i))) :
    Calls Try.prog 21 #[.int .i64 n, v] w fun e w' => (∃ m : Int, e = .returned (.int .i64 m) ∧ -1 ≤ m ∧ m ≤ 1048576) ∧ w' = w := by
  obtain ⟨a, b, o, c, rfl, _, hA, hc⟩ := hv
  have HA : Hid (0 < l → a = some ⟨b, o, none⟩) := hA
  have HC : Hid (∀ i, i < l → w.cell? ⟨b, o + i, none⟩ = some (.string (N i))) := hc
  have HN : Hid (∀ i, i < l → (N i).size ≤ 1048576) := hN
  clear hA hc hN
  go_enter Try.func21, Try.ntmps21
  go_wp2_with fail
  refine (words_any n l 2 w hn hn' (by omega) (by omega) (by omega) (by omega)).mono ?_
  rintro _ w2 ⟨⟨m, rfl, h1, h2⟩, rfl⟩
  go_wp2_with fail
  go_loopw [5, 0] (fun i x wr => ∃ (k : Nat) (y : Int), k ≤ l ∧ i = .int .i64 k ∧ x = .int .i64 y ∧ -1 ≤ y ∧ y ≤ 1048576 ∧ wr = w2)
    (fun i _ _ => l - (intOf i).toNat)
  case atStart => exact ⟨0, m, Nat.zero_le _, rfl, rfl, h1, h2, rfl⟩
  case round =>
    obtain ⟨k, y, hk, rfl, rfl, hy1, hy2, rfl⟩ := hrel
    by_cases hlt : k < l
    · have ha := HA.out (by omega)
      subst ha
      have hx := HC.out k hlt
      have hs := HN.out k hlt
      have hk1 : (k : Int) < (l : Int) := by omega
      by_cases hy : 0 ≤ y
      · go_wp2_with fail
        refine (take_any y (N k).size _ hy1 hy2 (by omega) (by omega)).mono ?_
        rintro _ w3 ⟨⟨m3, rfl, h31, h32⟩, rfl⟩
        go_wp2_with fail
        go_roundw
        case rel => exact ⟨k + 1, m3, by omega, by go_num, rfl, h31, h32, trivial⟩
        case measure => simp [intOf]; omega
      · have hy' : decide (0 ≤ y) = false := decide_eq_false hy
        go_wp2_with fail
        go_ret
        exact ⟨⟨y, rfl, hy1, hy2⟩, rfl⟩
    · have hk1 : decide ((k : Int) < (l : Int)) = false := decide_eq_false (by omega)
      go_wp2_with fail
      go_ret
      exact ⟨⟨y, rfl, hy1, hy2⟩, rfl⟩
end Go.Proofs.Qxb6609019a
