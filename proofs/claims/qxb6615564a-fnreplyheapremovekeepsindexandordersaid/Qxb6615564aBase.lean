import Derived.Test.Qxb6615564aProg
import Derived.WalkKit
import Derived.WalkSpells
import Derived.WalkLawsBesides
import Derived.Deep.OwnRows
import Derived.Deep.QuietTactic
import Derived.BigQuiet
namespace Go.Proofs.Qxb6615564a
open Go.RowKit

theorem ret_int {k : IntKind} {a b : Int} (h : a = b) : Ending.returned (.int k a) = .returned (.int k b) := by rw [h]

theorem min3_any (a b c : Int) (w : World) :
    Calls Try.prog 20 #[.int .i64 a, .int .i64 b, .int .i64 c] w fun e w' => e = .returned (.int .i64 (min (min a b) c)) ∧ w' = w := by
  by_cases h1 : b < a
  · by_cases h2 : c < b
    · go_enter Try.func20, Try.ntmps20
      go_wp2
      go_ret
      exact ⟨ret_int (by omega), rfl⟩
    · go_enter Try.func20, Try.ntmps20
      go_wp2
      go_ret
      exact ⟨ret_int (by omega), rfl⟩
  · by_cases h2 : c < a
    · go_enter Try.func20, Try.ntmps20
      go_wp2
      go_ret
      exact ⟨ret_int (by omega), rfl⟩
    · go_enter Try.func20, Try.ntmps20
      go_wp2
      go_ret
      exact ⟨ret_int (by omega), rfl⟩

theorem lt_of_cell {w : World} {a : Addr} {v : Value} (h : w.cell? a = some v) : a.block < w.heap.size := by
  unfold World.cell? at h
  by_cases hb : a.block < w.heap.size
  · exact hb
  · rw [Array.getElem?_eq_none (by omega)] at h
    simp at h

theorem fill_step (V : Nat → Value) (Z : Value) (k j : Nat) : (if j = k then V k else if j < k then V j else Z) = if j < k + 1 then V j else Z := by
  by_cases h : j = k
  · subst h; rw [if_pos rfl, if_pos (by omega)]
  · rw [if_neg h]
    by_cases h' : j < k
    · rw [if_pos h', if_pos (by omega)]
    · rw [if_neg h', if_neg (by omega)]

theorem clone_nil (w : World) :
    Calls Try.prog 22 #[.slice none 0 0] w fun e w' => e = .returned (.slice none 0 0) ∧ w' = w := by
  have hn := fun w => Lib.run_eql_slice_nil (P := Try.prog) w 37 5 none 0 0 0 0 Try.underlying37
  go_enter Try.func22, Try.ntmps22
  go_wp2
  go_ret
  exact ⟨rfl, rfl⟩

theorem Try.info5 : (Try.prog.info? 5).map (fun i => (i.zero, i.size, i.bytes)) = some (some (.int .u8 0), 1, 1) := by kernel_rfl

theorem clone_some (a : Addr) (b off len cap : Nat) (D : Nat → Int) (w : World) (hA : 0 < len → a = ⟨b, off, none⟩) (hlen : len ≤ 1048576)
    (hc : ∀ i, i < len → w.cell? ⟨b, off + i, none⟩ = some (.int .u8 (D i))) :
    Calls Try.prog 22 #[.slice (some a) len cap] w fun e w' => e = .returned (.slice (some ⟨w.heap.size, 0, none⟩) len len) ∧ Below w.heap.size w w' ∧ w'.heap.size = w.heap.size + 1 ∧
      w'.rowIs w.heap.size 5 len (fun i => .int .u8 (D i)) := by
  have hn := fun w => Lib.run_eql_slice_nil (P := Try.prog) w 37 5 (some a) len cap 0 0 Try.underlying37
  have hmk := run_make_row' (P := Try.prog) 37 5 (.int .u8 0) 1 Try.underlying37 Try.info5 rfl .i64 .i64 len (by omega) (by omega)
  have HA : Hid (0 < len → a = ⟨b, off, none⟩) := hA
  have HC : Hid (∀ i, i < len → w.cell? ⟨b, off + i, none⟩ = some (.int .u8 (D i))) := hc
  clear hA hc
  go_enter Try.func22, Try.ntmps22
  go_wp2
  go_loopw [4] (fun i wr => ∃ k : Nat, k ≤ len ∧ i = .int .i64 k ∧ wr.rowIs w.heap.size 5 len (fun j => if j < k then .int .u8 (D j) else .int .u8 0) ∧ Below w.heap.size w wr ∧ wr.heap.size = w.heap.size + 1)
    (fun i _ => len - (intOf i).toNat)
  case atStart => exact ⟨0, Nat.zero_le _, rfl, (World.rowIs_made _ _ _ _).congr (by intro i hi; simp), (Below.refl _ _).alloc (Nat.le_refl _) _, by simp⟩
  case round =>
    obtain ⟨k, hk, rfl, hrow, hbel, hsz⟩ := hrel
    by_cases hlt : k < len
    · have ha := HA.out (by omega)
      subst ha
      have hcb : b < w.heap.size := lt_of_cell (HC.out k hlt)
      have hx : wr.cell? ⟨b, off + k, none⟩ = some (.int .u8 (D k)) := (hbel.cell hcb).trans (HC.out k hlt)
      have hy := hrow.cell hlt
      have hz := hrow.frozen k
      have Hrow : Hid (wr.rowIs w.heap.size 5 len (fun j => if j < k then .int .u8 (D j) else .int .u8 0)) := hrow
      clear hrow
      go_wp2
      go_roundw
      case rel => exact ⟨k + 1, by omega, by go_num, (Hrow.out.set k _).congr (fun j _ => fill_step (fun j => .int .u8 (D j)) _ k j), hbel.setCell (Nat.le_refl _) _, by simp [World.setCell]; omega⟩
      case measure => simp [intOf]; omega
    · go_wp2
      go_ret
      exact ⟨rfl, hbel, hsz, hrow.congr (fun j hj => if_pos (by omega))⟩
end Go.Proofs.Qxb6615564a
