import Derived.Test.Qxb6615564aHeapE
namespace Go.Proofs.Qxb6615564a
open Go.RowKit

theorem Try.info30 : (Try.prog.info? 30).map (fun i => (i.zero, i.size, i.bytes)) = some (some (.pointer none), 1, 8) := by kernel_rfl

theorem Rep.setOther {w : World} {r : Nat} {d k : Int} (h : Rep w r d k) {b o : Nat} (hb : b ≠ r) (v : Value) : Rep (w.setCell ⟨b, o, none⟩ v) r d k where
  wall := (set_ne _ _ (.inl hb)).trans h.wall
  ext := (set_ne _ _ (.inl hb)).trans h.ext
  loc := (set_ne _ _ (.inl hb)).trans h.loc
  idx := (set_ne _ _ (.inl hb)).trans h.idx
  fz := by simp [h.fz]
  blk := h.blk.set _ _

def ptrV (B : Nat) (j : Nat) : Value := .pointer (some ⟨B + 4 + 4 * j, 0, none⟩)

theorem build_any (a : Option Addr) (b o l c : Nat) (D : Nat → Int) (w : World) (hl : l ≤ 1048576) (hA : Hid (0 < l → a = some ⟨b, o, none⟩)) (hC : Hid (∀ i, i < l → w.cell? ⟨b, o + i, none⟩ = some (.int .i64 (D i)))) (hD : Hid (∀ i, i < l → -9223372036854775808 ≤ D i ∧ D i ≤ 9223372036854775807)) :
    Calls Try.prog 9 #[.slice a l c] w fun e w' => e = .returned (.slice (some ⟨w.heap.size, 0, none⟩) l l) ∧ w'.rowIs w.heap.size 30 l (ptrV w.heap.size) ∧ (∀ j, j < l → Rep w' (w.heap.size + 4 + 4 * j) (D j) j) ∧ Below w.heap.size w w' ∧ w'.heap.size = w.heap.size + 1 + 4 * l := by
  have hmk := run_make_row' (P := Try.prog) 25 30 (.pointer none) 8 Try.underlying25 Try.info30 rfl .i64 .i64 l (by omega) (by omega)
  go_enter Try.func9, Try.ntmps9
  go_wp2_with fail
  go_loopw [4] (fun i wr => ∃ k : Nat, k ≤ l ∧ i = .int .i64 k ∧ Hid (wr.rowIs w.heap.size 30 l (fun j => if j < k then ptrV w.heap.size j else .pointer none)) ∧ Hid (∀ j, j < k → Rep wr (w.heap.size + 4 + 4 * j) (D j) j) ∧ Hid (Below w.heap.size w wr) ∧ wr.heap.size = w.heap.size + 1 + 4 * k)
    (fun i _ => l - (intOf i).toNat)
  case atStart => exact ⟨0, Nat.zero_le _, rfl, (World.rowIs_made _ _ _ _).congr (by intro i hi; simp), fun j hj => absurd hj (by omega), (Below.refl _ _).alloc (Nat.le_refl _) _, by simp⟩
  case round =>
    obtain ⟨k, hk, rfl, Hrow, Hrep, Hbel, hsz⟩ := hrel
    by_cases hlt : k < l
    · have ha := hA.out (by omega)
      subst ha
      have hx : wr.cell? ⟨b, o + k, none⟩ = some (.int .i64 (D k)) := (Hbel.out.cell (lt_of_cell (hC.out k hlt))).trans (hC.out k hlt)
      obtain ⟨d1, d2⟩ := hD.out k hlt
      have hi' : (k : Int) < (l : Int) := by omega
      go_wp2_with fail
      refine (newReply (D k) k wr d1 d2).mono ?_
      rintro e w1 ⟨rfl, hb1, hs1, hr1⟩
      have HB1 : Hid (Below wr.heap.size wr w1) := hb1
      have HR1 : Hid (Rep w1 (w.heap.size + 4 + 4 * k) (D k) k) := by rw [show w.heap.size + 4 + 4 * k = wr.heap.size + 3 by omega]; exact hr1
      have HS1 : Hid (w1.heap.size = w.heap.size + 1 + 4 * (k + 1)) := by unfold Hid; omega
      have Hrow1 : Hid (w1.rowIs w.heap.size 30 l (fun j => if j < k then ptrV w.heap.size j else .pointer none)) := Hrow.out.of_block (hb1.block _ Hrow.out.lt)
      have hc1 := Hrow1.out.cell hlt
      have hf1 := Hrow1.out.frozen k
      have Hptr : Hid (Value.pointer (some ⟨wr.heap.size + 3, 0, none⟩) = ptrV w.heap.size k) := by unfold Hid ptrV; rw [hsz, show w.heap.size + 1 + 4 * k + 3 = w.heap.size + 4 + 4 * k by omega]
      clear hb1 hr1 hs1
      go_wp2
      go_roundw
      case rel =>
        refine ⟨k + 1, by omega, by go_num, ?_, fun j hj => ?_, ?_, by simp [World.setCell]; exact HS1.out⟩
        · have hh := Hrow1.out.set k (ptrV w.heap.size k)
          rw [← Hptr.out, hsz] at hh
          refine hh.congr fun j _ => ?_
          rw [← hsz, Hptr.out]
          exact fill_step (ptrV w.heap.size) _ k j
        · by_cases e : j = k
          · subst e; exact HR1.out.setOther (by omega) _
          · exact ((Hrep.out j (by omega)).below HB1.out).setOther (by omega) _
        · exact ((Hbel.out.trans (HB1.out.mono Hbel.out.size)).setCell (p := ⟨w.heap.size, k, none⟩) (Nat.le_refl _) _)
      case measure => simp [intOf]; omega
    · go_wp2
      go_ret
      obtain rfl : k = l := by omega
      exact ⟨rfl, Hrow.out.congr (fun j hj => if_pos hj), Hrep.out, Hbel.out, hsz⟩

theorem copy_any (b l c : Nat) (R : Nat → Nat) (w : World) (hl : l ≤ 1048576) (hC : Hid (∀ i, i < l → w.cell? ⟨b, 0 + i, none⟩ = some (.pointer (some ⟨R i, 0, none⟩)))) :
    Calls Try.prog 11 #[.slice (some ⟨b, 0, none⟩) l c] w fun e w' => e = .returned (.slice (some ⟨w.heap.size, 0, none⟩) l l) ∧ w'.rowIs w.heap.size 30 l (fun j => .pointer (some ⟨R j, 0, none⟩)) ∧ Below w.heap.size w w' ∧ w'.heap.size = w.heap.size + 1 := by
  have hmk := run_make_row' (P := Try.prog) 25 30 (.pointer none) 8 Try.underlying25 Try.info30 rfl .i64 .i64 l (by omega) (by omega)
  go_enter Try.func11, Try.ntmps11
  go_wp2_with fail
  go_loopw [4] (fun i wr => ∃ k : Nat, k ≤ l ∧ i = .int .i64 k ∧ Hid (wr.rowIs w.heap.size 30 l (fun j => if j < k then .pointer (some ⟨R j, 0, none⟩) else .pointer none)) ∧ Hid (Below w.heap.size w wr) ∧ wr.heap.size = w.heap.size + 1)
    (fun i _ => l - (intOf i).toNat)
  case atStart => exact ⟨0, Nat.zero_le _, rfl, (World.rowIs_made _ _ _ _).congr (by intro i hi; simp), (Below.refl _ _).alloc (Nat.le_refl _) _, by simp⟩
  case round =>
    obtain ⟨k, hk, rfl, Hrow, Hbel, hsz⟩ := hrel
    by_cases hlt : k < l
    · have hx : wr.cell? ⟨b, k, none⟩ = some (.pointer (some ⟨R k, 0, none⟩)) := by have := hC.out k hlt; rw [Nat.zero_add] at this; exact (Hbel.out.cell (lt_of_cell this)).trans this
      have hi' : (k : Int) < (l : Int) := by omega
      have hc1 := Hrow.out.cell hlt
      have hf1 := Hrow.out.frozen k
      go_wp2
      go_roundw
      case rel => exact ⟨k + 1, by omega, by go_num, (Hrow.out.set k _).congr fun j _ => fill_step (fun j => .pointer (some ⟨R j, 0, none⟩)) _ k j, Hbel.out.setCell (p := ⟨w.heap.size, k, none⟩) (Nat.le_refl _) _, by simp [World.setCell]; omega⟩
      case measure => simp [intOf]; omega
    · go_wp2
      go_ret
      obtain rfl : k = l := by omega
      exact ⟨rfl, Hrow.out.congr (fun j hj => if_pos hj), Hbel.out, hsz⟩
end Go.Proofs.Qxb6615564a
