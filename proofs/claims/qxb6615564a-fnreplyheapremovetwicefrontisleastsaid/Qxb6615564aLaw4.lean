import Derived.Test.Qxb6615564aLaw3
namespace Go.Proofs.Qxb6615564a
open Go.RowKit

set_option maxHeartbeats 2000000 in
set_option maxRecDepth 100000 in
theorem law4 (a : Option Addr) (l c b o : Nat) (D : Nat → Int) (k : Int) (w : World) (A0 : Hid (ArgD w a l b o D)) :
    Calls Try.prog 4 #[.slice a l c, .int .i64 k] w fun e w' => e = .returned (.bool true) ∧ Below w.heap.size w w' := by
  go_enter Try.func4, Try.ntmps4
  go_wp2_with fail
  refine (bytes18 a l c k w A0.out.big).mono ?_
  rintro e w' ⟨rfl | rfl, rfl⟩
  rotate_left
  · go_wp2
    go_ret
    exact ⟨rfl, Below.refl _ _⟩
  by_cases e0 : (65536 : Int) < (l : Int)
  · go_wp2
    go_ret
    exact ⟨rfl, Below.refl _ _⟩
  have e0' : decide ((65536 : Int) < (l : Int)) = false := decide_eq_false e0
  by_cases q0 : k < 0
  · go_wp2
    go_ret
    exact ⟨rfl, Below.refl _ _⟩
  have q0' : decide (k < 0) = false := decide_eq_false q0
  by_cases q1 : (l : Int) ≤ k
  · go_wp2
    go_ret
    exact ⟨rfl, Below.refl _ _⟩
  have q1' : decide ((l : Int) ≤ k) = false := decide_eq_false q1
  go_wp2_with fail
  refine (ordered_any a b o l c D w (by omega) A0.out.at_ A0.out.cell).mono ?_
  rintro e w' ⟨⟨rfl, HH⟩ | rfl, m0, rfl⟩
  rotate_left
  · go_wp2
    go_ret
    exact ⟨rfl, (Below.refl _ _).drewN _⟩
  clear q0' q1' e0'
  go_wp2_with fail
  refine (build_any a b o l c D (w.drewN m0) (by omega) A0.out.at_ A0.out.cell A0.out.wf).mono ?_
  rintro e w1 ⟨rfl, hrow1, hrep1, hb1, hs1⟩
  have HRow1 : Hid (w1.rowIs w.heap.size 30 l (ptrV w.heap.size)) := hrow1
  have HRep1 : Hid (∀ j, j < l → Rep w1 (w.heap.size + 4 + 4 * j) (D j) j) := hrep1
  have HB1 : Hid (Below w.heap.size w w1) := ((Below.refl _ _).drewN _).trans hb1
  have HS1 : Hid (w1.heap.size = w.heap.size + 1 + 4 * l) := hs1
  clear hrow1 hrep1 hb1 hs1
  go_wp2_with fail
  refine (copy_any w.heap.size l l (fun j => w.heap.size + 4 + 4 * j) w1 (by omega) (fun i hi => by rw [Nat.zero_add]; exact HRow1.out.cell hi)).mono ?_
  rintro e w2 ⟨rfl, hrow2, hb2, hs2⟩
  have HRow2 : Hid (w2.rowIs w1.heap.size 30 l (fun j => .pointer (some ⟨w.heap.size + 4 + 4 * j, 0, none⟩))) := hrow2
  have HB2 : Hid (Below w1.heap.size w1 w2) := hb2
  have HS2 : Hid (w2.heap.size = w1.heap.size + 1) := hs2
  clear hrow2 hb2 hs2
  go_wp2_with fail
  refine (heapFrom_any w1.heap.size l l w2).mono ?_
  rintro e w3 ⟨rfl, hw3⟩
  have ehb : w2.heap.size = w.heap.size + 2 + 4 * l := by have := HS1.out; have := HS2.out; omega
  rw [ehb]
  have HSt : Hid (St w3 (w.heap.size + 2 + 4 * l) (w.heap.size + 1 + 4 * l) l l (fun j => w.heap.size + 4 + 4 * j) D id) := by rw [hw3]; exact st_start HS1.out HRep1.out HRow2.out HB2.out HS2.out
  have HB3 : Hid (Below w1.heap.size w1 w3) := by rw [hw3]; exact HB2.out.alloc (by have := HS2.out; omega) _
  have HS3 : Hid (w3.heap.size = w.heap.size + 3 + 4 * l) := by rw [hw3]; unfold Hid; simp; omega
  have HOr : Hid (∀ j, j < l → w3.cell? ⟨w.heap.size, j, none⟩ = some (.pointer (some ⟨w.heap.size + 4 + 4 * j, 0, none⟩))) := fun j hj => (HB3.out.cell (p := ⟨w.heap.size, j, none⟩) HRow1.out.lt).trans (HRow1.out.cell hj)
  have HBw3 : Hid (Below w.heap.size w w3) := HB1.out.trans (HB3.out.mono HB1.out.size)
  have G : Hid (Geo (w.heap.size + 2 + 4 * l) (w.heap.size + 1 + 4 * l) l (fun j => w.heap.size + 4 + 4 * j)) := geo_of _ _
  clear ehb hw3 HRow1 HRep1 HB1 HS1 HRow2 HB2 HS2 HB3
  obtain ⟨kk, rfl⟩ := Int.eq_ofNat_of_zero_le (show 0 ≤ k by omega)
  obtain ⟨n, hn⟩ : ∃ n, l = n + 1 := ⟨l - 1, by omega⟩
  have HN : Hid (l = n + 1) := hn
  have hnI : (l : Int) - 1 = (n : Int) := by omega
  have hnl : n < l := by omega
  clear hn
  have hok := HOr.out kk (by omega)
  have hki : (kk : Int) < (l : Int) := by omega
  go_wp2_with fail
  refine (remove_someL (R := fun j => w.heap.size + 4 + 4 * j) (A := id) HN.out G (by omega) kk (by omega) HSt (bij_id _) HH).mono ?_
  rintro e w5 ⟨A, rfl, S5, B5, hA5, H5, R5, K5⟩
  have L : Hid (Left w5 (w.heap.size + 2 + 4 * l) (w.heap.size + 1 + 4 * l) w.heap.size l n (fun j => w.heap.size + 4 + 4 * j) D A kk) := ⟨S5, fun j hj hjk => by
    obtain ⟨i, hi, e⟩ := B5.sur j hj
    refine ⟨i, ?_, e⟩
    by_cases hin : i = n
    · rw [hin, hA5] at e; exact absurd (by rw [← e]; rfl) hjk
    · omega, fun h => absurd h (by omega), H5, fun j hj => K5.cell (HOr.out j hj) (by simp; omega) (by simp; omega) (fun t ht => by simp; omega)⟩
  have Hmiss : Hid (∀ i, i < n → A i ≠ kk) := fun i hi e => by
    have := B5.inj i n (by omega) hnl (e.trans hA5.symm)
    omega
  have HR5 : Hid (Rep w5 (w.heap.size + 4 + 4 * kk) (D kk) (-1)) := R5
  have HBz : Hid (Below w.heap.size w w5) := K5.below HBw3.out HBw3.out.size (by omega) (by omega) (fun t ht => by omega)
  clear S5 B5 hA5 H5 R5 K5 HSt HOr HBw3 hok
  have hmk := run_make_row' (P := Try.prog) 25 30 (.pointer none) 8 Try.underlying25 Try.info30 rfl .i64 .i64 n (by omega) (by omega)
  go_wp2_with fail
  refine (heapLen_any _ _ _ _ w5 L.out.st.cell).mono ?_
  rintro e w6 ⟨rfl, rfl⟩
  go_wp2_with fail
  go_loopw [10] (fun i wr => ∃ t : Nat, t ≤ n ∧ i = .int .i64 t ∧ Hid (wr.rowIs w5.heap.size 30 n (fun j => if j < t then .pointer (some ⟨w.heap.size + 4 + 4 * A j, 0, none⟩) else .pointer none)) ∧ Hid (Below w5.heap.size w5 wr)) (fun i _ => n - (intOf i).toNat)
  case atStart => exact ⟨0, Nat.zero_le _, rfl, (World.rowIs_made _ _ _ _).congr (by intro i hi; simp), (Below.refl _ _).alloc (Nat.le_refl _) _⟩
  case round =>
    obtain ⟨t, ht, rfl, Hrow, Hbel⟩ := hrel
    by_cases htn : t < n
    · have HL : Hid (Left wr (w.heap.size + 2 + 4 * l) (w.heap.size + 1 + 4 * l) w.heap.size l n (fun j => w.heap.size + 4 + 4 * j) D A kk) := L.out.below Hbel.out
      have hti : (t : Int) < (n : Int) := by omega
      have hc1 := Hrow.out.cell htn
      have hf1 := Hrow.out.frozen t
      go_wp2_with fail
      refine (heapAt_any _ _ _ _ t _ _ _ rfl htn HL.out.st.cell (HL.out.st.arr t htn)).mono ?_
      rintro e w7 ⟨rfl, rfl⟩
      go_wp2_with fail
      go_roundw
      case rel => exact ⟨t + 1, by omega, by go_num, (Hrow.out.set t _).congr fun j _ => fill_step (fun j => .pointer (some ⟨w.heap.size + 4 + 4 * A j, 0, none⟩)) _ t j, Hbel.out.setCell (p := ⟨w5.heap.size, t, none⟩) (Nat.le_refl _) _⟩
      case measure => simp [intOf]; omega
    · obtain rfl : n = t := by omega
      have HL : Hid (Left wr (w.heap.size + 2 + 4 * l) (w.heap.size + 1 + 4 * l) w.heap.size l n (fun j => w.heap.size + 4 + 4 * j) D A kk) := L.out.below Hbel.out
      have HR6 : Hid (Rep wr (w.heap.size + 4 + 4 * kk) (D kk) (-1)) := HR5.out.below Hbel.out
      have HB6 : Hid (Below w.heap.size w wr) := HBz.out.trans (Hbel.out.mono HBz.out.size)
      have hokk := HL.out.orig kk (by omega)
      clear hmk L HR5 HBz
      go_wp2_with fail
      refine (remove_none _ _ wr HR6.out.idx).mono ?_
      rintro e w6 ⟨rfl, rfl⟩
      go_wp2_with fail
      refine (heapLen_any _ _ _ _ wr HL.out.st.cell).mono ?_
      rintro e w6 ⟨rfl, rfl⟩
      go_wp2_with fail
      obtain ⟨wa, hwa⟩ : ∃ wa : World, wa = wr := ⟨_, rfl⟩
      rw [← hwa] at HL HR6 HB6 hokk Hrow
      go_loopw [11] (fun i wx => ∃ t m : Nat, t ≤ n ∧ i = .int .i64 t ∧ wx = wa.drewN m) (fun i _ => n - (intOf i).toNat)
      case atStart => exact ⟨0, 0, Nat.zero_le _, rfl, by rw [hwa]; rfl⟩
      clear hwa
      case round =>
        obtain ⟨t, m1, ht1, rfl, rfl⟩ := hrel
        by_cases htn1 : t < n
        · have hsn := Hrow.out.cell htn1
          rw [if_pos htn1] at hsn
          have hti : (t : Int) < (n : Int) := by omega
          have hneq := fun wq => neq_same ⟨w.heap.size + 4 + 4 * A t, 0, none⟩ wq
          have hcall : Hid (∀ q, Calls Try.prog 16 #[.pointer (some ⟨w.heap.size + 2 + 4 * l, 0, none⟩), .int .i64 t] (wa.drewN (m1 + q)) fun e w'' => e = .returned (.pointer (some ⟨w.heap.size + 4 + 4 * A t, 0, none⟩)) ∧ ∃ r, w'' = wa.drewN (m1 + r)) := fun q => by
            refine (heapAt_any _ _ _ _ t _ _ (wa.drewN (m1 + q)) rfl htn1 HL.out.st.cell (HL.out.st.arr t htn1)).mono ?_
            rintro e w' ⟨rfl, rfl⟩
            exact ⟨rfl, q, rfl⟩
          go_wp2_with fail
          go_quiet ((go_at_call 16; exact hcall.out _))
          clear hcall
          go_wp2_with fail
          go_roundw
          case rel => exact ⟨t + 1, m1 + nq, by omega, by go_num, rfl⟩
          case measure => simp [intOf]; omega
        · go_wp2_with fail
          refine (index_any _ _ (wa.drewN m1) HR6.out.idx).mono ?_
          rintro e w7 ⟨rfl, rfl⟩
          by_cases hn0 : n = 0
          · have hn0' : decide ((0 : Int) < (n : Int)) = false := decide_eq_false (by omega)
            go_wp2_with fail
            go_ret
            exact ⟨rfl, HB6.out.drewN _⟩
          · have hn0' : (0 : Int) < (n : Int) := by omega
            have HL1 : Hid (Left (wa.drewN m1) (w.heap.size + 2 + 4 * l) (w.heap.size + 1 + 4 * l) w.heap.size l n (fun j => w.heap.size + 4 + 4 * j) D A kk) := HL.out.below ((Below.refl _ _).drewN _)
            have HR7 : Hid (Rep (wa.drewN m1) (w.heap.size + 4 + 4 * kk) (D kk) (-1)) := HR6.out.below ((Below.refl _ _).drewN _)
            have hne := eql_other (wa.drewN m1) (w.heap.size + 4 + 4 * A 0) (w.heap.size + 4 + 4 * kk) (by have := Hmiss.out 0 (by omega); omega) (HL1.out.st.rep 0 (by omega)).blk HR7.out.blk
            go_wp2_with fail
            refine (heapAt_any _ _ _ _ 0 _ _ _ rfl (by omega) HL1.out.st.cell (HL1.out.st.arr 0 (by omega))).mono ?_
            rintro e w7 ⟨rfl, rfl⟩
            go_wp2_with fail
            clear hne
            go_loopw [13] (fun i wx => ∃ j : Nat, j ≤ l ∧ i = .int .i64 j ∧ Hid (Below wa.heap.size wa wx)) (fun i _ => l - (intOf i).toNat)
            case atStart => exact ⟨0, Nat.zero_le _, rfl, (Below.refl _ _).drewN _⟩
            case round =>
              obtain ⟨j, hj, rfl, HBj⟩ := hrel
              by_cases hjl : j < l
              · by_cases hjk : (j : Int) = (kk : Int)
                · have hjk' : ((j : Int) == (kk : Int)) = true := by rw [beq_iff_eq]; exact hjk
                  clear hjk
                  go_wp2_with fail
                  go_roundw
                  case rel => exact ⟨j + 1, by omega, by go_num, HBj⟩
                  case measure => simp [intOf]; omega
                · have hjk' : ((j : Int) == (kk : Int)) = false := by rw [beq_eq_false_iff_ne]; exact hjk
                  obtain ⟨i, hi, hAi⟩ := HL.out.others j hjl hjk
                  have HLj : Hid (Left wr (w.heap.size + 2 + 4 * l) (w.heap.size + 1 + 4 * l) w.heap.size l n (fun j => w.heap.size + 4 + 4 * j) D A kk) := HL.out.below HBj.out
                  have hoj := HLj.out.orig j hjl
                  have hrep := HLj.out.st.rep i hi
                  rw [hAi] at hrep
                  have Hrep := hide hrep
                  have Hle : Hid (decide (D j < D (A 0)) = false) := decide_eq_false (Int.not_lt.2 (by have := HL.out.heap.least i hi; simp only [hAi] at this; exact this))
                  have hji : (j : Int) < (l : Int) := by omega
                  clear hrep hjk hAi
                  go_wp2_with fail
                  refine (dueBefore_any _ _ _ _ _ _ _ (unhide Hrep) (HLj.out.st.rep 0 (by omega))).mono ?_
                  rintro e w8 ⟨rfl, hb8⟩
                  have HB8 : Hid (Below wa.heap.size wa w8) := HBj.out.trans (hb8.mono HBj.out.size)
                  clear hb8
                  rw [Hle.out]
                  go_wp2_with fail
                  go_roundw
                  case rel => exact ⟨j + 1, by omega, by go_num, HB8⟩
                  case measure => simp [intOf]; omega
              · go_wp2_with fail
                go_ret
                exact ⟨rfl, HB6.out.trans (HBj.out.mono HB6.out.size)⟩
end Go.Proofs.Qxb6615564a
