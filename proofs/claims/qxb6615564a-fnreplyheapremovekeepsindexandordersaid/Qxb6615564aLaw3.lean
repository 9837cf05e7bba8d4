import Derived.Test.Qxb6615564aHeapF
import Derived.Test.Qxb6615564aIds
import Derived.LaidEqlPtr
namespace Go.Proofs.Qxb6615564a
open Go.RowKit

/-- What is known of the []int64 that came in. -/
structure ArgD (w : World) (a : Option Addr) (l b o : Nat) (D : Nat → Int) : Prop where
  big : l ≤ 9223372036854775807
  at_ : 0 < l → a = some ⟨b, o, none⟩
  cell : ∀ i, i < l → w.cell? ⟨b, o + i, none⟩ = some (.int .i64 (D i))
  wf : ∀ i, i < l → -9223372036854775808 ≤ D i ∧ D i ≤ 9223372036854775807

theorem ArgD.below {w w' : World} {a : Option Addr} {l b o : Nat} {D : Nat → Int} (h : ArgD w a l b o D) (hb : Below w.heap.size w w') : ArgD w' a l b o D :=
  ⟨h.big, h.at_, fun i hi => (hb.cell (lt_of_cell (h.cell i hi))).trans (h.cell i hi), h.wf⟩

theorem bytes7 (a : Option Addr) (l c : Nat) (k : Int) (w : World) (hl : l ≤ 9223372036854775807) :
    Calls Try.prog 7 #[.slice a l c, .int .i64 k] w fun e w' => (e = .returned (.bool true) ∨ e = .returned (.bool false)) ∧ w = w' := by
  by_cases e0 : (1048576 : Int) < (l : Int)
  · go_enter Try.func7, Try.ntmps7
    go_wp2
    go_ret
    exact ⟨.inr rfl, rfl⟩
  · go_enter Try.func7, Try.ntmps7
    go_wp2
    go_ret
    exact ⟨.inl rfl, rfl⟩
theorem bytes18 (a : Option Addr) (l c : Nat) (k : Int) (w : World) (hl : l ≤ 9223372036854775807) :
    Calls Try.prog 18 #[.slice a l c, .int .i64 k] w fun e w' => (e = .returned (.bool true) ∨ e = .returned (.bool false)) ∧ w = w' := by
  by_cases e0 : (1048576 : Int) < (l : Int)
  · go_enter Try.func18, Try.ntmps18
    go_wp2
    go_ret
    exact ⟨.inr rfl, rfl⟩
  · go_enter Try.func18, Try.ntmps18
    go_wp2
    go_ret
    exact ⟨.inl rfl, rfl⟩

theorem info99 : ∃ j, Try.prog.info? 99 = some j := by
  have h : (Try.prog.info? 99).isSome = true := by kernel_rfl
  exact Option.isSome_iff_exists.1 h
theorem info99s : (Try.prog.info? 99).map (fun j => j.size != 0) = some true := by kernel_rfl
theorem neq_same (a : Addr) (w : World) : (binOp .neq 30 (.pointer (some a)) (.pointer (some a))).run Try.prog w = .ok (.bool false) w := by
  obtain ⟨j, hj⟩ := info99
  have h : ∀ d : Nat, (Op.equalIn (d + 1) 30 (.pointer (some a)) (.pointer (some a))).run Try.prog w = .ok true w := fun d => by
    simp [Op.equalIn, run_underlying Try.underlying30, sizeOf, typeInfo, hj, run_sameAddr_same]
  simp only [binOp]
  simp [Op.equal, Op.maxDepth, h 9999]
theorem eql_other (w : World) (r r' : Nat) (hne : r ≠ r') (h1 : Blk w r) (h2 : Blk w r') : (binOp .eql 30 (.pointer (some ⟨r, 0, none⟩)) (.pointer (some ⟨r', 0, none⟩))).run Try.prog w = .ok (.bool false) w := by
  obtain ⟨j, hj, hs⟩ := Option.map_eq_some_iff.1 info99s
  obtain ⟨c1, t1, e1⟩ := h1
  obtain ⟨c2, t2, e2⟩ := h2
  exact run_eql_ptr_other w Try.underlying30 hj (by simpa using hs) (fun e => hne (congrArg Addr.block e)) e1 e2

theorem geo_of (B n : Nat) : Geo (B + 2 + 4 * n) (B + 1 + 4 * n) n (fun j => B + 4 + 4 * j) where
  ne := by omega
  ra j hj := by omega
  rh j hj := by omega
  inj i j _ _ e := by omega

theorem bij_id (n : Nat) : Bij n id := ⟨fun _ h => h, fun _ _ _ _ e => e, fun j h => ⟨j, h, rfl⟩⟩

/-- The heap as it is first laid. -/
theorem st_start {w1 w2 : World} {B n : Nat} {D : Nat → Int} (h1 : w1.heap.size = B + 1 + 4 * n) (hrep : ∀ j, j < n → Rep w1 (B + 4 + 4 * j) (D j) j) (hrow : w2.rowIs w1.heap.size 30 n (fun j => .pointer (some ⟨B + 4 + 4 * j, 0, none⟩))) (hb : Below w1.heap.size w1 w2) (hs : w2.heap.size = w1.heap.size + 1) :
    St (w2.alloc (.cells #[.slice (some ⟨w1.heap.size, 0, none⟩) n n] 57)) (B + 2 + 4 * n) (B + 1 + 4 * n) n n (fun j => B + 4 + 4 * j) D id := by
  have hba : Below w2.heap.size w2 (w2.alloc (.cells #[.slice (some ⟨w1.heap.size, 0, none⟩) n n] 57)) := (Below.refl _ _).alloc (Nat.le_refl _) _
  have e1 : B + 2 + 4 * n = w2.heap.size := by omega
  have e2 : B + 1 + 4 * n = w1.heap.size := by omega
  refine ⟨?_, ?_, fun i hi => ?_, fun i hi => ?_, fun i hi => ?_⟩
  · rw [e1, e2]; simp
  · rw [e1]; simp
  · rw [e2]; exact (hba.cell (p := ⟨w1.heap.size, i, none⟩) hrow.lt).trans (hrow.cell hi)
  · rw [e2]; exact (hba.frozen (p := ⟨w1.heap.size, i, none⟩) hrow.lt).trans (hrow.frozen i)
  · exact ((hrep i hi).below hb).below hba

theorem remove_someL {w : World} {hb ab l n : Nat} {R : Nat → Nat} {due : Nat → Int} {A : Nat → Nat} (hl : l = n + 1) (G : Hid (Geo hb ab l R)) (hn : l ≤ 65536) (i : Nat) (hi : i < l)
    (S : Hid (St w hb ab l l R due A)) (B : Hid (Bij l A)) (H : Hid (Heap (fun t => due (A t)) l)) :
    Calls Try.prog 13 #[.pointer (some ⟨hb, 0, none⟩), .pointer (some ⟨R (A i), 0, none⟩)] w fun e w' => ∃ (A' : Nat → Nat), e = .returned (.tuple #[]) ∧ St w' hb ab l n R due A' ∧ Bij l A' ∧ A' n = A i ∧
      Heap (fun t => due (A' t)) n ∧ Rep w' (R (A i)) (due (A i)) (-1) ∧ Kept hb ab l R w w' := by
  subst hl
  exact remove_some G hn i hi S B H

/-- After the removal: all others still lie in the heap, each at its place. -/
structure Left (w : World) (hb ab ob n want : Nat) (R : Nat → Nat) (D : Nat → Int) (A : Nat → Nat) (k : Int) : Prop where
  st : St w hb ab n want R D A
  others : ∀ j, j < n → (j : Int) ≠ k → ∃ i, i < want ∧ A i = j
  stay : k < 0 → ∀ i, i < want → A i = i
  heap : Heap (fun t => D (A t)) want
  orig : ∀ j, j < n → w.cell? ⟨ob, j, none⟩ = some (.pointer (some ⟨R j, 0, none⟩))

theorem Left.below {w w' : World} {hb ab ob n want : Nat} {R : Nat → Nat} {D : Nat → Int} {A : Nat → Nat} {k : Int} (h : Left w hb ab ob n want R D A k) (hbl : Below w.heap.size w w') : Left w' hb ab ob n want R D A k :=
  ⟨h.st.below hbl, h.others, h.stay, h.heap, fun j hj => (hbl.cell (lt_of_cell (h.orig j hj))).trans (h.orig j hj)⟩

set_option maxHeartbeats 2000000 in
set_option maxRecDepth 100000 in
theorem law3 (a : Option Addr) (l c b o : Nat) (D : Nat → Int) (k : Int) (w : World) (A0 : Hid (ArgD w a l b o D)) :
    Calls Try.prog 3 #[.slice a l c, .int .i64 k] w fun e w' => e = .returned (.bool true) ∧ Below w.heap.size w w' := by
  go_enter Try.func3, Try.ntmps3
  go_wp2_with fail
  refine (bytes7 a l c k w A0.out.big).mono ?_
  rintro e w' ⟨rfl | rfl, rfl⟩
  rotate_left
  · go_wp2
    go_ret
    exact ⟨rfl, Below.refl _ _⟩
  by_cases e0 : (65536 : Int) < (l : Int)
  · go_wp2
    go_ret
    exact ⟨rfl, Below.refl _ _⟩
  have e0' : decide ((65536 : Int) < (l : Int)) = false := decide_eq_false e0
  by_cases q0 : k < -1
  · go_wp2
    go_ret
    exact ⟨rfl, Below.refl _ _⟩
  have q0' : decide (k < -1) = false := decide_eq_false q0
  by_cases q1 : (l : Int) ≤ k
  · go_wp2
    go_ret
    exact ⟨rfl, Below.refl _ _⟩
  have q1' : decide ((l : Int) ≤ k) = false := decide_eq_false q1
  go_wp2_with fail
  refine (ordered_any a b o l c D w (by omega) A0.out.at_ A0.out.cell).mono ?_
  rintro e w' ⟨⟨rfl, HH⟩ | rfl, m0, rfl⟩
  rotate_left
  · go_wp2
    go_ret
    exact ⟨rfl, (Below.refl _ _).drewN _⟩
  clear q0' q1' e0'
  go_wp2_with fail
  refine (build_any a b o l c D (w.drewN m0) (by omega) A0.out.at_ A0.out.cell A0.out.wf).mono ?_
  rintro e w1 ⟨rfl, hrow1, hrep1, hb1, hs1⟩
  have HRow1 : Hid (w1.rowIs w.heap.size 30 l (ptrV w.heap.size)) := hrow1
  have HRep1 : Hid (∀ j, j < l → Rep w1 (w.heap.size + 4 + 4 * j) (D j) j) := hrep1
  have HB1 : Hid (Below w.heap.size w w1) := ((Below.refl _ _).drewN _).trans hb1
  have HS1 : Hid (w1.heap.size = w.heap.size + 1 + 4 * l) := hs1
  clear hrow1 hrep1 hb1 hs1
  go_wp2_with fail
  refine (copy_any w.heap.size l l (fun j => w.heap.size + 4 + 4 * j) w1 (by omega) (fun i hi => by rw [Nat.zero_add]; exact HRow1.out.cell hi)).mono ?_
  rintro e w2 ⟨rfl, hrow2, hb2, hs2⟩
  have HRow2 : Hid (w2.rowIs w1.heap.size 30 l (fun j => .pointer (some ⟨w.heap.size + 4 + 4 * j, 0, none⟩))) := hrow2
  have HB2 : Hid (Below w1.heap.size w1 w2) := hb2
  have HS2 : Hid (w2.heap.size = w1.heap.size + 1) := hs2
  clear hrow2 hb2 hs2
  go_wp2_with fail
  refine (heapFrom_any w1.heap.size l l w2).mono ?_
  rintro e w3 ⟨rfl, hw3⟩
  have ehb : w2.heap.size = w.heap.size + 2 + 4 * l := by have := HS1.out; have := HS2.out; omega
  rw [ehb]
  have HSt : Hid (St w3 (w.heap.size + 2 + 4 * l) (w.heap.size + 1 + 4 * l) l l (fun j => w.heap.size + 4 + 4 * j) D id) := by rw [hw3]; exact st_start HS1.out HRep1.out HRow2.out HB2.out HS2.out
  have HB3 : Hid (Below w1.heap.size w1 w3) := by rw [hw3]; exact HB2.out.alloc (by have := HS2.out; omega) _
  have HS3 : Hid (w3.heap.size = w.heap.size + 3 + 4 * l) := by rw [hw3]; unfold Hid; simp; omega
  have HOr : Hid (∀ j, j < l → w3.cell? ⟨w.heap.size, j, none⟩ = some (.pointer (some ⟨w.heap.size + 4 + 4 * j, 0, none⟩))) := fun j hj => (HB3.out.cell (p := ⟨w.heap.size, j, none⟩) HRow1.out.lt).trans (HRow1.out.cell hj)
  have HBw3 : Hid (Below w.heap.size w w3) := HB1.out.trans (HB3.out.mono HB1.out.size)
  have G : Hid (Geo (w.heap.size + 2 + 4 * l) (w.heap.size + 1 + 4 * l) l (fun j => w.heap.size + 4 + 4 * j)) := geo_of _ _
  clear ehb hw3 HRow1 HRep1 HB1 HS1 HRow2 HB2 HS2 HB3
  go_wp2_with fail
  refine (newReply 0 (-1) w3 (by omega) (by omega)).mono ?_
  rintro e w4 ⟨rfl, hb4, hs4, hr4⟩
  have HSt4 : Hid (St w4 (w.heap.size + 2 + 4 * l) (w.heap.size + 1 + 4 * l) l l (fun j => w.heap.size + 4 + 4 * j) D id) := HSt.out.below hb4
  have HOr4 : Hid (∀ j, j < l → w4.cell? ⟨w.heap.size, j, none⟩ = some (.pointer (some ⟨w.heap.size + 4 + 4 * j, 0, none⟩))) := fun j hj => (hb4.cell (lt_of_cell (HOr.out j hj))).trans (HOr.out j hj)
  have HBw4 : Hid (Below w.heap.size w w4) := HBw3.out.trans (hb4.mono HBw3.out.size)
  have HR4 : Hid (Rep w4 (w3.heap.size + 3) 0 (-1)) := hr4
  clear hb4 hs4 hr4 HSt HOr HBw3
  by_cases hk : k = -1
  · subst hk
    go_wp2_with fail
    refine (remove_none (w.heap.size + 2 + 4 * l) (w3.heap.size + 3) w4 HR4.out.idx).mono ?_
    rintro e w5 ⟨rfl, rfl⟩
    have L : Hid (Left w4 (w.heap.size + 2 + 4 * l) (w.heap.size + 1 + 4 * l) w.heap.size l l (fun j => w.heap.size + 4 + 4 * j) D id (-1)) := ⟨HSt4.out, fun j hj _ => ⟨j, hj, rfl⟩, fun _ _ _ => rfl, HH.out, HOr4.out⟩
    have hix := HR4.out.idx
    have hk0 : ((-1 : Int) < 0) := by decide
    have HBz : Hid (Below w.heap.size w w4) := HBw4
    obtain ⟨A, HA⟩ : ∃ A : Nat → Nat, A = id := ⟨_, rfl⟩
    rw [← HA] at L
    clear HA HR4 HSt4 HOr4 HBw4
    go_wp2_with fail
    refine (heapLen_any _ _ _ _ w4 L.out.st.cell).mono ?_
    rintro e w6 ⟨rfl, rfl⟩
    go_wp2_with fail
    refine (index_any _ _ w4 hix).mono ?_
    rintro e w6 ⟨rfl, rfl⟩
    clear hix
    go_wp2_with fail
    go_loopw [10] (fun i wr => ∃ j m : Nat, j ≤ l ∧ i = .int .i64 j ∧ wr = w4.drewN m) (fun i _ => l - (intOf i).toNat)
    case atStart => exact ⟨0, 0, Nat.zero_le _, rfl, rfl⟩
    case round =>
      obtain ⟨j, m1, hj, rfl, rfl⟩ := hrel
      by_cases hlt : j < l
      · by_cases hjk : (j : Int) = -1
        · have hjk' : ((j : Int) == -1) = true := by rw [beq_iff_eq]; exact hjk
          clear hjk
          go_wp2_with fail
          go_roundw
          case rel => exact ⟨j + 1, m1, by omega, by go_num, rfl⟩
          case measure => simp [intOf]; omega
        · have hjk' : ((j : Int) == -1) = false := by rw [beq_eq_false_iff_ne]; exact hjk
          obtain ⟨i, hi, hAi⟩ := L.out.others j hlt hjk
          have HL : Hid (Left (w4.drewN m1) (w.heap.size + 2 + 4 * (l)) (w.heap.size + 1 + 4 * (l)) w.heap.size (l) (l) (fun j => w.heap.size + 4 + 4 * j) D A (-1)) := L.out.below ((Below.refl _ _).drewN _)
          have hoj := L.out.orig j hlt
          have hrep := HL.out.st.rep i hi
          rw [hAi] at hrep
          have harr := HL.out.st.arr i hi
          rw [hAi] at harr
          have Hrep := hide hrep
          have Harr := hide harr
          have hj' : (j : Int) < ((l : Nat) : Int) := by omega
          have hi0 : decide ((i : Int) < 0) = false := decide_eq_false (by omega)
          have hi1 : decide (((l : Nat) : Int) ≤ (i : Int)) = false := decide_eq_false (by omega)
          have hij : ((i : Int) != (j : Int)) = false := by have := L.out.stay (by decide) i hi; simp; omega
          have hneq := fun wq => neq_same ⟨w.heap.size + 4 + 4 * j, 0, none⟩ wq
          clear hrep harr hjk
          go_wp2_with fail
          refine (index_any _ _ _ (unhide Hrep).idx).mono ?_
          rintro e w7 ⟨rfl, rfl⟩
          have hcall : Hid (∀ q, Calls Try.prog 16 #[.pointer (some ⟨w.heap.size + 2 + 4 * l, 0, none⟩), .int .i64 i] (w4.drewN (m1 + q)) fun e w'' => e = .returned (.pointer (some ⟨w.heap.size + 4 + 4 * j, 0, none⟩)) ∧ ∃ r, w'' = w4.drewN (m1 + r)) := fun q => by
            refine (heapAt_any _ _ _ _ i _ _ (w4.drewN (m1 + q)) rfl hi L.out.st.cell (unhide Harr)).mono ?_
            rintro e w' ⟨rfl, rfl⟩
            exact ⟨rfl, q, rfl⟩
          go_wp2_with fail
          go_quiet ((go_at_call 16; exact hcall.out _))
          clear hcall
          go_wp2_with fail
          go_roundw
          case rel => exact ⟨j + 1, m1 + nq, by omega, by go_num, rfl⟩
          case measure => simp [intOf]; omega
      · go_wp2_with fail
        go_loopw [12] (fun i wr => ∃ t : Nat, 1 ≤ t ∧ (t ≤ l ∨ t = 1) ∧ i = .int .i64 t ∧ Hid (Below w4.heap.size w4 wr)) (fun i _ => l - (intOf i).toNat)
        case atStart => exact ⟨1, Nat.le_refl _, .inr rfl, rfl, (Below.refl _ _).drewN _⟩
        case round =>
          obtain ⟨t, ht1, ht2, rfl, HBt⟩ := hrel
          by_cases htw : t < l
          · have HLt : Hid (Left wr (w.heap.size + 2 + 4 * (l)) (w.heap.size + 1 + 4 * (l)) w.heap.size (l) (l) (fun j => w.heap.size + 4 + 4 * j) D A (-1)) := L.out.below HBt.out
            have Hle : Hid (decide (D (A t) < D (A ((t - 1) / 2))) = false) := decide_eq_false (Int.not_lt.2 (L.out.heap t (by omega) htw))
            go_wp2_with fail
            refine (heapAt_any _ _ _ _ t _ _ _ rfl htw HLt.out.st.cell (HLt.out.st.arr t htw)).mono ?_
            rintro e w7 ⟨rfl, rfl⟩
            go_wp2_with fail
            refine (heapAt_any _ _ _ _ ((t - 1) / 2) _ _ _ (by omega) (by omega) HLt.out.st.cell (HLt.out.st.arr ((t - 1) / 2) (by omega))).mono ?_
            rintro e w7 ⟨rfl, rfl⟩
            go_wp2_with fail
            refine (dueBefore_any _ _ _ _ _ _ _ (HLt.out.st.rep t htw) (HLt.out.st.rep ((t - 1) / 2) (by omega))).mono ?_
            rintro e w8 ⟨rfl, hb8⟩
            have HB8 : Hid (Below w4.heap.size w4 w8) := HBt.out.trans (hb8.mono HBt.out.size)
            clear hb8
            rw [Hle.out]
            go_wp2_with fail
            go_roundw
            case rel => exact ⟨t + 1, by omega, by omega, by go_num, HB8⟩
            case measure => simp [intOf]; omega
          · go_wp2_with fail
            go_ret
            exact ⟨rfl, HBz.out.trans (HBt.out.mono HBz.out.size)⟩

  · obtain ⟨kk, rfl⟩ := Int.eq_ofNat_of_zero_le (show 0 ≤ k by omega)
    obtain ⟨n, hn⟩ : ∃ n, l = n + 1 := ⟨l - 1, by omega⟩
    have HN : Hid (l = n + 1) := hn
    have hnI : (l : Int) - 1 = (n : Int) := by omega
    clear hn
    have hok := HOr4.out kk (by omega)
    have hki : (kk : Int) < (l : Int) := by omega
    go_wp2_with fail
    refine (remove_someL (R := fun j => w.heap.size + 4 + 4 * j) (A := id) HN.out G (by omega) kk (by omega) HSt4 (bij_id _) HH).mono ?_
    rintro e w5 ⟨A, rfl, S5, B5, hA5, H5, R5, K5⟩
    have L : Hid (Left w5 (w.heap.size + 2 + 4 * l) (w.heap.size + 1 + 4 * l) w.heap.size l n (fun j => w.heap.size + 4 + 4 * j) D A kk) := ⟨S5, fun j hj hjk => by
      obtain ⟨i, hi, e⟩ := B5.sur j hj
      refine ⟨i, ?_, e⟩
      by_cases hin : i = n
      · rw [hin, hA5] at e; exact absurd (by rw [← e]; rfl) hjk
      · omega, fun h => absurd h (by omega), H5, fun j hj => K5.cell (HOr4.out j hj) (by simp; omega) (by simp; omega) (fun t ht => by simp; omega)⟩
    have hix := R5.idx
    have HBz : Hid (Below w.heap.size w w5) := K5.below HBw4.out HBw4.out.size (by omega) (by omega) (fun t ht => by omega)
    clear S5 B5 hA5 H5 R5 K5 HR4 HSt4 HOr4 HBw4 hok
    go_wp2_with fail
    refine (heapLen_any _ _ _ _ w5 L.out.st.cell).mono ?_
    rintro e w6 ⟨rfl, rfl⟩
    go_wp2_with fail
    refine (index_any _ _ w5 hix).mono ?_
    rintro e w6 ⟨rfl, rfl⟩
    clear hix
    go_wp2_with fail
    go_loopw [10] (fun i wr => ∃ j m : Nat, j ≤ l ∧ i = .int .i64 j ∧ wr = w5.drewN m) (fun i _ => l - (intOf i).toNat)
    case atStart => exact ⟨0, 0, Nat.zero_le _, rfl, rfl⟩
    case round =>
      obtain ⟨j, m1, hj, rfl, rfl⟩ := hrel
      by_cases hlt : j < l
      · by_cases hjk : (j : Int) = (kk : Int)
        · have hjk' : ((j : Int) == (kk : Int)) = true := by rw [beq_iff_eq]; exact hjk
          clear hjk
          go_wp2_with fail
          go_roundw
          case rel => exact ⟨j + 1, m1, by omega, by go_num, rfl⟩
          case measure => simp [intOf]; omega
        · have hjk' : ((j : Int) == (kk : Int)) = false := by rw [beq_eq_false_iff_ne]; exact hjk
          obtain ⟨i, hi, hAi⟩ := L.out.others j hlt hjk
          have HL : Hid (Left (w5.drewN m1) (w.heap.size + 2 + 4 * (l)) (w.heap.size + 1 + 4 * (l)) w.heap.size (l) (n) (fun j => w.heap.size + 4 + 4 * j) D A ((kk : Int))) := L.out.below ((Below.refl _ _).drewN _)
          have hoj := L.out.orig j hlt
          have hrep := HL.out.st.rep i hi
          rw [hAi] at hrep
          have harr := HL.out.st.arr i hi
          rw [hAi] at harr
          have Hrep := hide hrep
          have Harr := hide harr
          have hj' : (j : Int) < ((l : Nat) : Int) := by omega
          have hi0 : decide ((i : Int) < 0) = false := decide_eq_false (by omega)
          have hi1 : decide (((n : Nat) : Int) ≤ (i : Int)) = false := decide_eq_false (by omega)
          have hkk : decide ((kk : Int) < 0) = false := decide_eq_false (by omega)
          have hneq := fun wq => neq_same ⟨w.heap.size + 4 + 4 * j, 0, none⟩ wq
          clear hrep harr hjk
          go_wp2_with fail
          refine (index_any _ _ _ (unhide Hrep).idx).mono ?_
          rintro e w7 ⟨rfl, rfl⟩
          have hcall : Hid (∀ q, Calls Try.prog 16 #[.pointer (some ⟨w.heap.size + 2 + 4 * l, 0, none⟩), .int .i64 i] (w5.drewN (m1 + q)) fun e w'' => e = .returned (.pointer (some ⟨w.heap.size + 4 + 4 * j, 0, none⟩)) ∧ ∃ r, w'' = w5.drewN (m1 + r)) := fun q => by
            refine (heapAt_any _ _ _ _ i _ _ (w5.drewN (m1 + q)) rfl hi L.out.st.cell (unhide Harr)).mono ?_
            rintro e w' ⟨rfl, rfl⟩
            exact ⟨rfl, q, rfl⟩
          go_wp2_with fail
          go_quiet ((go_at_call 16; exact hcall.out _))
          clear hcall
          go_wp2_with fail
          go_roundw
          case rel => exact ⟨j + 1, m1 + nq, by omega, by go_num, rfl⟩
          case measure => simp [intOf]; omega
      · go_wp2_with fail
        go_loopw [12] (fun i wr => ∃ t : Nat, 1 ≤ t ∧ (t ≤ n ∨ t = 1) ∧ i = .int .i64 t ∧ Hid (Below w5.heap.size w5 wr)) (fun i _ => n - (intOf i).toNat)
        case atStart => exact ⟨1, Nat.le_refl _, .inr rfl, rfl, (Below.refl _ _).drewN _⟩
        case round =>
          obtain ⟨t, ht1, ht2, rfl, HBt⟩ := hrel
          by_cases htw : t < n
          · have HLt : Hid (Left wr (w.heap.size + 2 + 4 * (l)) (w.heap.size + 1 + 4 * (l)) w.heap.size (l) (n) (fun j => w.heap.size + 4 + 4 * j) D A ((kk : Int))) := L.out.below HBt.out
            have Hle : Hid (decide (D (A t) < D (A ((t - 1) / 2))) = false) := decide_eq_false (Int.not_lt.2 (L.out.heap t (by omega) htw))
            go_wp2_with fail
            refine (heapAt_any _ _ _ _ t _ _ _ rfl htw HLt.out.st.cell (HLt.out.st.arr t htw)).mono ?_
            rintro e w7 ⟨rfl, rfl⟩
            go_wp2_with fail
            refine (heapAt_any _ _ _ _ ((t - 1) / 2) _ _ _ (by omega) (by omega) HLt.out.st.cell (HLt.out.st.arr ((t - 1) / 2) (by omega))).mono ?_
            rintro e w7 ⟨rfl, rfl⟩
            go_wp2_with fail
            refine (dueBefore_any _ _ _ _ _ _ _ (HLt.out.st.rep t htw) (HLt.out.st.rep ((t - 1) / 2) (by omega))).mono ?_
            rintro e w8 ⟨rfl, hb8⟩
            have HB8 : Hid (Below w5.heap.size w5 w8) := HBt.out.trans (hb8.mono HBt.out.size)
            clear hb8
            rw [Hle.out]
            go_wp2_with fail
            go_roundw
            case rel => exact ⟨t + 1, by omega, by omega, by go_num, HB8⟩
            case measure => simp [intOf]; omega
          · go_wp2_with fail
            go_ret
            exact ⟨rfl, HBz.out.trans (HBt.out.mono HBz.out.size)⟩

end Go.Proofs.Qxb6615564a
