import Derived.Test.Qxb6615564aPlain
namespace Go.Proofs.Qxb6615564a
open Go.RowKit

/-- What is known of a []byte that came in. -/
structure ArgB (w : World) (a : Option Addr) (l c b o : Nat) (D : Nat → Int) : Prop where
  nil_ : a = none → l = 0 ∧ c = 0
  le : l ≤ c
  big : c ≤ 9223372036854775807
  at_ : 0 < l → a = some ⟨b, o, none⟩
  cell : ∀ i, i < l → w.cell? ⟨b, o + i, none⟩ = some (.int .u8 (D i))
/-- .. of a []int. -/
structure ArgI (w : World) (a : Option Addr) (l b o : Nat) (S : Nat → Int) : Prop where
  big : l ≤ 9223372036854775807
  at_ : 0 < l → a = some ⟨b, o, none⟩
  cell : ∀ i, i < l → w.cell? ⟨b, o + i, none⟩ = some (.int .i64 (S i))
/-- .. of a []string. -/
structure ArgS (w : World) (a : Option Addr) (l b o : Nat) (N : Nat → ByteArray) : Prop where
  big : l ≤ 9223372036854775807
  at_ : 0 < l → a = some ⟨b, o, none⟩
  cell : ∀ i, i < l → w.cell? ⟨b, o + i, none⟩ = some (.string (N i))
  size : ∀ i, i < l → (N i).size ≤ 9223372036854775807

theorem clone_any (a : Option Addr) (l c b o : Nat) (D : Nat → Int) (w : World) (h : Hid (ArgB w a l c b o D)) (hl : l ≤ 1048576) :
    Calls Try.prog 22 #[.slice a l c] w fun e w' => ∃ (da : Option Addr) (db : Nat), e = .returned (.slice da l l) ∧ Hid (0 < l → da = some ⟨db, 0, none⟩) ∧ Hid (∀ i, i < l → w'.cell? ⟨db, 0 + i, none⟩ = some (.int .u8 (D i))) ∧ Below w.heap.size w w' := by
  cases a with
  | none =>
    obtain ⟨rfl, rfl⟩ := h.out.nil_ rfl
    refine (clone_nil w).mono ?_
    rintro e w' ⟨rfl, rfl⟩
    exact ⟨none, 0, rfl, fun h => absurd h (by omega), fun i hi => absurd hi (by omega), Below.refl _ _⟩
  | some a =>
    refine (clone_some a b o l c D w (fun hl => by simpa using h.out.at_ hl) hl h.out.cell).mono ?_
    rintro e w' ⟨rfl, hb, _, hr⟩
    exact ⟨_, w.heap.size, rfl, fun _ => rfl, fun i hi => by rw [Nat.zero_add]; exact hr.cell hi, hb⟩

theorem ArgB.below {w w' : World} {a : Option Addr} {l c b o : Nat} {D : Nat → Int} (h : ArgB w a l c b o D) (hb : Below w.heap.size w w') : ArgB w' a l c b o D :=
  ⟨h.nil_, h.le, h.big, h.at_, fun i hi => (hb.cell (lt_of_cell (h.cell i hi))).trans (h.cell i hi)⟩
theorem ArgI.below {w w' : World} {a : Option Addr} {l b o : Nat} {D : Nat → Int} (h : ArgI w a l b o D) (hb : Below w.heap.size w w') : ArgI w' a l b o D :=
  ⟨h.big, h.at_, fun i hi => (hb.cell (lt_of_cell (h.cell i hi))).trans (h.cell i hi)⟩
theorem ArgS.below {w w' : World} {a : Option Addr} {l b o : Nat} {D : Nat → ByteArray} (h : ArgS w a l b o D) (hb : Below w.heap.size w w') : ArgS w' a l b o D :=
  ⟨h.big, h.at_, fun i hi => (hb.cell (lt_of_cell (h.cell i hi))).trans (h.cell i hi), h.size⟩

theorem mem_fill' {wr : World} {B m : Nat} {Z : Nat → Value} (N : Nat → ByteArray) (S E : Nat → Int) (k : Nat) (x : ByteArray) (y z : Int) (hx : N k = x) (hy : S k = y) (hz : E k = z) (h : wr.rowIs B 47 m (fun j => if j < k * 3 then memV N S E j else Z j)) :
    ((((wr.setCell ⟨B, k * 3, none⟩ (.string x)).setCell ⟨B, k * 3 + 1, none⟩ (.int .i64 y)).setCell ⟨B, k * 3 + 2, none⟩ (.int .i64 z))).rowIs B 47 m (fun j => if j < (k + 1) * 3 then memV N S E j else Z j) := by
  subst hx hy hz
  exact mem_fill N S E k h

/-- The three cells of one element of a row of members. -/
theorem mem_cells {w : World} {B m : Nat} {V : Nat → Value} (h : w.rowIs B 47 m V) (k : Nat) (hk : k * 3 + 2 < m) :
    w.cell? ⟨B, k * 3, none⟩ = some (V (k * 3)) ∧ w.cell? ⟨B, k * 3 + 1, none⟩ = some (V (k * 3 + 1)) ∧ w.cell? ⟨B, k * 3 + 2, none⟩ = some (V (k * 3 + 2)) ∧
    w.frozen? ⟨B, k * 3, none⟩ = false ∧ w.frozen? ⟨B, k * 3 + 1, none⟩ = false ∧ w.frozen? ⟨B, k * 3 + 2, none⟩ = false :=
  ⟨h.cell (by omega), h.cell (by omega), h.cell (by omega), h.frozen _, h.frozen _, h.frozen _⟩

theorem mem_start (w : World) (B n : Nat) (hB : w.heap.size = B) (V : Nat → Value) : (w.alloc (.cells (madeCells (Value.agg #[Value.string ByteArray.empty, .int .i64 0, .int .i64 0]).cells (n * 3)) 47)).rowIs B 47 (n * 3) (fun j => if j < 0 * 3 then V j else mem0 j) := by
  subst hB
  exact (rowIs_madeS w #[Value.string ByteArray.empty, .int .i64 0, .int .i64 0] _ _).congr (by intro i hi; simp [mem0])

theorem mems_of_row {w : World} {B n : Nat} {N : Nat → ByteArray} {S E : Nat → Int} (h : w.rowIs B 47 (n * 3) (memV N S E)) : Mems w (some ⟨B, 0, none⟩) B 0 n N S E where
  at_ _ := rfl
  nm i hi := by rw [Nat.zero_add, h.cell (by omega), memV_0]
  st i hi := by rw [Nat.zero_add, h.cell (by omega), memV_1]
  en i hi := by rw [Nat.zero_add, h.cell (by omega), memV_2]

theorem ok_ins {S E : Nat → Int} {n p : Nat} {st en size : Int} (ok : ∀ i, i < n → OffOk S E size i) (hp : p ≤ n) (h1 : 0 ≤ st) (h2 : st ≤ en) (h3 : en ≤ size) : ∀ i, i < n + 1 → OffOk (insAt S p st) (insAt E p en) size i := by
  intro i hi
  unfold OffOk
  by_cases h : i < p
  · rw [insAt_lt h, insAt_lt h]; exact ok i (by omega)
  by_cases h' : i = p
  · subst h'; rw [insAt_at, insAt_at]; exact ⟨h1, h2, h3⟩
  · obtain ⟨j, rfl⟩ : ∃ j, i = j + 1 := ⟨i - 1, by omega⟩
    rw [insAt_gt (by omega), insAt_gt (by omega)]; exact ok j (by omega)

theorem idL : (ByteArray.toList ⟨#[105, 100]⟩) = [105, 100] := by simp [go_sem]

set_option maxHeartbeats 1000000 in
set_option maxRecDepth 100000 in
theorem law5 (a0 a1 a2 a3 : Option Addr) (l0 c0 l1 c1 l2 c2 l3 c3 b0 o0 b1 o1 b2 o2 b3 o3 : Nat) (D : Nat → Int) (N : Nat → ByteArray) (S E : Nat → Int) (nm : ByteArray) (st en p : Int) (w : World)
    (A0 : Hid (ArgB w a0 l0 c0 b0 o0 D)) (A1 : Hid (ArgS w a1 l1 b1 o1 N)) (A2 : Hid (ArgI w a2 l2 b2 o2 S)) (A3 : Hid (ArgI w a3 l3 b3 o3 E)) (hnm : nm.size ≤ 9223372036854775807) :
    Calls Try.prog 5 #[.slice a0 l0 c0, .slice a1 l1 c1, .slice a2 l2 c2, .slice a3 l3 c3, .string nm, .int .i64 st, .int .i64 en, .int .i64 p] w fun e w' => e = .returned (.bool true) ∧ Below w.heap.size w w' := by
  go_enter Try.func5, Try.ntmps5
  go_wp2_with fail
  refine (bytes19 a0 a1 a2 a3 l0 c0 l1 c1 l2 c2 l3 c3 b1 o1 nm st en p N w A1.out.at_ A1.out.cell A1.out.size (by have := A0.out.le; have := A0.out.big; omega) A1.out.big A2.out.big A3.out.big hnm).mono ?_
  rintro e w' ⟨⟨rfl, hN⟩ | rfl, rfl⟩
  rotate_left
  · go_wp2
    go_ret
    exact ⟨rfl, Below.refl _ _⟩
  by_cases e0 : (1048576 : Int) < (l0 : Int)
  · go_wp2
    go_ret
    exact ⟨rfl, Below.refl _ _⟩
  have e0' : decide ((1048576 : Int) < (l0 : Int)) = false := decide_eq_false e0
  by_cases e1 : (1048576 : Int) < (nm.size : Int)
  · go_wp2
    go_ret
    exact ⟨rfl, Below.refl _ _⟩
  have e1' : decide ((1048576 : Int) < (nm.size : Int)) = false := decide_eq_false e1
  by_cases e2 : (65536 : Int) < (l1 : Int)
  · go_wp2
    go_ret
    exact ⟨rfl, Below.refl _ _⟩
  have e2' : decide ((65536 : Int) < (l1 : Int)) = false := decide_eq_false e2
  by_cases e3 : (65536 : Int) < (l2 : Int)
  · go_wp2
    go_ret
    exact ⟨rfl, Below.refl _ _⟩
  have e3' : decide ((65536 : Int) < (l2 : Int)) = false := decide_eq_false e3
  by_cases e4 : (65536 : Int) < (l3 : Int)
  · go_wp2
    go_ret
    exact ⟨rfl, Below.refl _ _⟩
  have e4' : decide ((65536 : Int) < (l3 : Int)) = false := decide_eq_false e4
  by_cases e5 : (1048576 : Int) < (l0 : Int) + (nm.size : Int) + 8 * (l1 : Int) + 8 * (l2 : Int) + 8 * (l3 : Int)
  · go_wp2
    go_ret
    exact ⟨rfl, Below.refl _ _⟩
  have e5' : decide ((1048576 : Int) < (l0 : Int) + (nm.size : Int) + 8 * (l1 : Int) + 8 * (l2 : Int) + 8 * (l3 : Int)) = false := decide_eq_false e5
  go_wp2_with fail
  go_loop [17, 18] (fun z i => ∃ (k : Nat) (t : Int), k ≤ l1 ∧ i = .int .i64 k ∧ z = .int .i64 t ∧ 0 ≤ t ∧ t ≤ 1048576) (fun _ i => l1 - (intOf i).toNat)
  case atStart => exact ⟨0, _, Nat.zero_le _, rfl, rfl, by omega, by omega⟩
  case round =>
    obtain ⟨k, t, hk, rfl, rfl, t0, t1⟩ := hrel
    by_cases hlt : k < l1
    · have ha := A1.out.at_ (by omega)
      subst ha
      have hx := A1.out.cell k hlt
      have hz := hN.out k hlt
      by_cases s1 : (1048576 : Int) < t + ((N k).size : Int)
      · go_wp2
        go_ret
        exact ⟨rfl, Below.refl _ _⟩
      go_wp2
      go_round
      case rel => exact ⟨k + 1, t + ((N k).size : Int), by omega, by go_num, rfl, by omega, by omega⟩
      case measure => simp [intOf]; omega
    · go_wp2_with fail
      refine (min3_any _ _ _ _).mono ?_
      rintro e w' ⟨rfl, hw⟩
      have hw' := hw.symm
      subst hw'
      clear hw e0' e1' e2' e3' e4' e5'
      obtain ⟨n, hn, hn1, hn2, hn3⟩ : ∃ n : Nat, min (min (l1 : Int) (l2 : Int)) (l3 : Int) = (n : Int) ∧ n ≤ l1 ∧ n ≤ l2 ∧ n ≤ l3 := ⟨min (min l1 l2) l3, by omega, by omega, by omega, by omega⟩
      rw [hn]
      clear hn
      by_cases q0 : p < 0
      · go_wp2
        go_ret
        exact ⟨rfl, Below.refl _ _⟩
      have q0' : decide (p < 0) = false := decide_eq_false q0
      by_cases q1 : (n : Int) < p
      · go_wp2
        go_ret
        exact ⟨rfl, Below.refl _ _⟩
      clear q0'
      obtain ⟨p, rfl⟩ := Int.eq_ofNat_of_zero_le (show 0 ≤ p by omega)
      have q1' : decide ((n : Int) < (p : Int)) = false := decide_eq_false q1
      have q0'' : decide ((p : Int) < 0) = false := decide_eq_false q0
      by_cases q2 : st < 0
      · go_wp2
        go_ret
        exact ⟨rfl, Below.refl _ _⟩
      have q2' : decide (st < 0) = false := decide_eq_false q2
      by_cases q3 : en < st
      · go_wp2
        go_ret
        exact ⟨rfl, Below.refl _ _⟩
      have q3' : decide (en < st) = false := decide_eq_false q3
      by_cases q4 : (l0 : Int) < en
      · go_wp2
        go_ret
        exact ⟨rfl, Below.refl _ _⟩
      have q4' : decide ((l0 : Int) < en) = false := decide_eq_false q4
      go_wp2_with fail
      refine (offsets_any a2 a3 b2 o2 b3 o3 l2 c2 l3 c3 S E n l0 w hn2 hn3 (by omega) A2.out.at_ A3.out.at_ A2.out.cell A3.out.cell).mono ?_
      rintro e w' ⟨r, rfl, hok, m, rfl⟩
      cases r
      · go_wp2
        go_ret
        exact ⟨rfl, (Below.refl _ _).drewN _⟩
      have Hok : Hid (∀ i, i < n → OffOk S E l0 i) := hok rfl
      clear hok q0'' q1' q2' q3' q4'
      go_wp2_with fail
      refine (clone_any a0 l0 c0 b0 o0 D _ (A0.out.below ((Below.refl _ _).drewN _)) (by omega)).mono ?_
      rintro e w1 ⟨da, db, rfl, Hda, Hdc, hb1⟩
      have HB1 : Below w.heap.size w w1 := ((Below.refl _ _).drewN _).trans hb1
      have A1' := A1.out.below HB1
      have A2' := A2.out.below HB1
      have A3' := A3.out.below HB1
      go_wp2_with fail
      refine (members_any a1 a2 a3 b1 o1 b2 o2 b3 o3 l1 c1 l2 c2 l3 c3 N S E n w1 hn1 hn2 hn3 (by omega) A1'.at_ A2'.at_ A3'.at_ A1'.cell A2'.cell A3'.cell).mono ?_
      clear A1' A2' A3'
      rintro e w2 ⟨rfl, hb2, hs2, hr2⟩
      have hmk := run_make_rowS (P := Try.prog) 44 47 _ 3 32 Try.underlying44 Try.info47 .i64 .i64 (n + 1) (by omega) (by omega)
      rw [show ((n + 1 : Nat) : Int) = (n : Int) + 1 by omega] at hmk
      have Hr2 : Hid (w2.rowIs w1.heap.size 47 (n * 3) (memV N S E)) := hr2
      have HB2 : Hid (Below w1.heap.size w1 w2) := hb2
      clear hr2 hb2
      have hpn : p ≤ n := by omega
      go_wp2_with fail
      go_loopw [22] (fun i wr => ∃ k : Nat, k ≤ p ∧ i = .int .i64 k ∧ Hid (wr.rowIs (w1.heap.size + 1) 47 ((n + 1) * 3) (fun j => if j < k * 3 then memV (insAt N p nm) (insAt S p st) (insAt E p en) j else mem0 j)) ∧ Hid (Below (w1.heap.size + 1) w2 wr) ∧ wr.heap.size = w1.heap.size + 2)
        (fun i _ => p - (intOf i).toNat)
      case atStart => exact ⟨0, Nat.zero_le _, rfl, mem_start w2 _ _ hs2 _, (Below.refl _ _).alloc (by omega) _, by simp; omega⟩
      case round =>
        obtain ⟨k, hkp, rfl, Hrow, Hbel, hsz⟩ := hrel
        by_cases hlt2 : k < p
        · obtain ⟨x0, x1, x2, _, _, _⟩ := mem_cells Hr2.out k (by omega)
          rw [memV_0] at x0
          rw [memV_1] at x1
          rw [memV_2] at x2
          have y0 := (Hbel.out.cell (p := ⟨w1.heap.size, k * 3, none⟩) (Nat.lt_succ_self _)).trans x0
          have y1 := (Hbel.out.cell (p := ⟨w1.heap.size, k * 3 + 1, none⟩) (Nat.lt_succ_self _)).trans x1
          have y2 := (Hbel.out.cell (p := ⟨w1.heap.size, k * 3 + 2, none⟩) (Nat.lt_succ_self _)).trans x2
          obtain ⟨z0, z1, z2, f0, f1, f2⟩ := mem_cells Hrow.out k (by omega)
          rw [if_neg (by omega)] at z0 z1 z2
          clear x0 x1 x2
          go_wp2
          go_roundw
          case rel => exact ⟨k + 1, by omega, by go_num, mem_fill' _ _ _ k _ _ _ (insAt_lt hlt2) (insAt_lt hlt2) (insAt_lt hlt2) Hrow.out, ((Hbel.out.setCell (p := ⟨w1.heap.size + 1, _, none⟩) (Nat.le_refl _) _).setCell (p := ⟨w1.heap.size + 1, _, none⟩) (Nat.le_refl _) _).setCell (p := ⟨w1.heap.size + 1, _, none⟩) (Nat.le_refl _) _, by simp [World.setCell]; omega⟩
          case measure => simp [intOf]; omega
        · obtain rfl : p = k := by omega
          obtain ⟨z0, z1, z2, f0, f1, f2⟩ := mem_cells Hrow.out p (by omega)
          rw [if_neg (by omega)] at z0 z1 z2
          go_wp2_with fail
          clear z0 z1 z2 f0 f1 f2
          go_loopw [23] (fun i wr => ∃ k : Nat, p ≤ k ∧ k ≤ n ∧ i = .int .i64 k ∧ Hid (wr.rowIs (w1.heap.size + 1) 47 ((n + 1) * 3) (fun j => if j < (k + 1) * 3 then memV (insAt N p nm) (insAt S p st) (insAt E p en) j else mem0 j)) ∧ Hid (Below (w1.heap.size + 1) w2 wr) ∧ wr.heap.size = w1.heap.size + 2)
            (fun i _ => n - (intOf i).toNat)
          case atStart => exact ⟨p, Nat.le_refl _, hpn, rfl, mem_fill' _ _ _ p _ _ _ insAt_at insAt_at insAt_at Hrow.out, ((Hbel.out.setCell (p := ⟨w1.heap.size + 1, _, none⟩) (Nat.le_refl _) _).setCell (p := ⟨w1.heap.size + 1, _, none⟩) (Nat.le_refl _) _).setCell (p := ⟨w1.heap.size + 1, _, none⟩) (Nat.le_refl _) _, by simp [World.setCell]; omega⟩
          clear Hrow Hbel hsz
          case round =>
            obtain ⟨k, hpk, hkn, rfl, Hrow, Hbel, hsz⟩ := hrel
            by_cases hlt3 : k < n
            · obtain ⟨x0, x1, x2, _, _, _⟩ := mem_cells Hr2.out k (by omega)
              rw [memV_0] at x0
              rw [memV_1] at x1
              rw [memV_2] at x2
              have y0 := (Hbel.out.cell (p := ⟨w1.heap.size, k * 3, none⟩) (Nat.lt_succ_self _)).trans x0
              have y1 := (Hbel.out.cell (p := ⟨w1.heap.size, k * 3 + 1, none⟩) (Nat.lt_succ_self _)).trans x1
              have y2 := (Hbel.out.cell (p := ⟨w1.heap.size, k * 3 + 2, none⟩) (Nat.lt_succ_self _)).trans x2
              obtain ⟨z0, z1, z2, f0, f1, f2⟩ := mem_cells Hrow.out (k + 1) (by omega)
              rw [if_neg (by omega)] at z0 z1 z2
              clear x0 x1 x2
              go_wp2
              go_roundw
              case rel => exact ⟨k + 1, by omega, by omega, by go_num, mem_fill' _ _ _ (k + 1) _ _ _ (insAt_gt hpk) (insAt_gt hpk) (insAt_gt hpk) Hrow.out, ((Hbel.out.setCell (p := ⟨w1.heap.size + 1, _, none⟩) (Nat.le_refl _) _).setCell (p := ⟨w1.heap.size + 1, _, none⟩) (Nat.le_refl _) _).setCell (p := ⟨w1.heap.size + 1, _, none⟩) (Nat.le_refl _) _, by simp [World.setCell]; omega⟩
              case measure => simp [intOf]; omega
            · obtain rfl : n = k := by omega
              have HW : Below w1.heap.size w1 wr := HB2.out.trans (Hbel.out.mono (Nat.le_succ _))
              have HWw : Below w.heap.size w wr := HB1.trans (HW.mono HB1.size)
              have M1 : Mems wr (some ⟨w1.heap.size, 0, none⟩) w1.heap.size 0 n N S E := mems_of_row (Hr2.out.of_block (Hbel.out.block _ (Nat.lt_succ_self _)))
              have M2 : Mems wr (some ⟨w1.heap.size + 1, 0, none⟩) (w1.heap.size + 1) 0 (n + 1) (insAt N p nm) (insAt S p st) (insAt E p en) := mems_of_row (Hrow.out.congr fun j hj => if_pos hj)
              have Hdc' : Hid (∀ i, i < l0 → wr.cell? ⟨db, 0 + i, none⟩ = some (.int .u8 (D i))) := fun i hi => (HW.cell (lt_of_cell (Hdc.out i hi))).trans (Hdc.out i hi)
              have A1' : Hid (ArgS wr a1 l1 b1 o1 N) := A1.out.below HWw
              have Hok' : Hid (∀ i, i < n + 1 → OffOk (insAt S p st) (insAt E p en) l0 i) := ok_ins Hok.out hpn (by omega) (by omega) (by omega)
              have HM1 : Hid (Mems wr (some ⟨w1.heap.size, 0, none⟩) w1.heap.size 0 n N S E) := M1
              have HM2 : Hid (Mems wr (some ⟨w1.heap.size + 1, 0, none⟩) (w1.heap.size + 1) 0 (n + 1) (insAt N p nm) (insAt S p st) (insAt E p en)) := M2
              have HBw : Hid (Below w.heap.size w wr) := HWw
              clear M1 M2 Hrow Hbel HB2 Hr2 HB1 HW HWw Hdc hb1 hmk
              go_wp2_with fail
              refine (newMsg _ _ _ _ _ _ _).mono ?_
              rintro e w3 ⟨rfl, hb3⟩
              have HB3 : Hid (Below wr.heap.size wr w3) := hb3
              clear hb3
              go_wp2_with fail
              refine (mid_any da (some ⟨w1.heap.size, 0, none⟩) l0 l0 w1.heap.size 0 n n N S E w3 (by omega) (Nat.le_refl _) _ _ _ _ _ _ (HM1.out.below HB3.out) Hok).mono ?_
              rintro e w4 ⟨rfl, hb4⟩
              have HB4 : Hid (Below wr.heap.size wr w4) := HB3.out.trans (hb4.mono HB3.out.size)
              clear hb4
              obtain ⟨x, L, vo, D', hV, hL, Hx, Hxc⟩ := idV_shape da db 0 l0 D wr S E n (lastId N ⟨#[105, 100]⟩ n) (fun i hi => lastId_lt hi) Hok.out Hda.out Hdc'.out
              have HV : Hid (idV da S E (lastId N ⟨#[105, 100]⟩ n) = .slice x L L) := hV
              rw [hV]
              clear hV
              have HHx : Hid (0 < L → x = some ⟨db, vo, none⟩) := Hx
              have HHxc : Hid (∀ i, i < L → wr.cell? ⟨db, vo + i, none⟩ = some (.int .u8 (D' i))) := Hxc
              clear Hx Hxc
              go_wp2_with fail
              refine (newMsg _ _ _ _ _ _ _).mono ?_
              rintro e w5 ⟨rfl, hb5⟩
              have HB5 : Hid (Below wr.heap.size wr w5) := HB4.out.trans (hb5.mono HB4.out.size)
              clear hb5
              go_wp2_with fail
              refine (mid_any da (some ⟨w1.heap.size + 1, 0, none⟩) l0 l0 (w1.heap.size + 1) 0 (n + 1) (n + 1) (insAt N p nm) (insAt S p st) (insAt E p en) w5 (by omega) (Nat.le_refl _) _ _ _ _ _ _ (HM2.out.below HB5.out) Hok').mono ?_
              rintro e w6 ⟨rfl, hb6⟩
              have HB6 : Hid (Below wr.heap.size wr w6) := HB5.out.trans (hb6.mono HB5.out.size)
              have A1'' : Hid (ArgS w6 a1 l1 b1 o1 N) := A1'.out.below HB6.out
              have Hdc6 : Hid (∀ i, i < l0 → w6.cell? ⟨db, 0 + i, none⟩ = some (.int .u8 (D i))) := fun i hi => (HB6.out.cell (lt_of_cell (Hdc'.out i hi))).trans (Hdc'.out i hi)
              have Hxc6 : Hid (∀ i, i < L → w6.cell? ⟨db, vo + i, none⟩ = some (.int .u8 (D' i))) := fun i hi => (HB6.out.cell (lt_of_cell (HHxc.out i hi))).trans (HHxc.out i hi)
              have HBf : Hid (Below w.heap.size w w6) := HBw.out.trans (HB6.out.mono HBw.out.size)
              clear hb6 HB3 HB4 HB5 HM1 HM2 Hdc' HHxc A1' HB6 HBw
              go_wp2_with fail
              have HN : Hid (p ≤ n) := hpn
              by_cases hhit : (nm.toList == [105, 100]) = true ∧ laterB N ⟨#[105, 100]⟩ p n = false
              · obtain ⟨h1, h2⟩ := hhit
                have H2 : Hid (laterB N ⟨#[105, 100]⟩ p n = false) := h2
                clear h2
                rw [ins_hit da N S E ⟨#[105, 100]⟩ nm st en p n hpn (by rw [idL]; exact h1) H2.out]
                obtain ⟨y, Ly, hcv, hLy, hLy', hy, hyc, _⟩ := cutV_shape da db 0 l0 D w6 st en (by omega) (by omega) (by omega) Hda.out Hdc6.out
                rw [hcv]
                have HLy : Hid (Ly = en.toNat - st.toNat) := hLy
                have Hy : Hid (0 < Ly → y = some ⟨db, 0 + st.toNat, none⟩) := hy
                have Hyc : Hid (∀ i, i < Ly → w6.cell? ⟨db, 0 + st.toNat + i, none⟩ = some (.int .u8 (D (st.toNat + i)))) := hyc
                clear hcv hLy hy hyc
                go_loop [26, 27] (fun z i => ∃ k : Nat, p ≤ k ∧ k ≤ n ∧ i = .int .i64 k ∧ z = .bool (laterB N ⟨#[105, 100]⟩ p k)) (fun _ i => n - (intOf i).toNat)
                case atStart => exact ⟨p, Nat.le_refl _, hpn, rfl, by rw [laterB_low (Nat.le_refl _)]⟩
                case round =>
                  obtain ⟨k4, hk4, hk4', rfl, rfl⟩ := hrel
                  by_cases hlt4 : k4 < n
                  · have ha := A1''.out.at_ (by omega)
                    subst ha
                    have hx4 := A1''.out.cell k4 (by omega)
                    cases hq4 : ((N k4).toList == [105, 100])
                    · have HS : Hid (laterB N ⟨#[105, 100]⟩ p (k4 + 1) = laterB N ⟨#[105, 100]⟩ p k4) := laterB_miss (by rw [idL]; exact hq4)
                      go_wp2
                      go_round
                      case rel => exact ⟨k4 + 1, by omega, by omega, by go_num, by rw [HS.out]⟩
                      case measure => simp [intOf]; omega
                    · have HS : Hid (laterB N ⟨#[105, 100]⟩ p (k4 + 1) = true) := laterB_hit hk4 (by rw [idL]; exact hq4)
                      go_wp2
                      go_round
                      case rel => exact ⟨k4 + 1, by omega, by omega, by go_num, by rw [HS.out]⟩
                      case measure => simp [intOf]; omega
                  · obtain rfl : n = k4 := by omega
                    rw [H2.out]
                    by_cases hz : l0 = st.toNat
                    · go_wp2_with fail
                      rw [← HLy.out]
                      refine (same_true y da db (0 + st.toNat) db (0 + st.toNat) Ly Ly 0 (fun i => D (st.toNat + i)) w6 Hy.out (fun h => absurd h (by have := HLy.out; omega)) (by omega) Hyc.out Hyc.out).mono ?_
                      rintro e w7 ⟨rfl, m7, rfl⟩
                      go_wp2
                      go_ret
                      exact ⟨rfl, HBf.out.drewN _⟩
                    · go_wp2_with fail
                      rw [← HLy.out]
                      refine (same_true y _ db (0 + st.toNat) db (0 + st.toNat) Ly Ly _ (fun i => D (st.toNat + i)) w6 Hy.out (fun h => by rw [Hda.out (by omega)]; simp [Addr.add]; omega) (by omega) Hyc.out Hyc.out).mono ?_
                      rintro e w7 ⟨rfl, m7, rfl⟩
                      go_wp2
                      go_ret
                      exact ⟨rfl, HBf.out.drewN _⟩
              · have hn48 := fun w => Lib.run_eql_slice_nil (P := Try.prog) w 48 5 x L L 0 0 Try.underlying48
                have Hm : Hid ((nm.toList == [105, 100]) = false ∨ laterB N ⟨#[105, 100]⟩ p n = true) := by
                  cases h : (nm.toList == [105, 100])
                  · exact .inl rfl
                  · cases h' : laterB N ⟨#[105, 100]⟩ p n
                    · exact absurd ⟨h, h'⟩ hhit
                    · exact .inr rfl
                clear hhit
                rw [ins_miss da N S E ⟨#[105, 100]⟩ nm st en p n hpn (by rw [idL]; exact Hm.out), HV.out]
                go_loop [26, 27] (fun z i => ∃ k : Nat, p ≤ k ∧ k ≤ n ∧ i = .int .i64 k ∧ z = .bool (laterB N ⟨#[105, 100]⟩ p k)) (fun _ i => n - (intOf i).toNat)
                case atStart => exact ⟨p, Nat.le_refl _, hpn, rfl, by rw [laterB_low (Nat.le_refl _)]⟩
                case round =>
                  obtain ⟨k4, hk4, hk4', rfl, rfl⟩ := hrel
                  by_cases hlt4 : k4 < n
                  · have ha := A1''.out.at_ (by omega)
                    subst ha
                    have hx4 := A1''.out.cell k4 (by omega)
                    cases hq4 : ((N k4).toList == [105, 100])
                    · have HS : Hid (laterB N ⟨#[105, 100]⟩ p (k4 + 1) = laterB N ⟨#[105, 100]⟩ p k4) := laterB_miss (by rw [idL]; exact hq4)
                      go_wp2
                      go_round
                      case rel => exact ⟨k4 + 1, by omega, by omega, by go_num, by rw [HS.out]⟩
                      case measure => simp [intOf]; omega
                    · have HS : Hid (laterB N ⟨#[105, 100]⟩ p (k4 + 1) = true) := laterB_hit hk4 (by rw [idL]; exact hq4)
                      go_wp2
                      go_round
                      case rel => exact ⟨k4 + 1, by omega, by omega, by go_num, by rw [HS.out]⟩
                      case measure => simp [intOf]; omega
                  · obtain rfl : n = k4 := by omega
                    cases hm : (nm.toList == [105, 100])
                    · go_wp2_with fail
                      refine (same_true x x db vo db vo L L L D' w6 HHx.out HHx.out (by omega) Hxc6.out Hxc6.out).mono ?_
                      rintro e w7 ⟨rfl, m7, rfl⟩
                      go_wp2
                      go_ret
                      exact ⟨by simp, HBf.out.drewN _⟩
                    · have hm2 : laterB N ⟨#[105, 100]⟩ p n = true := by
                        rcases Hm.out with h | h
                        · rw [hm] at h; cases h
                        · exact h
                      rw [hm2]
                      clear hm2
                      go_wp2_with fail
                      refine (same_true x x db vo db vo L L L D' w6 HHx.out HHx.out (by omega) Hxc6.out Hxc6.out).mono ?_
                      rintro e w7 ⟨rfl, m7, rfl⟩
                      go_wp2
                      go_ret
                      exact ⟨by simp, HBf.out.drewN _⟩
end Go.Proofs.Qxb6615564a
