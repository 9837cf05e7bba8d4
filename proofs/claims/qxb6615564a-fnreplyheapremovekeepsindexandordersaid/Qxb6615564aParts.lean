import Derived.Test.Qxb6615564aBase
namespace Go.Proofs.Qxb6615564a
open Go.RowKit

theorem run_make_rowS {P : Program} (t e : TypeId) (z : Value) (s bytes : Nat) (ht : P.underlying t = some (.slice e)) (hinfo : (P.info? e).map (fun i => (i.zero, i.size, i.bytes)) = some (some z, s, bytes))
    (kl kc : IntKind) (n : Nat) (hbytes : bytes * n ≤ 281474976710656) (h63 : n ≤ 9223372036854775807) (w : World) :
    (Instr.makeSlice t (.int kl (n : Int)) (.int kc (n : Int))).run P w = .ok (.slice (some ⟨w.heap.size, 0, none⟩) n n) (w.alloc (.cells (madeCells z.cells (n * s)) e)) := by
  obtain ⟨i, hi, hzz⟩ := Option.map_eq_some_iff.1 hinfo
  simp only [Prod.mk.injEq] at hzz
  obtain ⟨hz, hs, hb⟩ := hzz
  subst hs hb
  have hb' : (i.bytes : Int) * (n : Int) ≤ 281474976710656 := by
    have h : ((i.bytes * n : Nat) : Int) ≤ 281474976710656 := by omega
    rwa [Int.natCast_mul] at h
  have hr := run_make (P := P) w t e i z ht hi hz kl kc n n (by omega) (Int.le_refl _) hb' (by omega)
  simpa only [Int.toNat_natCast] using hr

theorem rowIs_madeS (w : World) (z : Array Value) (n : Nat) (t : TypeId) : (w.alloc (.cells (madeCells z n) t)).rowIs w.heap.size t n (fun j => z[j % z.size]!) :=
  ⟨_, Go.Deep.blk_alloc_new _ _, size_madeCells _ _, fun i hi => by simp [madeCells, hi]⟩

theorem Try.info47 : (Try.prog.info? 47).map (fun i => (i.zero, i.size, i.bytes)) = some (some (.agg #[.string ByteArray.empty, .int .i64 0, .int .i64 0]), 3, 32) := by kernel_rfl

theorem drewN_two (w : World) (m n : Nat) : (w.drewN m).drewN n = w.drewN (m + n) := by
  simp [World.drewN, Nat.add_assoc]

theorem same_true (a a' : Option Addr) (b off b' off' len cap cap' : Nat) (D : Nat → Int) (w : World) (hA : 0 < len → a = some ⟨b, off, none⟩) (hA' : 0 < len → a' = some ⟨b', off', none⟩) (hlen : len ≤ 1048576)
    (hc : ∀ i, i < len → w.cell? ⟨b, off + i, none⟩ = some (.int .u8 (D i)))
    (hc' : ∀ i, i < len → w.cell? ⟨b', off' + i, none⟩ = some (.int .u8 (D i))) :
    Calls Try.prog 26 #[.slice a len cap, .slice a' len cap'] w fun e w' => e = .returned (.bool true) ∧ ∃ m, w' = w.drewN m := by
  have HA : Hid (0 < len → a = some ⟨b, off, none⟩) := hA
  have HA' : Hid (0 < len → a' = some ⟨b', off', none⟩) := hA'
  have HC : Hid (∀ i, i < len → w.cell? ⟨b, off + i, none⟩ = some (.int .u8 (D i))) := hc
  have HC' : Hid (∀ i, i < len → w.cell? ⟨b', off' + i, none⟩ = some (.int .u8 (D i))) := hc'
  clear hA hA' hc hc'
  go_enter Try.func26, Try.ntmps26
  go_wp2
  go_loopw [5] (fun i wr => ∃ k m : Nat, k ≤ len ∧ i = .int .i64 k ∧ wr = w.drewN m)
    (fun i _ => len - (intOf i).toNat)
  case atStart => exact ⟨0, 0, Nat.zero_le _, rfl, rfl⟩
  case round =>
    obtain ⟨k, m, hk, rfl, rfl⟩ := hrel
    by_cases hlt : k < len
    · have ha := HA.out (by omega)
      have ha' := HA'.out (by omega)
      subst ha ha'
      have hx := HC.out k hlt
      have hy := HC'.out k hlt
      have hk1 : (k : Int) < (len : Int) := by omega
      go_wp2
      go_quiet (fail)
      go_wp2
      go_roundw
      case rel => exact ⟨k + 1, m + nq, by omega, by go_num, rfl⟩
      case measure => simp [intOf]; omega
    · go_wp2
      go_ret
      exact ⟨rfl, m, rfl⟩

/-- What zzOffsetsOK asks of the i-th member. -/
def OffOk (S E : Nat → Int) (size : Int) (i : Nat) : Prop := 0 ≤ S i ∧ S i ≤ E i ∧ E i ≤ size

theorem offsets_any (a a' : Option Addr) (b off b' off' ls cs le ce : Nat) (S E : Nat → Int) (n : Nat) (size : Int) (w : World) (hn : n ≤ ls) (hn' : n ≤ le) (hbig : n ≤ 1048576)
    (hA : 0 < ls → a = some ⟨b, off, none⟩) (hA' : 0 < le → a' = some ⟨b', off', none⟩)
    (hc : ∀ i, i < ls → w.cell? ⟨b, off + i, none⟩ = some (.int .i64 (S i)))
    (hc' : ∀ i, i < le → w.cell? ⟨b', off' + i, none⟩ = some (.int .i64 (E i))) :
    Calls Try.prog 21 #[.slice a ls cs, .slice a' le ce, .int .i64 n, .int .i64 size] w fun e w' => ∃ r, e = .returned (.bool r) ∧ (r = true → ∀ i, i < n → OffOk S E size i) ∧ ∃ m, w' = w.drewN m := by
  have HA : Hid (0 < ls → a = some ⟨b, off, none⟩) := hA
  have HA' : Hid (0 < le → a' = some ⟨b', off', none⟩) := hA'
  have HC : Hid (∀ i, i < ls → w.cell? ⟨b, off + i, none⟩ = some (.int .i64 (S i))) := hc
  have HC' : Hid (∀ i, i < le → w.cell? ⟨b', off' + i, none⟩ = some (.int .i64 (E i))) := hc'
  clear hA hA' hc hc'
  go_enter Try.func21, Try.ntmps21
  go_wp2
  go_loopw [9] (fun i wr => ∃ k m : Nat, k ≤ n ∧ i = .int .i64 k ∧ (∀ i, i < k → OffOk S E size i) ∧ wr = w.drewN m)
    (fun i _ => n - (intOf i).toNat)
  case atStart => exact ⟨0, 0, Nat.zero_le _, rfl, fun i hi => absurd hi (Nat.not_lt_zero i), rfl⟩
  case round =>
    obtain ⟨k, m, hk, rfl, hok, rfl⟩ := hrel
    by_cases hlt : k < n
    · have ha := HA.out (by omega)
      have ha' := HA'.out (by omega)
      subst ha ha'
      have hx := HC.out k (by omega)
      have hy := HC'.out k (by omega)
      have hk1 : (k : Int) < (ls : Int) := by omega
      have hk2 : (k : Int) < (le : Int) := by omega
      have Hok : Hid (∀ i, i < k → OffOk S E size i) := hok
      clear hok
      by_cases h1 : S k < 0
      · go_wp2
        go_quiet (fail)
        go_wp2
        go_ret
        exact ⟨false, rfl, (fun h => by cases h), m + nq, drewN_two _ _ _⟩
      · have h1' : decide (S k < 0) = false := decide_eq_false h1
        by_cases h2 : E k < S k
        · go_wp2
          go_quiet (fail)
          go_wp2
          go_ret
          exact ⟨false, rfl, (fun h => by cases h), m + nq, drewN_two _ _ _⟩
        · have h2' : decide (E k < S k) = false := decide_eq_false h2
          by_cases h3 : size < E k
          · go_wp2
            go_quiet (fail)
            go_wp2
            go_ret
            exact ⟨false, rfl, (fun h => by cases h), m + nq, drewN_two _ _ _⟩
          · go_wp2
            go_quiet (fail)
            go_wp2
            go_roundw
            case rel =>
              refine ⟨k + 1, m + nq, by omega, by go_num, fun i hi => ?_, rfl⟩
              by_cases e : i = k
              · subst e; exact ⟨by omega, by omega, by omega⟩
              · exact Hok.out i (by omega)
            case measure => simp [intOf]; omega
    · go_wp2
      go_ret
      exact ⟨true, rfl, fun _ i hi => hok i (by omega), m, rfl⟩

/-- The cells of a row of members. -/
def memV (N : Nat → ByteArray) (S E : Nat → Int) (j : Nat) : Value := if j % 3 = 0 then .string (N (j / 3)) else if j % 3 = 1 then .int .i64 (S (j / 3)) else .int .i64 (E (j / 3))

def mem0 (j : Nat) : Value := #[Value.string ByteArray.empty, .int .i64 0, .int .i64 0][j % 3]!

theorem memV_0 (N : Nat → ByteArray) (S E : Nat → Int) (k : Nat) : memV N S E (k * 3) = .string (N k) := by
  unfold memV; rw [if_pos (by omega), show k * 3 / 3 = k by omega]
theorem memV_1 (N : Nat → ByteArray) (S E : Nat → Int) (k : Nat) : memV N S E (k * 3 + 1) = .int .i64 (S k) := by
  unfold memV; rw [if_neg (by omega), if_pos (by omega), show (k * 3 + 1) / 3 = k by omega]
theorem memV_2 (N : Nat → ByteArray) (S E : Nat → Int) (k : Nat) : memV N S E (k * 3 + 2) = .int .i64 (E k) := by
  unfold memV; rw [if_neg (by omega), if_neg (by omega), show (k * 3 + 2) / 3 = k by omega]

theorem fill3 (V Z : Nat → Value) (x y z : Value) (k j : Nat) (h0 : V (k * 3) = x) (h1 : V (k * 3 + 1) = y) (h2 : V (k * 3 + 2) = z) :
    (if j = k * 3 + 2 then z else if j = k * 3 + 1 then y else if j = k * 3 then x else if j < k * 3 then V j else Z j) = if j < (k + 1) * 3 then V j else Z j := by
  by_cases e2 : j = k * 3 + 2
  · subst e2; rw [if_pos rfl, if_pos (by omega), h2]
  rw [if_neg e2]
  by_cases e1 : j = k * 3 + 1
  · subst e1; rw [if_pos rfl, if_pos (by omega), h1]
  rw [if_neg e1]
  by_cases e0 : j = k * 3
  · subst e0; rw [if_pos rfl, if_pos (by omega), h0]
  rw [if_neg e0]
  by_cases e : j < k * 3
  · rw [if_pos e, if_pos (by omega)]
  · rw [if_neg e, if_neg (by omega)]

theorem mem_fill {wr : World} {B m : Nat} {Z : Nat → Value} (N : Nat → ByteArray) (S E : Nat → Int) (k : Nat) (h : wr.rowIs B 47 m (fun j => if j < k * 3 then memV N S E j else Z j)) :
    ((((wr.setCell ⟨B, k * 3, none⟩ (.string (N k))).setCell ⟨B, k * 3 + 1, none⟩ (.int .i64 (S k))).setCell ⟨B, k * 3 + 2, none⟩ (.int .i64 (E k)))).rowIs B 47 m (fun j => if j < (k + 1) * 3 then memV N S E j else Z j) :=
  (((h.set (k * 3) _).set (k * 3 + 1) _).set (k * 3 + 2) _).congr fun j _ => fill3 (memV N S E) Z _ _ _ k j (memV_0 N S E k) (memV_1 N S E k) (memV_2 N S E k)

theorem members_any (a0 a a' : Option Addr) (b0 off0 b off b' off' l0 c0 ls cs le ce : Nat) (N : Nat → ByteArray) (S E : Nat → Int) (n : Nat) (w : World) (hn0 : n ≤ l0) (hn : n ≤ ls) (hn' : n ≤ le) (hbig : n ≤ 1048576)
    (hA0 : 0 < l0 → a0 = some ⟨b0, off0, none⟩) (hA : 0 < ls → a = some ⟨b, off, none⟩) (hA' : 0 < le → a' = some ⟨b', off', none⟩)
    (hc0 : ∀ i, i < l0 → w.cell? ⟨b0, off0 + i, none⟩ = some (.string (N i)))
    (hc : ∀ i, i < ls → w.cell? ⟨b, off + i, none⟩ = some (.int .i64 (S i)))
    (hc' : ∀ i, i < le → w.cell? ⟨b', off' + i, none⟩ = some (.int .i64 (E i))) :
    Calls Try.prog 23 #[.slice a0 l0 c0, .slice a ls cs, .slice a' le ce, .int .i64 n] w fun e w' => e = .returned (.slice (some ⟨w.heap.size, 0, none⟩) n n) ∧ Below w.heap.size w w' ∧ w'.heap.size = w.heap.size + 1 ∧
      w'.rowIs w.heap.size 47 (n * 3) (memV N S E) := by
  have hmk := run_make_rowS (P := Try.prog) 44 47 _ 3 32 Try.underlying44 Try.info47 .i64 .i64 n (by omega) (by omega)
  have HA0 : Hid (0 < l0 → a0 = some ⟨b0, off0, none⟩) := hA0
  have HA : Hid (0 < ls → a = some ⟨b, off, none⟩) := hA
  have HA' : Hid (0 < le → a' = some ⟨b', off', none⟩) := hA'
  have HC0 : Hid (∀ i, i < l0 → w.cell? ⟨b0, off0 + i, none⟩ = some (.string (N i))) := hc0
  have HC : Hid (∀ i, i < ls → w.cell? ⟨b, off + i, none⟩ = some (.int .i64 (S i))) := hc
  have HC' : Hid (∀ i, i < le → w.cell? ⟨b', off' + i, none⟩ = some (.int .i64 (E i))) := hc'
  clear hA0 hA hA' hc hc' hc0
  go_enter Try.func23, Try.ntmps23
  go_wp2
  go_loopw [10] (fun i wr => ∃ k : Nat, k ≤ n ∧ i = .int .i64 k ∧ wr.rowIs w.heap.size 47 (n * 3) (fun j => if j < k * 3 then memV N S E j else mem0 j) ∧ Below w.heap.size w wr ∧ wr.heap.size = w.heap.size + 1)
    (fun i _ => n - (intOf i).toNat)
  case atStart => exact ⟨0, Nat.zero_le _, rfl, (rowIs_madeS _ _ _ _).congr (by intro i hi; simp [mem0]), (Below.refl _ _).alloc (Nat.le_refl _) _, by simp⟩
  case round =>
    obtain ⟨k, hk, rfl, hrow, hbel, hsz⟩ := hrel
    by_cases hlt : k < n
    · have ha0 := HA0.out (by omega)
      have ha := HA.out (by omega)
      have ha' := HA'.out (by omega)
      subst ha ha' ha0
      have hx0 : wr.cell? ⟨b0, off0 + k, none⟩ = some (.string (N k)) := (hbel.cell (lt_of_cell (HC0.out k (by omega)))).trans (HC0.out k (by omega))
      have hx : wr.cell? ⟨b, off + k, none⟩ = some (.int .i64 (S k)) := (hbel.cell (lt_of_cell (HC.out k (by omega)))).trans (HC.out k (by omega))
      have hy : wr.cell? ⟨b', off' + k, none⟩ = some (.int .i64 (E k)) := (hbel.cell (lt_of_cell (HC'.out k (by omega)))).trans (HC'.out k (by omega))
      have hk0 : (k : Int) < (l0 : Int) := by omega
      have hk1 : (k : Int) < (ls : Int) := by omega
      have hk2 : (k : Int) < (le : Int) := by omega
      have c0 : wr.cell? ⟨w.heap.size, k * 3, none⟩ = some (mem0 (k * 3)) := by rw [hrow.cell (i := k * 3) (by omega), if_neg (by omega)]
      have c1 : wr.cell? ⟨w.heap.size, k * 3 + 1, none⟩ = some (mem0 (k * 3 + 1)) := by rw [hrow.cell (i := k * 3 + 1) (by omega), if_neg (by omega)]
      have c2 : wr.cell? ⟨w.heap.size, k * 3 + 2, none⟩ = some (mem0 (k * 3 + 2)) := by rw [hrow.cell (i := k * 3 + 2) (by omega), if_neg (by omega)]
      have f0 := hrow.frozen (k * 3)
      have f1 := hrow.frozen (k * 3 + 1)
      have f2 := hrow.frozen (k * 3 + 2)
      have Hrow : Hid (wr.rowIs w.heap.size 47 (n * 3) (fun j => if j < k * 3 then memV N S E j else mem0 j)) := hrow
      clear hrow
      go_wp2
      go_region
      go_wp2
      go_roundw
      case rel => exact ⟨k + 1, by omega, by go_num, mem_fill N S E k Hrow.out, (((hbel.setCell (p := ⟨w.heap.size, _, none⟩) (Nat.le_refl _) _).setCell (p := ⟨w.heap.size, _, none⟩) (Nat.le_refl _) _).setCell (p := ⟨w.heap.size, _, none⟩) (Nat.le_refl _) _).drew, by simp [World.setCell]; omega⟩
      case measure => simp [intOf]; omega
    · go_wp2
      go_ret
      exact ⟨rfl, hbel, hsz, hrow.congr (fun j hj => if_pos (by omega))⟩
end Go.Proofs.Qxb6615564a
