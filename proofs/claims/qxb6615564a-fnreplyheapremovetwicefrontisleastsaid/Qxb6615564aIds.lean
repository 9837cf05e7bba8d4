import Derived.Test.Qxb6615564aParts
namespace Go.Proofs.Qxb6615564a
open Go.RowKit

/-- The greatest i below n whose name is the key. -/
def lastId (N : Nat → ByteArray) (key : ByteArray) : Nat → Option Nat
  | 0 => none
  | n + 1 => if (N n).toList == key.toList then some n else lastId N key n

/-- data[S:E:E] of a slice that begins at da. -/
def cutV (da : Option Addr) (s e : Int) : Value :=
  .slice (if e.toNat = s.toNat then da else da.map (·.add s.toNat)) (e.toNat - s.toNat) (e.toNat - s.toNat)

def idV (da : Option Addr) (S E : Nat → Int) : Option Nat → Value
  | none => .slice none 0 0
  | some i => cutV da (S i) (E i)

structure Mems (w : World) (ma : Option Addr) (mb mo n : Nat) (N : Nat → ByteArray) (S E : Nat → Int) : Prop where
  at_ : 0 < n → ma = some ⟨mb, mo, none⟩
  nm : ∀ i, i < n → w.cell? ⟨mb, mo + i * 3, none⟩ = some (.string (N i))
  st : ∀ i, i < n → w.cell? ⟨mb, mo + i * 3 + 1, none⟩ = some (.int .i64 (S i))
  en : ∀ i, i < n → w.cell? ⟨mb, mo + i * 3 + 2, none⟩ = some (.int .i64 (E i))

theorem Mems.alloc {w : World} {ma : Option Addr} {mb mo n : Nat} {N : Nat → ByteArray} {S E : Nat → Int} (h : Mems w ma mb mo n N S E) (o : Obj) : Mems (w.alloc o) ma mb mo n N S E where
  at_ := h.at_
  nm i hi := (((Below.refl _ w).alloc (Nat.le_refl _) o).cell (lt_of_cell (h.nm i hi))).trans (h.nm i hi)
  st i hi := (((Below.refl _ w).alloc (Nat.le_refl _) o).cell (lt_of_cell (h.st i hi))).trans (h.st i hi)
  en i hi := (((Below.refl _ w).alloc (Nat.le_refl _) o).cell (lt_of_cell (h.en i hi))).trans (h.en i hi)

theorem Mems.below {w w' : World} {ma : Option Addr} {mb mo n : Nat} {N : Nat → ByteArray} {S E : Nat → Int} (h : Mems w ma mb mo n N S E) (hb : Below w.heap.size w w') : Mems w' ma mb mo n N S E where
  at_ := h.at_
  nm i hi := (hb.cell (lt_of_cell (h.nm i hi))).trans (h.nm i hi)
  st i hi := (hb.cell (lt_of_cell (h.st i hi))).trans (h.st i hi)
  en i hi := (hb.cell (lt_of_cell (h.en i hi))).trans (h.en i hi)

theorem lastId_skip {N : Nat → ByteArray} {key : ByteArray} {k : Nat} (h : ((N k).toList == key.toList) = false) : lastId N key (k + 1) = lastId N key k := by
  simp [lastId, h]
theorem lastId_hit {N : Nat → ByteArray} {key : ByteArray} {k : Nat} (h : ((N k).toList == key.toList) = true) : lastId N key (k + 1) = some k := by
  simp [lastId, h]

theorem _root_.Go.RowKit.Below.drewN {B : Nat} {a w : World} (h : Below B a w) (n : Nat) : Below B a (w.drewN n) := ⟨h.os, h.tape, h.output, h.size, h.block⟩

set_option maxHeartbeats 400000 in
theorem get_any (da ma : Option Addr) (dl dc mb mo n mc : Nat) (N : Nat → ByteArray) (S E : Nat → Int) (key : ByteArray) (w : World) (hn : n ≤ 1048576) (hd : dl ≤ dc)
    (M : Hid (Mems w ma mb mo n N S E)) (ok : Hid (∀ i, i < n → OffOk S E dl i)) :
    Calls Try.prog 41 #[.agg #[.slice da dl dc, .slice ma n mc], .string key] w fun e w' => e = .returned (.tuple #[idV da S E (lastId N key n), .bool (lastId N key n).isSome]) ∧ Below w.heap.size w w' := by
  go_enter Try.func41, Try.ntmps41
  go_wp2
  go_loop [6] (fun i => ∃ k : Nat, k ≤ n ∧ i = .int .i64 ((k : Int) - 1) ∧ Hid (lastId N key n = lastId N key k)) (fun i => (intOf i + 1).toNat)
  case atStart => exact ⟨n, Nat.le_refl _, rfl, rfl⟩
  case round =>
    obtain ⟨k, hk, rfl, hlast⟩ := hrel
    rcases k with _ | k
    · go_wp2
      go_ret2
      exact ⟨by rw [hlast.out]; rfl, (Below.refl _ _).alloc (Nat.le_refl _) _⟩
    · have hlt : k < n := by omega
      have ha := M.out.at_ (by omega)
      subst ha
      have h0 := M.out.nm k hlt
      have h1 := M.out.st k hlt
      have h2 := M.out.en k hlt
      have hk1 : (k : Int) < (n : Int) := by omega
      have hmb : mb < w.heap.size := lt_of_cell h0
      obtain ⟨o1, o2, o3⟩ := ok.out k hlt
      have o4 : E k ≤ (dc : Int) := by omega
      cases hq : ((N k).toList == key.toList)
      · have HS : Hid (lastId N key (k + 1) = lastId N key k) := lastId_skip hq
        go_wp2
        go_round
        case rel => exact ⟨k, by omega, by go_num, hlast.out.trans HS.out⟩
        case measure => simp [intOf]
      · have HS : Hid (lastId N key (k + 1) = some k) := lastId_hit hq
        by_cases he : (E k).toNat = (S k).toNat
        · have HE : Hid (idV da S E (some k) = .slice da 0 0) := by simp [idV, cutV, he, Hid]
          go_wp2
          go_quiet (fail)
          go_wp2
          go_ret2
          exact ⟨by rw [hlast.out, HS.out, HE.out]; rfl, ((Below.refl _ _).alloc (Nat.le_refl _) _).drewN _⟩
        · have HE : Hid (idV da S E (some k) = .slice (da.map (fun x => x.add (S k).toNat)) ((E k).toNat - (S k).toNat) ((E k).toNat - (S k).toNat)) := by simp [idV, cutV, he, Hid]
          go_wp2
          go_quiet (fail)
          go_wp2
          go_ret2
          exact ⟨by rw [hlast.out, HS.out, HE.out]; rfl, ((Below.refl _ _).alloc (Nat.le_refl _) _).drewN _⟩

theorem value_any (da ma : Option Addr) (dl dc mb mo n mc : Nat) (N : Nat → ByteArray) (S E : Nat → Int) (key : ByteArray) (w : World) (hn : n ≤ 1048576) (hd : dl ≤ dc)
    (M : Hid (Mems w ma mb mo n N S E)) (ok : Hid (∀ i, i < n → OffOk S E dl i)) :
    Calls Try.prog 38 #[.agg #[.slice da dl dc, .slice ma n mc], .string key] w fun e w' => e = .returned (idV da S E (lastId N key n)) ∧ Below w.heap.size w w' := by
  go_enter Try.func38, Try.ntmps38
  go_wp2_with fail
  refine (get_any da ma dl dc mb mo n mc N S E key _ hn hd ?_ ok).mono ?_
  · exact M.out.alloc _
  rintro e w1 ⟨rfl, hb⟩
  go_wp2
  go_ret
  exact ⟨rfl, ((Below.refl _ _).alloc (Nat.le_refl _) _).trans (hb.mono (by simp))⟩

theorem id_any (da ma : Option Addr) (dl dc mb mo n mc : Nat) (N : Nat → ByteArray) (S E : Nat → Int) (w : World) (hn : n ≤ 1048576) (hd : dl ≤ dc) (x y z u v t : Value)
    (M : Hid (Mems w ma mb mo n N S E)) (ok : Hid (∀ i, i < n → OffOk S E dl i)) :
    Calls Try.prog 31 #[.agg #[.slice da dl dc, .slice ma n mc, x, y, z, u, v, t]] w fun e w' => e = .returned (idV da S E (lastId N ⟨#[105, 100]⟩ n)) ∧ Below w.heap.size w w' := by
  go_enter Try.func31, Try.ntmps31
  go_wp2_with fail
  refine (value_any da ma dl dc mb mo n mc N S E _ _ hn hd ?_ ok).mono ?_
  · exact M.out.alloc _
  rintro e w1 ⟨rfl, hb⟩
  go_wp2
  go_ret
  exact ⟨rfl, ((Below.refl _ _).alloc (Nat.le_refl _) _).trans (hb.mono (by simp))⟩

theorem mid_any (da ma : Option Addr) (dl dc mb mo n mc : Nat) (N : Nat → ByteArray) (S E : Nat → Int) (w : World) (hn : n ≤ 1048576) (hd : dl ≤ dc) (x y z u v t : Value)
    (M : Hid (Mems w ma mb mo n N S E)) (ok : Hid (∀ i, i < n → OffOk S E dl i)) :
    Calls Try.prog 24 #[.agg #[.slice da dl dc, .slice ma n mc, x, y, z, u, v, t]] w fun e w' => e = .returned (idV da S E (lastId N ⟨#[105, 100]⟩ n)) ∧ Below w.heap.size w w' := by
  go_enter Try.func24, Try.ntmps24
  go_wp2_with fail
  refine (id_any da ma dl dc mb mo n mc N S E _ hn hd x y z u v t ?_ ok).mono ?_
  · exact M.out.alloc _
  rintro e w1 ⟨rfl, hb⟩
  go_wp2
  go_ret
  exact ⟨rfl, ((Below.refl _ _).alloc (Nat.le_refl _) _).trans (hb.mono (by simp))⟩

theorem newMsg (w : World) (a a' : Option Addr) (l c l' c' : Nat) :
    Calls Try.prog 25 #[.slice a l c, .slice a' l' c'] w fun e w' => e = .returned (.agg #[.slice a l c, .slice a' l' c', .slice none 0 0, .slice none 0 0, .slice none 0 0, .slice none 0 0, .slice none 0 0, .slice none 0 0]) ∧ Below w.heap.size w w' := by
  go_enter Try.func25, Try.ntmps25
  go_wp2
  exact bodyPost_ret (v := .agg #[.slice a l c, .slice a' l' c', .slice none 0 0, .slice none 0 0, .slice none 0 0, .slice none 0 0, .slice none 0 0, .slice none 0 0]) (by simp [results, Try.results25, go_sem]) rfl ⟨rfl, (Below.refl _ _).alloc (Nat.le_refl _) _⟩

set_option maxHeartbeats 800000 in
theorem bytes27 (a0 a1 a2 a3 : Option Addr) (l0 c0 l1 c1 l2 c2 l3 c3 b1 o1 : Nat) (c : Int) (N : Nat → ByteArray) (w : World)
    (hA : Hid (0 < l1 → a1 = some ⟨b1, o1, none⟩)) (hC : Hid (∀ i, i < l1 → w.cell? ⟨b1, o1 + i, none⟩ = some (.string (N i)))) (hN : Hid (∀ i, i < l1 → (N i).size ≤ 9223372036854775807)) (g0 : l0 ≤ 9223372036854775807) (g1 : l1 ≤ 9223372036854775807) (g2 : l2 ≤ 9223372036854775807) (g3 : l3 ≤ 9223372036854775807) :
    Calls Try.prog 27 #[.slice a0 l0 c0, .slice a1 l1 c1, .slice a2 l2 c2, .slice a3 l3 c3, .int .i64 c] w fun e w' => ((e = .returned (.bool true) ∧ Hid (∀ i, i < l1 → (N i).size ≤ 1048576)) ∨ e = .returned (.bool false)) ∧ w = w' := by
  by_cases e0 : (1048576 : Int) < (l0 : Int)
  · go_enter Try.func27, Try.ntmps27
    go_wp2
    go_ret
    exact ⟨.inr rfl, rfl⟩
  by_cases e1 : (1048576 : Int) < (l1 : Int)
  · go_enter Try.func27, Try.ntmps27
    go_wp2
    go_ret
    exact ⟨.inr rfl, rfl⟩
  by_cases e2 : (1048576 : Int) < (l0 : Int) + (l1 : Int)
  · go_enter Try.func27, Try.ntmps27
    go_wp2
    go_ret
    exact ⟨.inr rfl, rfl⟩
  have e0' : decide ((1048576 : Int) < (l0 : Int)) = false := decide_eq_false e0
  have e1' : decide ((1048576 : Int) < (l1 : Int)) = false := decide_eq_false e1
  have e2' : decide ((1048576 : Int) < (l0 : Int) + (l1 : Int)) = false := decide_eq_false e2
  go_enter Try.func27, Try.ntmps27
  go_wp2
  go_loop [11, 12] (fun z i => ∃ (k : Nat) (t : Int), k ≤ l1 ∧ i = .int .i64 k ∧ z = .int .i64 t ∧ 0 ≤ t ∧ t ≤ 1048576 ∧ Hid (∀ i, i < k → (N i).size ≤ 1048576)) (fun _ i => l1 - (intOf i).toNat)
  case atStart => exact ⟨0, _, Nat.zero_le _, rfl, rfl, by omega, by omega, fun i hi => absurd hi (Nat.not_lt_zero i)⟩
  case round =>
    obtain ⟨k, t, hk, rfl, rfl, t0, t1, tN⟩ := hrel
    by_cases hlt : k < l1
    · have ha := hA.out (by omega)
      subst ha
      have hx := hC.out k hlt
      have hz := hN.out k hlt
      by_cases s0 : (1048576 : Int) < ((N k).size : Int)
      · go_wp2
        go_ret
        exact ⟨.inr rfl, rfl⟩
      by_cases s1 : (1048576 : Int) < t + ((N k).size : Int)
      · go_wp2
        go_ret
        exact ⟨.inr rfl, rfl⟩
      go_wp2
      go_round
      case rel => exact ⟨k + 1, t + ((N k).size : Int), by omega, by go_num, rfl, by omega, by omega, fun i hi => by by_cases e : i = k; (· subst e; omega); (· exact tN.out i (by omega))⟩
      case measure => simp [intOf]; omega
    · go_wp2
      all_goals (go_ret; first | exact ⟨.inr rfl, rfl⟩ | exact ⟨.inl ⟨rfl, fun i hi => tN.out i (by omega)⟩, rfl⟩)

set_option maxHeartbeats 800000 in
theorem bytes19 (a0 a1 a2 a3 : Option Addr) (l0 c0 l1 c1 l2 c2 l3 c3 b1 o1 : Nat) (nm : ByteArray) (st en p : Int) (N : Nat → ByteArray) (w : World)
    (hA : Hid (0 < l1 → a1 = some ⟨b1, o1, none⟩)) (hC : Hid (∀ i, i < l1 → w.cell? ⟨b1, o1 + i, none⟩ = some (.string (N i)))) (hN : Hid (∀ i, i < l1 → (N i).size ≤ 9223372036854775807)) (g0 : l0 ≤ 9223372036854775807) (g1 : l1 ≤ 9223372036854775807) (g2 : l2 ≤ 9223372036854775807) (g3 : l3 ≤ 9223372036854775807) (g4 : nm.size ≤ 9223372036854775807) :
    Calls Try.prog 19 #[.slice a0 l0 c0, .slice a1 l1 c1, .slice a2 l2 c2, .slice a3 l3 c3, .string nm, .int .i64 st, .int .i64 en, .int .i64 p] w fun e w' => ((e = .returned (.bool true) ∧ Hid (∀ i, i < l1 → (N i).size ≤ 1048576)) ∨ e = .returned (.bool false)) ∧ w = w' := by
  by_cases e0 : (1048576 : Int) < (l0 : Int)
  · go_enter Try.func19, Try.ntmps19
    go_wp2
    go_ret
    exact ⟨.inr rfl, rfl⟩
  by_cases e1 : (1048576 : Int) < (l1 : Int)
  · go_enter Try.func19, Try.ntmps19
    go_wp2
    go_ret
    exact ⟨.inr rfl, rfl⟩
  by_cases e2 : (1048576 : Int) < (l0 : Int) + (l1 : Int)
  · go_enter Try.func19, Try.ntmps19
    go_wp2
    go_ret
    exact ⟨.inr rfl, rfl⟩
  have e0' : decide ((1048576 : Int) < (l0 : Int)) = false := decide_eq_false e0
  have e1' : decide ((1048576 : Int) < (l1 : Int)) = false := decide_eq_false e1
  have e2' : decide ((1048576 : Int) < (l0 : Int) + (l1 : Int)) = false := decide_eq_false e2
  go_enter Try.func19, Try.ntmps19
  go_wp2
  go_loop [17, 18] (fun z i => ∃ (k : Nat) (t : Int), k ≤ l1 ∧ i = .int .i64 k ∧ z = .int .i64 t ∧ 0 ≤ t ∧ t ≤ 1048576 ∧ Hid (∀ i, i < k → (N i).size ≤ 1048576)) (fun _ i => l1 - (intOf i).toNat)
  case atStart => exact ⟨0, _, Nat.zero_le _, rfl, rfl, by omega, by omega, fun i hi => absurd hi (Nat.not_lt_zero i)⟩
  case round =>
    obtain ⟨k, t, hk, rfl, rfl, t0, t1, tN⟩ := hrel
    by_cases hlt : k < l1
    · have ha := hA.out (by omega)
      subst ha
      have hx := hC.out k hlt
      have hz := hN.out k hlt
      by_cases s0 : (1048576 : Int) < ((N k).size : Int)
      · go_wp2
        go_ret
        exact ⟨.inr rfl, rfl⟩
      by_cases s1 : (1048576 : Int) < t + ((N k).size : Int)
      · go_wp2
        go_ret
        exact ⟨.inr rfl, rfl⟩
      go_wp2
      go_round
      case rel => exact ⟨k + 1, t + ((N k).size : Int), by omega, by go_num, rfl, by omega, by omega, fun i hi => by by_cases e : i = k; (· subst e; omega); (· exact tN.out i (by omega))⟩
      case measure => simp [intOf]; omega
    · go_wp2
      all_goals (go_ret; first | exact ⟨.inr rfl, rfl⟩ | exact ⟨.inl ⟨rfl, fun i hi => tN.out i (by omega)⟩, rfl⟩)

end Go.Proofs.Qxb6615564a
