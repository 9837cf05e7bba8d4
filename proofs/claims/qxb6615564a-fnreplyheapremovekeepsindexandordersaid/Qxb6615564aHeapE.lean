import Derived.Test.Qxb6615564aHeapD
namespace Go.Proofs.Qxb6615564a
open Go.RowKit

theorem ordered_any (a : Option Addr) (b o l c : Nat) (D : Nat → Int) (w : World) (hl : l ≤ 1048576) (hA : Hid (0 < l → a = some ⟨b, o, none⟩)) (hC : Hid (∀ i, i < l → w.cell? ⟨b, o + i, none⟩ = some (.int .i64 (D i)))) :
    Calls Try.prog 8 #[.slice a l c] w fun e w' => ((e = .returned (.bool true) ∧ Hid (Heap D l)) ∨ e = .returned (.bool false)) ∧ ∃ m, w' = w.drewN m := by
  go_enter Try.func8, Try.ntmps8
  go_wp2
  go_loopw [3] (fun i wr => ∃ k m : Nat, 1 ≤ k ∧ (k ≤ l ∨ k = 1) ∧ i = .int .i64 k ∧ Hid (∀ t, 0 < t → t < k → D (par t) ≤ D t) ∧ wr = w.drewN m)
    (fun i _ => l - (intOf i).toNat)
  case atStart => exact ⟨1, 0, Nat.le_refl _, .inr rfl, rfl, fun t h0 h1 => absurd h1 (by omega), rfl⟩
  case round =>
    obtain ⟨k, m, hk1, hk, rfl, hok, rfl⟩ := hrel
    by_cases hlt : k < l
    · have ha := hA.out (by omega)
      subst ha
      have hx := hC.out k hlt
      have hy := hC.out ((k - 1) / 2) (by omega)
      have hi1 : (k : Int) < (l : Int) := by omega
      have hi2 : ((k : Int) - 1) / 2 < (l : Int) := by omega
      have hi3 : 0 ≤ ((k : Int) - 1) / 2 := by omega
      by_cases h1 : D k < D ((k - 1) / 2)
      · go_wp2
        go_quiet (fail)
        go_wp2
        go_ret
        exact ⟨.inr rfl, m + nq, drewN_two _ _ _⟩
      · have h1' : decide (D k < D ((k - 1) / 2)) = false := decide_eq_false h1
        have Hle : Hid (D (par k) ≤ D k) := by unfold Hid par; omega
        go_wp2
        go_quiet (fail)
        go_wp2
        go_roundw
        case rel =>
          refine ⟨k + 1, m + nq, by omega, by omega, by go_num, fun t h0 ht => ?_, rfl⟩
          by_cases e : t = k
          · subst e; exact Hle.out
          · exact hok.out t h0 (by omega)
        case measure => simp [intOf]; omega
    · go_wp2
      go_ret
      exact ⟨.inl ⟨rfl, fun t h0 ht => hok.out t h0 (by omega)⟩, m, rfl⟩

theorem heapFrom_any (b l c : Nat) (w : World) : Calls Try.prog 10 #[.slice (some ⟨b, 0, none⟩) l c] w fun e w' => e = .returned (.pointer (some ⟨w.heap.size, 0, none⟩)) ∧ w' = w.alloc (.cells #[.slice (some ⟨b, 0, none⟩) l c] 57) := by
  go_enter Try.func10, Try.ntmps10
  go_wp2
  go_ret
  exact ⟨rfl, rfl⟩

theorem heapLen_any (hb : Nat) (a : Option Addr) (m c : Nat) (w : World) (h : w.cell? ⟨hb, 0, none⟩ = some (.slice a m c)) : Calls Try.prog 14 #[.pointer (some ⟨hb, 0, none⟩)] w fun e w' => e = .returned (.int .i64 m) ∧ w = w' := by
  go_enter Try.func14, Try.ntmps14
  go_wp2
  go_ret
  exact ⟨rfl, rfl⟩

theorem index_any (r : Nat) (k : Int) (w : World) (h : w.cell? ⟨r, 16, none⟩ = some (.int .i64 k)) : Calls Try.prog 15 #[.pointer (some ⟨r, 0, none⟩)] w fun e w' => e = .returned (.int .i64 k) ∧ w = w' := by
  go_enter Try.func15, Try.ntmps15
  go_wp2
  go_ret
  exact ⟨rfl, rfl⟩

theorem heapAt_any (hb ab m c i r : Nat) (I : Int) (w : World) (eI : I = i) (hi : i < m) (h : w.cell? ⟨hb, 0, none⟩ = some (.slice (some ⟨ab, 0, none⟩) m c)) (h2 : w.cell? ⟨ab, i, none⟩ = some (.pointer (some ⟨r, 0, none⟩))) :
    Calls Try.prog 16 #[.pointer (some ⟨hb, 0, none⟩), .int .i64 I] w fun e w' => e = .returned (.pointer (some ⟨r, 0, none⟩)) ∧ w = w' := by
  subst eI
  have hi' : (i : Int) < (m : Int) := by omega
  go_enter Try.func16, Try.ntmps16
  go_wp2
  go_ret
  exact ⟨rfl, rfl⟩

set_option maxHeartbeats 1000000 in
theorem dueBefore_any (r1 r2 : Nat) (d1 d2 k1 k2 : Int) (w : World) (R1 : Hid (Rep w r1 d1 k1)) (R2 : Hid (Rep w r2 d2 k2)) :
    Calls Try.prog 17 #[.pointer (some ⟨r1, 0, none⟩), .pointer (some ⟨r2, 0, none⟩)] w fun e w' => e = .returned (.bool (decide (d1 < d2))) ∧ Below w.heap.size w w' := by
  have a1 := R1.out.wall
  have a2 := R1.out.ext
  have a3 := R1.out.loc
  have b1 := R2.out.wall
  have b2 := R2.out.ext
  have b3 := R2.out.loc
  go_enter Try.func17, Try.ntmps17
  go_wp2
  go_region_with (go_at_call 30; refine (before_any d1 d2 _).mono ?_; rintro e w' ⟨rfl, hb⟩)
  all_goals (go_wp2; go_ret; exact ⟨rfl, ((Below.refl _ _).drew).trans hb⟩)

theorem remove_none (hb r : Nat) (w : World) (h : w.cell? ⟨r, 16, none⟩ = some (.int .i64 (-1))) : Calls Try.prog 13 #[.pointer (some ⟨hb, 0, none⟩), .pointer (some ⟨r, 0, none⟩)] w fun e w' => e = .returned (.tuple #[]) ∧ w = w' := by
  go_enter Try.func13, Try.ntmps13
  go_wp2
  go_end0
  go_wp2
  go_end0
  exact ⟨rfl, rfl⟩

set_option maxRecDepth 100000 in
theorem remove_some {w : World} {hb ab n : Nat} {R : Nat → Nat} {due : Nat → Int} {A : Nat → Nat} (G : Hid (Geo hb ab (n + 1) R)) (hn : n + 1 ≤ 65536) (i : Nat) (hi : i < n + 1)
    (S : Hid (St w hb ab (n + 1) (n + 1) R due A)) (B : Hid (Bij (n + 1) A)) (H : Hid (Heap (fun t => due (A t)) (n + 1))) :
    Calls Try.prog 13 #[.pointer (some ⟨hb, 0, none⟩), .pointer (some ⟨R (A i), 0, none⟩)] w fun e w' => ∃ (A' : Nat → Nat), e = .returned (.tuple #[]) ∧ St w' hb ab (n + 1) n R due A' ∧ Bij (n + 1) A' ∧ A' n = A i ∧
      Heap (fun t => due (A' t)) n ∧ Rep w' (R (A i)) (due (A i)) (-1) ∧ Kept hb ab (n + 1) R w w' := by
  have hx := (S.out.rep i hi).idx
  go_enter Try.func13, Try.ntmps13
  go_wp2_with (first | (go_at_call 36; refine (hremove_call G hn i hi S B H).mono ?_; rintro e w1 ⟨v, A1, rfl, S1, B1, e1, H1, R1, K1⟩) | go_in)
  go_end0
  go_wp2
  go_end0
  exact ⟨A1, rfl, S1, B1, e1, H1, R1, K1⟩
end Go.Proofs.Qxb6615564a
