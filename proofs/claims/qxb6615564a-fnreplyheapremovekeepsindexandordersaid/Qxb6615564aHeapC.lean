import Derived.Test.Qxb6615564aHeapB
namespace Go.Proofs.Qxb6615564a
open Go.RowKit

theorem less_callI {w : World} {hb ab n m : Nat} {R : Nat → Nat} {due : Nat → Int} {A : Nat → Nat} (h : St w hb ab n m R due A) (I J : Int) (i j : Nat) (eI : I = i) (eJ : J = j) (hi : i < m) (hj : j < m) :
    Calls Try.prog 59 #[.slice (some ⟨ab, 0, none⟩) m n, .int .i64 I, .int .i64 J] w fun e w' => e = .returned (.bool (decide (due (A i) < due (A j)))) ∧ St w' hb ab n m R due A ∧ Kept hb ab n R w w' := by
  subst eI eJ; exact less_call h i j hi hj
theorem swap_callI {w : World} {hb ab n m : Nat} {R : Nat → Nat} {due : Nat → Int} {A : Nat → Nat} (G : Geo hb ab n R) (B : Bij n A) (hmn : m ≤ n) (h : St w hb ab n m R due A) (I J : Int) (i j : Nat) (eI : I = i) (eJ : J = j) (hi : i < m) (hj : j < m) (hij : i ≠ j) :
    Calls Try.prog 61 #[.slice (some ⟨ab, 0, none⟩) m n, .int .i64 I, .int .i64 J] w fun e w' => e = .returned (.tuple #[]) ∧ St w' hb ab n m R due (swapA A i j) ∧ Kept hb ab n R w w' := by
  subst eI eJ; exact swap_call G B hmn h i j hi hj hij

set_option maxHeartbeats 1000000 in
set_option maxRecDepth 100000 in
theorem down_call {w : World} {hb ab n m : Nat} {R : Nat → Nat} {due : Nat → Int} {A : Nat → Nat} (G : Hid (Geo hb ab n R)) (hmn : m ≤ n) (hn : n ≤ 65536) (i0 N : Nat) (hN : N < m)
    (S : Hid (St w hb ab n m R due A)) (B : Hid (Bij n A)) (D : Hid (DownInv (fun t => due (A t)) N i0 i0)) :
    Calls Try.prog 39 #[.iface 27 (.pointer (some ⟨hb, 0, none⟩)), .int .i64 i0, .int .i64 N] w fun e w' => ∃ (c : Nat) (A' : Nat → Nat), e = .returned (.bool (decide (i0 < c))) ∧ i0 ≤ c ∧ St w' hb ab n m R due A' ∧ Bij n A' ∧ A' N = A N ∧
      UpInv (fun t => due (A' t)) N c ∧ (c ≠ i0 → Heap (fun t => due (A' t)) N) ∧ Kept hb ab n R w w' := by
  have hlt0 := D.out.lt
  go_enter Try.func39, Try.ntmps39
  go_wp2_with fail
  go_loopw [7] (fun i wr => ∃ (c : Nat) (A' : Nat → Nat), c < N ∧ i = .int .i64 c ∧ Hid (St wr hb ab n m R due A') ∧ Hid (Bij n A') ∧ Hid (DownInv (fun t => due (A' t)) N i0 c) ∧ Hid (A' N = A N) ∧ Hid (Kept hb ab n R w wr)) (fun i _ => N - (intOf i).toNat)
  case atStart => exact ⟨i0, A, hlt0, rfl, S, B, D, rfl, Kept.refl _ _ _ _ _⟩
  case round =>
    clear S B D
    obtain ⟨c, A1, hcN, rfl, S, B, D, hAN, hK⟩ := hrel
    by_cases h1 : (N : Int) ≤ 2 * (c : Int) + 1
    · go_wp2_with fail
      go_ret
      obtain ⟨hu, hh⟩ := D.out.done (fun t h0 ht e => by rcases par_cases h0 e with h | h <;> omega)
      exact ⟨c, A1, rfl, D.out.ge, S.out, B.out, hAN.out, hu, hh, hK.out⟩
    · have h1' : decide ((N : Int) ≤ 2 * (c : Int) + 1) = false := decide_eq_false h1
      have h0' : decide (2 * (c : Int) + 1 < 0) = false := decide_eq_false (by omega)
      by_cases h2 : 2 * (c : Int) + 1 + 1 < (N : Int)
      · have hm := m_val "Less" 59 mLess _ hb m n wr S.out.cell
        go_wp2_with fail
        refine (less_callI S.out _ _ (2 * c + 2) (2 * c + 1) (by omega) (by omega) (by omega) (by omega)).mono ?_
        rintro e w1 ⟨rfl, S1, K1⟩
        have HS1 : Hid (St w1 hb ab n m R due A1) := S1
        have HK1 : Hid (Kept hb ab n R w w1) := hK.out.trans K1
        clear S1 K1 hm
        by_cases hl1 : due (A1 (2 * c + 2)) < due (A1 (2 * c + 1))
        · have hmin : Hid (∀ t, 0 < t → t < N → par t = c → (fun t => due (A1 t)) (2 * c + 2) ≤ (fun t => due (A1 t)) t) := fun t h0 ht e => by
            rcases par_cases h0 e with h | h
            · subst h; simp only; omega
            · subst h; exact Int.le_refl _
          have hm1 := m_val "Less" 59 mLess _ hb m n w1 HS1.out.cell
          go_wp2_with fail
          refine (less_callI HS1.out _ _ (2 * c + 2) c (by omega) (by omega) (by omega) (by omega)).mono ?_
          rintro e w2 ⟨rfl, S2, K2⟩
          have HS2 : Hid (St w2 hb ab n m R due A1) := S2
          have HK2 : Hid (Kept hb ab n R w w2) := HK1.out.trans K2
          clear S2 K2 hm1
          by_cases hl : due (A1 (2 * c + 2)) < due (A1 c)
          · have hm2 := m_val "Swap" 61 mSwap _ hb m n w2 HS2.out.cell
            go_wp2_with fail
            refine (swap_callI G.out B.out hmn HS2.out _ _ c (2 * c + 2) (by omega) (by omega) (by omega) (by omega) (by omega)).mono ?_
            rintro e w3 ⟨rfl, S3, K3⟩
            have HS3 : Hid (St w3 hb ab n m R due (swapA A1 c (2 * c + 2))) := S3
            have HK3 : Hid (Kept hb ab n R w w3) := HK2.out.trans K3
            clear S3 K3 hm2
            go_wp2_with fail
            go_roundw
            case rel => exact ⟨2 * c + 2, swapA A1 c (2 * c + 2), by omega, by go_num, HS3, B.out.swap (by omega) (by omega), by rw [swap_key]; exact D.out.step (by omega) (by omega) (by unfold par; omega) hl hmin.out, (swapA_o (by omega) (by omega)).trans hAN.out, HK3⟩
            case measure => simp [intOf]; omega
          · have hl' : decide (due (A1 (2 * c + 2)) < due (A1 c)) = false := decide_eq_false hl
            have hdone : Hid (∀ t, 0 < t → t < N → par t = c → due (A1 c) ≤ due (A1 t)) := fun t h0 ht e => Int.le_trans (Int.not_lt.1 hl) (hmin.out t h0 ht e)
            go_wp2_with fail
            go_ret
            obtain ⟨hu, hh⟩ := D.out.done hdone.out
            exact ⟨c, A1, rfl, D.out.ge, HS2.out, B.out, hAN.out, hu, hh, HK2.out⟩
        · have hl1' : decide (due (A1 (2 * c + 2)) < due (A1 (2 * c + 1))) = false := decide_eq_false hl1
          have hmin : Hid (∀ t, 0 < t → t < N → par t = c → (fun t => due (A1 t)) (2 * c + 1) ≤ (fun t => due (A1 t)) t) := fun t h0 ht e => by
            rcases par_cases h0 e with h | h
            · subst h; exact Int.le_refl _
            · subst h; simp only; omega
          have hm1 := m_val "Less" 59 mLess _ hb m n w1 HS1.out.cell
          go_wp2_with fail
          refine (less_callI HS1.out _ _ (2 * c + 1) c (by omega) (by omega) (by omega) (by omega)).mono ?_
          rintro e w2 ⟨rfl, S2, K2⟩
          have HS2 : Hid (St w2 hb ab n m R due A1) := S2
          have HK2 : Hid (Kept hb ab n R w w2) := HK1.out.trans K2
          clear S2 K2 hm1
          by_cases hl : due (A1 (2 * c + 1)) < due (A1 c)
          · have hm2 := m_val "Swap" 61 mSwap _ hb m n w2 HS2.out.cell
            go_wp2_with fail
            refine (swap_callI G.out B.out hmn HS2.out _ _ c (2 * c + 1) (by omega) (by omega) (by omega) (by omega) (by omega)).mono ?_
            rintro e w3 ⟨rfl, S3, K3⟩
            have HS3 : Hid (St w3 hb ab n m R due (swapA A1 c (2 * c + 1))) := S3
            have HK3 : Hid (Kept hb ab n R w w3) := HK2.out.trans K3
            clear S3 K3 hm2
            go_wp2_with fail
            go_roundw
            case rel => exact ⟨2 * c + 1, swapA A1 c (2 * c + 1), by omega, by go_num, HS3, B.out.swap (by omega) (by omega), by rw [swap_key]; exact D.out.step (by omega) (by omega) (by unfold par; omega) hl hmin.out, (swapA_o (by omega) (by omega)).trans hAN.out, HK3⟩
            case measure => simp [intOf]; omega
          · have hl' : decide (due (A1 (2 * c + 1)) < due (A1 c)) = false := decide_eq_false hl
            have hdone : Hid (∀ t, 0 < t → t < N → par t = c → due (A1 c) ≤ due (A1 t)) := fun t h0 ht e => Int.le_trans (Int.not_lt.1 hl) (hmin.out t h0 ht e)
            go_wp2_with fail
            go_ret
            obtain ⟨hu, hh⟩ := D.out.done hdone.out
            exact ⟨c, A1, rfl, D.out.ge, HS2.out, B.out, hAN.out, hu, hh, HK2.out⟩
      · have h2' : decide (2 * (c : Int) + 1 + 1 < (N : Int)) = false := decide_eq_false h2
        have hmin : Hid (∀ t, 0 < t → t < N → par t = c → (fun t => due (A1 t)) (2 * c + 1) ≤ (fun t => due (A1 t)) t) := fun t h0 ht e => by
          rcases par_cases h0 e with h | h
          · subst h; exact Int.le_refl _
          · omega
        have hm1 := m_val "Less" 59 mLess _ hb m n wr S.out.cell
        go_wp2_with fail
        refine (less_callI S.out _ _ (2 * c + 1) c (by omega) (by omega) (by omega) (by omega)).mono ?_
        rintro e w2 ⟨rfl, S2, K2⟩
        have HS2 : Hid (St w2 hb ab n m R due A1) := S2
        have HK2 : Hid (Kept hb ab n R w w2) := hK.out.trans K2
        clear S2 K2 hm1
        by_cases hl : due (A1 (2 * c + 1)) < due (A1 c)
        · have hm2 := m_val "Swap" 61 mSwap _ hb m n w2 HS2.out.cell
          go_wp2_with fail
          refine (swap_callI G.out B.out hmn HS2.out _ _ c (2 * c + 1) (by omega) (by omega) (by omega) (by omega) (by omega)).mono ?_
          rintro e w3 ⟨rfl, S3, K3⟩
          have HS3 : Hid (St w3 hb ab n m R due (swapA A1 c (2 * c + 1))) := S3
          have HK3 : Hid (Kept hb ab n R w w3) := HK2.out.trans K3
          clear S3 K3 hm2
          go_wp2_with fail
          go_roundw
          case rel => exact ⟨2 * c + 1, swapA A1 c (2 * c + 1), by omega, by go_num, HS3, B.out.swap (by omega) (by omega), by rw [swap_key]; exact D.out.step (by omega) (by omega) (by unfold par; omega) hl hmin.out, (swapA_o (by omega) (by omega)).trans hAN.out, HK3⟩
          case measure => simp [intOf]; omega
        · have hl' : decide (due (A1 (2 * c + 1)) < due (A1 c)) = false := decide_eq_false hl
          have hdone : Hid (∀ t, 0 < t → t < N → par t = c → due (A1 c) ≤ due (A1 t)) := fun t h0 ht e => Int.le_trans (Int.not_lt.1 hl) (hmin.out t h0 ht e)
          go_wp2_with fail
          go_ret
          obtain ⟨hu, hh⟩ := D.out.done hdone.out
          exact ⟨c, A1, rfl, D.out.ge, HS2.out, B.out, hAN.out, hu, hh, HK2.out⟩

set_option maxHeartbeats 1000000 in
set_option maxRecDepth 100000 in
theorem up_call {w : World} {hb ab n m : Nat} {R : Nat → Nat} {due : Nat → Int} {A : Nat → Nat} (G : Hid (Geo hb ab n R)) (hmn : m ≤ n) (hn : n ≤ 65536) (j0 N : Nat) (hN : N < m)
    (S : Hid (St w hb ab n m R due A)) (B : Hid (Bij n A)) (U : Hid (UpInv (fun t => due (A t)) N j0)) :
    Calls Try.prog 40 #[.iface 27 (.pointer (some ⟨hb, 0, none⟩)), .int .i64 j0] w fun e w' => ∃ (A' : Nat → Nat), e = .returned (.tuple #[]) ∧ St w' hb ab n m R due A' ∧ Bij n A' ∧ A' N = A N ∧
      Heap (fun t => due (A' t)) N ∧ Kept hb ab n R w w' := by
  have hlt0 := U.out.lt
  go_enter Try.func40, Try.ntmps40
  go_wp2_with fail
  go_loopw [1] (fun i wr => ∃ (j : Nat) (A' : Nat → Nat), j < N ∧ i = .int .i64 j ∧ Hid (St wr hb ab n m R due A') ∧ Hid (Bij n A') ∧ Hid (UpInv (fun t => due (A' t)) N j) ∧ Hid (A' N = A N) ∧ Hid (Kept hb ab n R w wr)) (fun i _ => (intOf i).toNat)
  case atStart => exact ⟨j0, A, hlt0, rfl, S, B, U, rfl, Kept.refl _ _ _ _ _⟩
  case round =>
    clear S B U
    obtain ⟨j, A1, hjN, rfl, S, B, U, hAN, hK⟩ := hrel
    rcases j with _ | j
    · go_wp2_with fail
      go_end0
      exact ⟨A1, rfl, S.out, B.out, hAN.out, U.out.done (fun h => absurd h (by omega)), hK.out⟩
    · have hm := m_val "Less" 59 mLess _ hb m n wr S.out.cell
      have hne : (((j : Int) / 2 == (j : Int) + 1)) = false := by rw [beq_eq_false_iff_ne]; omega
      have hpj : Hid (par (j + 1) = j / 2) := by unfold Hid par; omega
      go_wp2_with fail
      refine (less_callI S.out _ _ (j + 1) (j / 2) (by omega) (by omega) (by omega) (by omega)).mono ?_
      rintro e w2 ⟨rfl, S2, K2⟩
      have HS2 : Hid (St w2 hb ab n m R due A1) := S2
      have HK2 : Hid (Kept hb ab n R w w2) := hK.out.trans K2
      clear S2 K2 hm
      by_cases hl : due (A1 (j + 1)) < due (A1 (j / 2))
      · have hm2 := m_val "Swap" 61 mSwap _ hb m n w2 HS2.out.cell
        go_wp2_with fail
        refine (swap_callI G.out B.out hmn HS2.out _ _ (j / 2) (j + 1) (by omega) (by omega) (by omega) (by omega) (by omega)).mono ?_
        rintro e w3 ⟨rfl, S3, K3⟩
        have HS3 : Hid (St w3 hb ab n m R due (swapA A1 (j / 2) (j + 1))) := S3
        have HK3 : Hid (Kept hb ab n R w w3) := HK2.out.trans K3
        clear S3 K3 hm2
        go_wp2_with fail
        go_roundw
        case rel => exact ⟨j / 2, swapA A1 (j / 2) (j + 1), by omega, by go_num, HS3, B.out.swap (by omega) (by omega), by rw [swap_key]; have := U.out.step (by omega) (by rw [hpj.out]; exact hl); rwa [hpj.out] at this, (swapA_o (by omega) (by omega)).trans hAN.out, HK3⟩
        case measure => simp [intOf]; omega
      · have hl' : decide (due (A1 (j + 1)) < due (A1 (j / 2))) = false := decide_eq_false hl
        have Hl : Hid (due (A1 (j / 2)) ≤ due (A1 (j + 1))) := Int.not_lt.1 hl
        go_wp2_with fail
        go_end0
        exact ⟨A1, rfl, HS2.out, B.out, hAN.out, U.out.done (fun _ => by show due (A1 (par (j + 1))) ≤ due (A1 (j + 1)); rw [hpj.out]; exact Hl.out), HK2.out⟩

/-- What the Pop leaves. -/
theorem pop_st {w : World} {hb ab n m : Nat} {R : Nat → Nat} {due : Nat → Int} {A : Nat → Nat} (G : Geo hb ab n R) (B : Bij n A) (hmn : m + 1 ≤ n) (h : St w hb ab n (m + 1) R due A) :
    St (((w.setCell ⟨ab, m, none⟩ (.pointer none)).setCell ⟨hb, 0, none⟩ (.slice (some ⟨ab, 0, none⟩) m n)).setCell ⟨R (A m), 16, none⟩ (.int .i64 (-1))) hb ab n m R due A ∧
    Rep (((w.setCell ⟨ab, m, none⟩ (.pointer none)).setCell ⟨hb, 0, none⟩ (.slice (some ⟨ab, 0, none⟩) m n)).setCell ⟨R (A m), 16, none⟩ (.int .i64 (-1))) (R (A m)) (due (A m)) (-1) := by
  have rne : ∀ s t, s < m + 1 → t < m + 1 → s ≠ t → R (A s) ≠ R (A t) := fun s t hs ht hst e => hst (B.inj s t (by omega) (by omega) (G.inj _ _ (B.lt s (by omega)) (B.lt t (by omega)) e))
  have ra : ∀ s, s < m + 1 → R (A s) ≠ ab := fun s hs => G.ra _ (B.lt s (by omega))
  have rh : ∀ s, s < m + 1 → R (A s) ≠ hb := fun s hs => G.rh _ (B.lt s (by omega))
  have ram := ra m (by omega)
  have rhm := rh m (by omega)
  have gne := G.ne
  have hr := h.rep m (by omega)
  refine ⟨⟨?_, ?_, fun t ht => ?_, fun t ht => ?_, fun t ht => ⟨?_, ?_, ?_, ?_, ?_, (((h.rep t (by omega)).blk.set _ _).set _ _).set _ _⟩⟩, ⟨?_, ?_, ?_, ?_, ?_, ((hr.blk.set _ _).set _ _).set _ _⟩⟩
  · rw [set_ne _ _ (.inl rhm), World.cell?_setCell_same _ _ _ ((set_ne _ _ (.inl gne)).trans h.cell)]
  · simp [h.cellf]
  · rw [set_ne _ _ (.inl ram), set_ne _ _ (.inl (fun e => gne e.symm)), set_ne _ _ (.inr (by omega))]
    exact h.arr t (by omega)
  · simp [h.arrf t (by omega)]
  · have n1 := ra t (by omega)
    have n2 := rh t (by omega)
    rw [set_ne _ _ (.inr (by decide)), set_ne _ _ (.inl (fun e => n2 e.symm)), set_ne _ _ (.inl (fun e => n1 e.symm))]
    exact (h.rep t (by omega)).wall
  · have n1 := ra t (by omega)
    have n2 := rh t (by omega)
    rw [set_ne _ _ (.inr (by decide)), set_ne _ _ (.inl (fun e => n2 e.symm)), set_ne _ _ (.inl (fun e => n1 e.symm))]
    exact (h.rep t (by omega)).ext
  · have n1 := ra t (by omega)
    have n2 := rh t (by omega)
    rw [set_ne _ _ (.inr (by decide)), set_ne _ _ (.inl (fun e => n2 e.symm)), set_ne _ _ (.inl (fun e => n1 e.symm))]
    exact (h.rep t (by omega)).loc
  · have n1 := ra t (by omega)
    have n2 := rh t (by omega)
    rw [set_ne _ _ (.inl (rne m t (by omega) (by omega) (by omega))), set_ne _ _ (.inl (fun e => n2 e.symm)), set_ne _ _ (.inl (fun e => n1 e.symm))]
    exact (h.rep t (by omega)).idx
  · simp [(h.rep t (by omega)).fz]
  · rw [set_ne _ _ (.inr (by decide)), set_ne _ _ (.inl (fun e => rhm e.symm)), set_ne _ _ (.inl (fun e => ram e.symm))]
    exact hr.wall
  · rw [set_ne _ _ (.inr (by decide)), set_ne _ _ (.inl (fun e => rhm e.symm)), set_ne _ _ (.inl (fun e => ram e.symm))]
    exact hr.ext
  · rw [set_ne _ _ (.inr (by decide)), set_ne _ _ (.inl (fun e => rhm e.symm)), set_ne _ _ (.inl (fun e => ram e.symm))]
    exact hr.loc
  · exact World.cell?_setCell_same _ _ _ (((set_ne _ _ (.inl (fun e => rhm e.symm))).trans (set_ne _ _ (.inl (fun e => ram e.symm)))).trans hr.idx)
  · simp [hr.fz]

theorem pop_call {w : World} {hb ab n m : Nat} {R : Nat → Nat} {due : Nat → Int} {A : Nat → Nat} (G : Geo hb ab n R) (B : Bij n A) (hmn : m + 1 ≤ n) (hn : n ≤ 65536) (h : St w hb ab n (m + 1) R due A) :
    Calls Try.prog 60 #[.pointer (some ⟨hb, 0, none⟩)] w fun e w' => e = .returned (.iface 30 (.pointer (some ⟨R (A m), 0, none⟩))) ∧ St w' hb ab n m R due A ∧ Rep w' (R (A m)) (due (A m)) (-1) ∧ Kept hb ab n R w w' := by
  have hA := B.lt m (by omega)
  refine (pop_any hb ab m n (R (A m)) _ w (by omega) (G.ra _ hA) (G.rh _ hA) G.ne h.cell h.cellf hmn (h.arr m (by omega)) (h.arrf m (by omega)) (h.rep m (by omega)).idx (h.rep m (by omega)).fz).mono ?_
  rintro e w' ⟨rfl, rfl⟩
  obtain ⟨h1, h2⟩ := pop_st G B hmn h
  exact ⟨rfl, h1, h2, (((Kept.refl hb ab n R w).set (p := ⟨ab, m, none⟩) (.inl rfl) _).set (p := ⟨hb, 0, none⟩) (.inr (.inl rfl)) _).set (p := ⟨R (A m), 16, none⟩) (.inr (.inr ⟨_, hA, rfl⟩)) _⟩
end Go.Proofs.Qxb6615564a
