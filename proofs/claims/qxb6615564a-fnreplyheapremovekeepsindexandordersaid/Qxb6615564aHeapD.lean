import Derived.Test.Qxb6615564aHeapC
namespace Go.Proofs.Qxb6615564a
open Go.RowKit

theorem hide {p : Prop} (h : p) : Hid p := h
theorem unhide {p : Prop} (h : Hid p) : p := h

set_option maxHeartbeats 1000000 in
set_option maxRecDepth 100000 in
theorem hremove_call {w : World} {hb ab n : Nat} {R : Nat → Nat} {due : Nat → Int} {A : Nat → Nat} (G : Hid (Geo hb ab (n + 1) R)) (hn : n + 1 ≤ 65536) (i : Nat) (hi : i < n + 1)
    (S : Hid (St w hb ab (n + 1) (n + 1) R due A)) (B : Hid (Bij (n + 1) A)) (H : Hid (Heap (fun t => due (A t)) (n + 1))) :
    Calls Try.prog 36 #[.iface 27 (.pointer (some ⟨hb, 0, none⟩)), .int .i64 i] w fun e w' => ∃ (v : Value) (A' : Nat → Nat), e = .returned v ∧ St w' hb ab (n + 1) n R due A' ∧ Bij (n + 1) A' ∧ A' n = A i ∧
      Heap (fun t => due (A' t)) n ∧ Rep w' (R (A i)) (due (A i)) (-1) ∧ Kept hb ab (n + 1) R w w' := by
  have hm := m_val "Len" 58 mLen _ hb (n + 1) (n + 1) w S.out.cell
  have hp := fun w => m_pop ⟨hb, 0, none⟩ w
  by_cases hin : i = n
  · subst hin
    go_enter Try.func36, Try.ntmps36
    go_wp2_with fail
    refine (len_any _ _ _ _).mono ?_
    rintro e w' ⟨rfl, rfl⟩
    go_wp2_with fail
    refine (pop_call G.out B.out (Nat.le_refl _) hn S.out).mono ?_
    rintro e w2 ⟨rfl, S2, R2, K2⟩
    have HS2 := hide S2
    have HR2 := hide R2
    have HK2 := hide K2
    clear S2 R2 K2
    go_wp2_with fail
    go_ret
    exact ⟨_, A, rfl, unhide HS2, B.out, rfl, fun t h0 ht => H.out t h0 (by omega), unhide HR2, unhide HK2⟩
  · have hne : ((n : Int) != (i : Int)) = true := by rw [bne_iff_ne]; omega
    have hs := m_val "Swap" 61 mSwap _ hb (n + 1) (n + 1) w S.out.cell
    go_enter Try.func36, Try.ntmps36
    go_wp2_with fail
    refine (len_any _ _ _ _).mono ?_
    rintro e w' ⟨rfl, rfl⟩
    go_wp2_with fail
    refine (swap_callI G.out B.out (Nat.le_refl _) S.out _ _ i n rfl (by omega) hi (by omega) hin).mono ?_
    rintro e w2 ⟨rfl, S2, K2⟩
    have HS2 := hide S2
    have HK2 := hide K2
    have HB2 : Hid (Bij (n + 1) (swapA A i n)) := B.out.swap hi (by omega)
    have HD2 : Hid (DownInv (fun t => due (swapA A i n t)) n i i) := by unfold Hid; rw [swap_key]; exact DownInv.start H.out (by omega)
    clear S2 K2 hm hs
    go_wp2_with fail
    refine (down_call G (Nat.le_refl _) hn i n (by omega) (unhide HS2) HB2 HD2).mono ?_
    rintro e w3 ⟨c, A3, rfl, hic, S3, B3, hA3, U3, H3, K3⟩
    have HS3 : Hid (St w3 hb ab (n + 1) (n + 1) R due A3) := S3
    have HB3 : Hid (Bij (n + 1) A3) := B3
    have HA3 : Hid (A3 n = A i) := hA3.trans swapA_r
    have HU3 : Hid (UpInv (fun t => due (A3 t)) n c) := U3
    have HH3 : Hid (c ≠ i → Heap (fun t => due (A3 t)) n) := H3
    have HK3 : Hid (Kept hb ab (n + 1) R w w3) := (unhide HK2).trans K3
    clear S3 B3 hA3 U3 H3 K3 HS2 HK2 HB2 HD2
    by_cases hc : i < c
    · go_wp2_with fail
      refine (pop_call G.out HB3.out (Nat.le_refl _) hn HS3.out).mono ?_
      rintro e w4 ⟨rfl, S4, R4, K4⟩
      have HS4 : Hid (St w4 hb ab (n + 1) n R due A3) := S4
      have HR4 : Hid (Rep w4 (R (A i)) (due (A i)) (-1)) := by rw [← HA3.out]; exact R4
      have HK4 : Hid (Kept hb ab (n + 1) R w w4) := HK3.out.trans K4
      clear S4 R4 K4
      go_wp2_with fail
      go_ret
      exact ⟨_, A3, rfl, HS4.out, HB3.out, HA3.out, HH3.out (by omega), HR4.out, HK4.out⟩
    · have hc' : decide (i < c) = false := decide_eq_false hc
      obtain rfl : i = c := by omega
      go_wp2_with fail
      refine (up_call G (Nat.le_refl _) hn i n (by omega) HS3 HB3 HU3).mono ?_
      rintro e w4 ⟨A4, rfl, S4, B4, hA4, H4, K4⟩
      have HS4 : Hid (St w4 hb ab (n + 1) (n + 1) R due A4) := S4
      have HB4 : Hid (Bij (n + 1) A4) := B4
      have HA4 : Hid (A4 n = A i) := hA4.trans HA3.out
      have HH4 : Hid (Heap (fun t => due (A4 t)) n) := H4
      have HK4 : Hid (Kept hb ab (n + 1) R w w4) := HK3.out.trans K4
      clear S4 B4 hA4 H4 K4
      go_wp2_with fail
      refine (pop_call G.out HB4.out (Nat.le_refl _) hn HS4.out).mono ?_
      rintro e w5 ⟨rfl, S5, R5, K5⟩
      have HS5 : Hid (St w5 hb ab (n + 1) n R due A4) := S5
      have HR5 : Hid (Rep w5 (R (A i)) (due (A i)) (-1)) := by rw [← HA4.out]; exact R5
      have HK5 : Hid (Kept hb ab (n + 1) R w w5) := HK4.out.trans K5
      clear S5 R5 K5
      go_wp2_with fail
      go_ret
      exact ⟨_, A4, rfl, HS5.out, HB4.out, HA4.out, HH4.out, HR5.out, HK5.out⟩
end Go.Proofs.Qxb6615564a
