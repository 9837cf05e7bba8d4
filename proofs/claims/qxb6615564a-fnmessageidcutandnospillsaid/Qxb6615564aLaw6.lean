import Derived.Test.Qxb6615564aLaw5
namespace Go.Proofs.Qxb6615564a
open Go.RowKit

theorem cut_hit (da : Option Addr) (N : Nat → ByteArray) (S E : Nat → Int) (key : ByteArray) (c n : Nat) (h : c ≤ n) (hb : laterB N key c n = true) :
    idV da (fun i => S (c + i)) (fun i => E (c + i)) (lastId (fun i => N (c + i)) key (n - c)) = idV da S E (lastId N key n) := by
  obtain ⟨d, rfl⟩ : ∃ d, n = c + d := ⟨n - c, by omega⟩
  rw [cut_later da N S E key c d, if_pos hb, show c + d - c = d by omega]
theorem cut_miss (da : Option Addr) (N : Nat → ByteArray) (S E : Nat → Int) (key : ByteArray) (c n : Nat) (h : c ≤ n) (hb : laterB N key c n = false) :
    idV da S E (lastId N key c) = idV da S E (lastId N key n) := by
  obtain ⟨d, rfl⟩ : ∃ d, n = c + d := ⟨n - c, by omega⟩
  rw [cut_later da N S E key c d, if_neg (by simp [hb])]

theorem Mems.front {w : World} {ma : Option Addr} {mb mo n c : Nat} {N : Nat → ByteArray} {S E : Nat → Int} (h : Mems w ma mb mo n N S E) (hc : c ≤ n) : Mems w ma mb mo c N S E where
  at_ h0 := h.at_ (by omega)
  nm i hi := h.nm i (by omega)
  st i hi := h.st i (by omega)
  en i hi := h.en i (by omega)
theorem Mems.back {w : World} {mb mo n c : Nat} {N : Nat → ByteArray} {S E : Nat → Int} {ma : Option Addr} (h : Mems w ma mb mo n N S E) (hc : c ≤ n) (ma' : Option Addr) (hm : c < n → ma' = some ⟨mb, mo + c * 3, none⟩) : Mems w ma' mb (mo + c * 3) (n - c) (fun i => N (c + i)) (fun i => S (c + i)) (fun i => E (c + i)) where
  at_ h0 := hm (by omega)
  nm i hi := by rw [show mo + c * 3 + i * 3 = mo + (c + i) * 3 by omega]; exact h.nm _ (by omega)
  st i hi := by rw [show mo + c * 3 + i * 3 + 1 = mo + (c + i) * 3 + 1 by omega]; exact h.st _ (by omega)
  en i hi := by rw [show mo + c * 3 + i * 3 + 2 = mo + (c + i) * 3 + 2 by omega]; exact h.en _ (by omega)

theorem app_olds {w : World} {x : Option Addr} {db vo L : Nat} {D' : Nat → Int} (hx : 0 < L → x = some ⟨db, vo, none⟩) (hc : ∀ i, i < L → w.cell? ⟨db, vo + i, none⟩ = some (.int .u8 (D' i))) (o : Obj) :
    ∀ b, x = some b → ∀ (j : Nat) (u : Value), ((List.range L).map (fun i => Value.int .u8 (D' i)))[j]? = some u → (w.alloc o).cell? (b.add j) = some u := by
  intro b hb j u hu
  have hj : j < L := by
    have := (List.getElem?_eq_some_iff.1 hu).1
    simpa using this
  have e := hx (by omega)
  rw [hb] at e
  cases e
  simp [hj] at hu
  subst hu
  have hcj := hc j hj
  have : (⟨db, vo, none⟩ : Addr).add j = ⟨db, vo + j, none⟩ := by unfold Addr.add; split <;> simp_all
  rw [this]
  exact (((Below.refl _ w).alloc (Nat.le_refl _) o).cell (lt_of_cell hcj)).trans hcj

theorem all_last (da : Option Addr) (S E : Nat → Int) (db l0 : Nat) (N : Nat → ByteArray) (n : Nat) (x : Option Addr) (L : Nat) (hn : 0 < n) (hq : ((N (n - 1)).toList == (ByteArray.toList ⟨#[105, 100]⟩)) = true)
    (hV : idV da S E (lastId N ⟨#[105, 100]⟩ n) = .slice x L L) (hda : 0 < l0 → da = some ⟨db, 0, none⟩) (ok : ∀ i, i < n → OffOk S E l0 i) :
    (0 < L → x = some ⟨db, 0 + (S (n - 1)).toNat, none⟩) ∧ L = (E (n - 1)).toNat - (S (n - 1)).toNat := by
  obtain ⟨m, rfl⟩ : ∃ m, n = m + 1 := ⟨n - 1, by omega⟩
  obtain ⟨k1, k2, k3⟩ := ok m (by omega)
  simp only [Nat.add_sub_cancel] at hq ⊢
  rw [lastId_hit hq] at hV
  simp only [idV, cutV, Value.slice.injEq] at hV
  obtain ⟨h1, h2, _⟩ := hV
  refine ⟨fun hL => ?_, h2.symm⟩
  rw [← h1, if_neg (by omega), hda (by omega)]
  simp [Addr.add]
  omega

theorem elem44 : Try.prog.elem 44 = 47 := by kernel_rfl
theorem size47 (w : World) : (sizeOf 47).run Try.prog w = .ok 3 w := by kernel_rfl
theorem slice_back (B n c : Nat) (h : c ≤ n) : ∃ ma' : Option Addr, (c < n → ma' = some ⟨B, 0 + c * 3, none⟩) ∧
    ∀ w, (Instr.slice 44 (.slice (some ⟨B, 0, none⟩) n n) (some (.int .i64 (c : Int))) none none).run Try.prog w = .ok (.slice ma' (n - c) (n - c)) w := by
  refine ⟨if n = c then some ⟨B, 0, none⟩ else (some (⟨B, 0, none⟩ : Addr)).map (·.add (c * 3)), fun hc => ?_, fun w => ?_⟩
  · rw [if_neg (by omega)]
    simp [Addr.add]
    omega
  · rw [run_slice_l w 44 (some ⟨B, 0, none⟩) n n (by rw [elem44]; exact Try.underlying44) .i64 (c : Int) (by omega) (by omega), elem44, size47]
    rfl

set_option maxHeartbeats 2000000 in
set_option maxRecDepth 100000 in
theorem law6 (a0 a1 a2 a3 : Option Addr) (l0 c0 l1 c1 l2 c2 l3 c3 b0 o0 b1 o1 b2 o2 b3 o3 : Nat) (D : Nat → Int) (N : Nat → ByteArray) (S E : Nat → Int) (c : Int) (w : World)
    (A0 : Hid (ArgB w a0 l0 c0 b0 o0 D)) (A1 : Hid (ArgS w a1 l1 b1 o1 N)) (A2 : Hid (ArgI w a2 l2 b2 o2 S)) (A3 : Hid (ArgI w a3 l3 b3 o3 E)) :
    Calls Try.prog 6 #[.slice a0 l0 c0, .slice a1 l1 c1, .slice a2 l2 c2, .slice a3 l3 c3, .int .i64 c] w fun e w' => e = .returned (.bool true) ∧ Below w.heap.size w w' := by
  go_enter Try.func6, Try.ntmps6
  go_wp2_with fail
  refine (bytes27 a0 a1 a2 a3 l0 c0 l1 c1 l2 c2 l3 c3 b1 o1 c N w A1.out.at_ A1.out.cell A1.out.size (by have := A0.out.le; have := A0.out.big; omega) A1.out.big A2.out.big A3.out.big).mono ?_
  rintro e w' ⟨⟨rfl, hN⟩ | rfl, rfl⟩
  rotate_left
  · go_wp2
    go_ret
    exact ⟨rfl, Below.refl _ _⟩
  by_cases e0 : (1048576 : Int) < (l0 : Int)
  · go_wp2
    go_ret
    exact ⟨rfl, Below.refl _ _⟩
  have e0' : decide ((1048576 : Int) < (l0 : Int)) = false := decide_eq_false e0
  by_cases e2 : (65536 : Int) < (l1 : Int)
  · go_wp2
    go_ret
    exact ⟨rfl, Below.refl _ _⟩
  have e2' : decide ((65536 : Int) < (l1 : Int)) = false := decide_eq_false e2
  by_cases e3 : (65536 : Int) < (l2 : Int)
  · go_wp2
    go_ret
    exact ⟨rfl, Below.refl _ _⟩
  have e3' : decide ((65536 : Int) < (l2 : Int)) = false := decide_eq_false e3
  by_cases e4 : (65536 : Int) < (l3 : Int)
  · go_wp2
    go_ret
    exact ⟨rfl, Below.refl _ _⟩
  have e4' : decide ((65536 : Int) < (l3 : Int)) = false := decide_eq_false e4
  by_cases e5 : (1048576 : Int) < (l0 : Int) + 8 * (l1 : Int) + 8 * (l2 : Int) + 8 * (l3 : Int)
  · go_wp2
    go_ret
    exact ⟨rfl, Below.refl _ _⟩
  have e5' : decide ((1048576 : Int) < (l0 : Int) + 8 * (l1 : Int) + 8 * (l2 : Int) + 8 * (l3 : Int)) = false := decide_eq_false e5
  go_wp2_with fail
  go_loop [11, 12] (fun z i => ∃ (k : Nat) (t : Int), k ≤ l1 ∧ i = .int .i64 k ∧ z = .int .i64 t ∧ 0 ≤ t ∧ t ≤ 1048576) (fun _ i => l1 - (intOf i).toNat)
  case atStart => exact ⟨0, _, Nat.zero_le _, rfl, rfl, by omega, by omega⟩
  case round =>
    obtain ⟨k, t, hk, rfl, rfl, t0, t1⟩ := hrel
    by_cases hlt : k < l1
    · have ha := A1.out.at_ (by omega)
      subst ha
      have hx := A1.out.cell k hlt
      have hz := hN.out k hlt
      by_cases s1 : (1048576 : Int) < t + ((N k).size : Int)
      · go_wp2
        go_ret
        exact ⟨rfl, Below.refl _ _⟩
      go_wp2
      go_round
      case rel => exact ⟨k + 1, t + ((N k).size : Int), by omega, by go_num, rfl, by omega, by omega⟩
      case measure => simp [intOf]; omega
    · go_wp2_with fail
      refine (min3_any _ _ _ _).mono ?_
      rintro e w' ⟨rfl, hw⟩
      have hw' := hw.symm
      subst hw'
      clear hw e0' e2' e3' e4' e5'
      obtain ⟨n, hn, hn1, hn2, hn3⟩ : ∃ n : Nat, min (min (l1 : Int) (l2 : Int)) (l3 : Int) = (n : Int) ∧ n ≤ l1 ∧ n ≤ l2 ∧ n ≤ l3 := ⟨min (min l1 l2) l3, by omega, by omega, by omega, by omega⟩
      rw [hn]
      clear hn
      by_cases q0 : c < 0
      · go_wp2
        go_ret
        exact ⟨rfl, Below.refl _ _⟩
      have q0' : decide (c < 0) = false := decide_eq_false q0
      by_cases q1 : (n : Int) < c
      · go_wp2
        go_ret
        exact ⟨rfl, Below.refl _ _⟩
      clear q0'
      obtain ⟨c, rfl⟩ := Int.eq_ofNat_of_zero_le (show 0 ≤ c by omega)
      have q1' : decide ((n : Int) < (c : Int)) = false := decide_eq_false q1
      have q0'' : decide ((c : Int) < 0) = false := decide_eq_false q0
      go_wp2_with fail
      refine (offsets_any a2 a3 b2 o2 b3 o3 l2 c2 l3 c3 S E n l0 w hn2 hn3 (by omega) A2.out.at_ A3.out.at_ A2.out.cell A3.out.cell).mono ?_
      rintro e w' ⟨r, rfl, hok, m, rfl⟩
      cases r
      · go_wp2
        go_ret
        exact ⟨rfl, (Below.refl _ _).drewN _⟩
      have Hok : Hid (∀ i, i < n → OffOk S E l0 i) := hok rfl
      clear hok q0'' q1'
      go_wp2_with fail
      refine (clone_any a0 l0 c0 b0 o0 D _ (A0.out.below ((Below.refl _ _).drewN _)) (by omega)).mono ?_
      rintro e w1 ⟨da, db, rfl, Hda, Hdc, hb1⟩
      have HB1 : Hid (Below w.heap.size w w1) := ((Below.refl _ _).drewN _).trans hb1
      have A1' := A1.out.below HB1.out
      have A2' := A2.out.below HB1.out
      have A3' := A3.out.below HB1.out
      clear hb1
      go_wp2_with fail
      refine (members_any a1 a2 a3 b1 o1 b2 o2 b3 o3 l1 c1 l2 c2 l3 c3 N S E n w1 hn1 hn2 hn3 (by omega) A1'.at_ A2'.at_ A3'.at_ A1'.cell A2'.cell A3'.cell).mono ?_
      clear A1' A2' A3'
      rintro e w2 ⟨rfl, hb2, hs2, hr2⟩
      have HW : Hid (Below w.heap.size w w2) := HB1.out.trans (hb2.mono HB1.out.size)
      have HM : Hid (Mems w2 (some ⟨w1.heap.size, 0, none⟩) w1.heap.size 0 n N S E) := mems_of_row hr2
      have Hdc2 : Hid (∀ i, i < l0 → w2.cell? ⟨db, 0 + i, none⟩ = some (.int .u8 (D i))) := fun i hi => (hb2.cell (lt_of_cell (Hdc.out i hi))).trans (Hdc.out i hi)
      clear hb2 hr2 HB1 Hdc
      obtain ⟨x, L, vo, D', hV, hL, Hx, Hxc⟩ := idV_shape da db 0 l0 D w2 S E n (lastId N ⟨#[105, 100]⟩ n) (fun i hi => lastId_lt hi) Hok.out Hda.out Hdc2.out
      have HV : Hid (idV da S E (lastId N ⟨#[105, 100]⟩ n) = .slice x L L) := hV
      have HHx : Hid (0 < L → x = some ⟨db, vo, none⟩) := Hx
      have HHxc : Hid (∀ i, i < L → w2.cell? ⟨db, vo + i, none⟩ = some (.int .u8 (D' i))) := Hxc
      clear Hx Hxc hV
      have hcn : c ≤ n := by omega
      go_wp2_with fail
      refine (newMsg _ _ _ _ _ _ _).mono ?_
      rintro e w3 ⟨rfl, hb3⟩
      have HB3 : Hid (Below w2.heap.size w2 w3) := hb3
      clear hb3
      go_wp2_with fail
      refine (mid_any da (some ⟨w1.heap.size, 0, none⟩) l0 l0 w1.heap.size 0 n n N S E w3 (by omega) (Nat.le_refl _) _ _ _ _ _ _ (HM.out.below HB3.out) Hok).mono ?_
      rintro e w4 ⟨rfl, hb4⟩
      have HB4 : Hid (Below w2.heap.size w2 w4) := HB3.out.trans (hb4.mono HB3.out.size)
      clear hb4 HB3
      rw [HV.out]
      go_wp2_with fail
      refine (newMsg _ _ _ _ _ _ _).mono ?_
      rintro e w5 ⟨rfl, hb5⟩
      have HB5 : Hid (Below w2.heap.size w2 w5) := HB4.out.trans (hb5.mono HB4.out.size)
      clear hb5 HB4
      go_wp2_with fail
      refine (mid_any da (some ⟨w1.heap.size, 0, none⟩) l0 l0 w1.heap.size 0 c n N S E w5 (by omega) (Nat.le_refl _) _ _ _ _ _ _ ((HM.out.front hcn).below HB5.out) (fun i hi => Hok.out i (by omega))).mono ?_
      rintro e w6 ⟨rfl, hb6⟩
      have HB6 : Hid (Below w2.heap.size w2 w6) := HB5.out.trans (hb6.mono HB5.out.size)
      clear hb6 HB5
      obtain ⟨ma', Hma, hsl⟩ := slice_back w1.heap.size n c hcn
      have HHma : Hid (c < n → ma' = some ⟨w1.heap.size, 0 + c * 3, none⟩) := Hma
      clear Hma
      go_wp2_with fail
      refine (newMsg _ _ _ _ _ _ _).mono ?_
      rintro e w7 ⟨rfl, hb7⟩
      have HB7 : Hid (Below w2.heap.size w2 w7) := HB6.out.trans (hb7.mono HB6.out.size)
      clear hb7 HB6
      go_wp2_with fail
      refine (mid_any da ma' l0 l0 w1.heap.size (0 + c * 3) (n - c) (n - c) (fun i => N (c + i)) (fun i => S (c + i)) (fun i => E (c + i)) w7 (by omega) (Nat.le_refl _) _ _ _ _ _ _ ((HM.out.back hcn ma' HHma.out).below HB7.out) (fun i hi => Hok.out (c + i) (by omega))).mono ?_
      rintro e w8 ⟨rfl, hb8⟩
      have HB8 : Hid (Below w2.heap.size w2 w8) := HB7.out.trans (hb8.mono HB7.out.size)
      clear hb8 HB7 hsl
      have A1' : Hid (ArgS w8 a1 l1 b1 o1 N) := (A1.out.below HW.out).below HB8.out
      have A2' : Hid (ArgI w8 a2 l2 b2 o2 S) := (A2.out.below HW.out).below HB8.out
      have A3' : Hid (ArgI w8 a3 l3 b3 o3 E) := (A3.out.below HW.out).below HB8.out
      have Hdc8 : Hid (∀ i, i < l0 → w8.cell? ⟨db, 0 + i, none⟩ = some (.int .u8 (D i))) := fun i hi => (HB8.out.cell (lt_of_cell (Hdc2.out i hi))).trans (Hdc2.out i hi)
      have Hxc8 : Hid (∀ i, i < L → w8.cell? ⟨db, vo + i, none⟩ = some (.int .u8 (D' i))) := fun i hi => (HB8.out.cell (lt_of_cell (HHxc.out i hi))).trans (HHxc.out i hi)
      have HBf : Hid (Below w.heap.size w w8) := HW.out.trans (HB8.out.mono HW.out.size)
      clear Hdc2 HHxc HW HB8 HM
      go_wp2_with fail
      go_loop [18, 19] (fun z i => ∃ k : Nat, c ≤ k ∧ k ≤ n ∧ i = .int .i64 k ∧ z = .bool (laterB N ⟨#[105, 100]⟩ c k)) (fun _ i => n - (intOf i).toNat)
      case atStart => exact ⟨c, Nat.le_refl _, hcn, rfl, by rw [laterB_low (Nat.le_refl _)]⟩
      case round =>
        obtain ⟨k4, hk4, hk4', rfl, rfl⟩ := hrel
        by_cases hlt4 : k4 < n
        · have ha := A1'.out.at_ (by omega)
          subst ha
          have hx4 := A1'.out.cell k4 (by omega)
          cases hq4 : ((N k4).toList == [105, 100])
          · have HS : Hid (laterB N ⟨#[105, 100]⟩ c (k4 + 1) = laterB N ⟨#[105, 100]⟩ c k4) := laterB_miss (by rw [idL]; exact hq4)
            go_wp2
            go_round
            case rel => exact ⟨k4 + 1, by omega, by omega, by go_num, by rw [HS.out]⟩
            case measure => simp [intOf]; omega
          · have HS : Hid (laterB N ⟨#[105, 100]⟩ c (k4 + 1) = true) := laterB_hit hk4 (by rw [idL]; exact hq4)
            go_wp2
            go_round
            case rel => exact ⟨k4 + 1, by omega, by omega, by go_num, by rw [HS.out]⟩
            case measure => simp [intOf]; omega
        · obtain rfl : n = k4 := by omega
          have hn48 := fun w => Lib.run_eql_slice_nil (P := Try.prog) w 48 5 x L L 0 0 Try.underlying48
          obtain ⟨i0, hi, hz0, hz1, hz2⟩ := info_parts Try.info5
          have HNone : Hid (x = none → L = 0 ∧ L = 0) := fun hx => by
            by_cases h : 0 < L
            · have := HHx.out h; rw [hx] at this; cases this
            · omega
          have HDA : ∀ m, Hid (ArgB (w8.drewN m) da l0 l0 db 0 D) := fun m => ⟨fun hd => by
            by_cases h : 0 < l0
            · have := Hda.out h; rw [hd] at this; cases this
            · omega, Nat.le_refl _, by omega, Hda.out, Hdc8.out⟩
          cases hlat : laterB N ⟨#[105, 100]⟩ c n
          · rw [cut_miss da N S E _ c n hcn hlat, HV.out]
            clear hlat
            go_wp2_with fail
            refine (same_true x x db vo db vo L L L D' w8 HHx.out HHx.out (by omega) Hxc8.out Hxc8.out).mono ?_
            rintro e w9 ⟨rfl, m9, rfl⟩
            by_cases hn0 : n = 0
            · have hn0' : decide ((0 : Int) < (n : Int)) = false := decide_eq_false (by omega)
              go_wp2_with fail
              refine (clone_any da l0 l0 db 0 D _ (HDA _) (by omega)).mono ?_
              rintro e w10 ⟨da', db', rfl, Hda', Hdc', hb10⟩
              have HB10 : Hid (Below w8.heap.size w8 w10) := ((Below.refl _ w8).drewN _).trans hb10
              clear hb10
              have HDC10 : Hid (∀ i, i < l0 → w10.cell? ⟨db, 0 + i, none⟩ = some (.int .u8 (D i))) := fun i hi => (HB10.out.cell (lt_of_cell (Hdc8.out i hi))).trans (Hdc8.out i hi)
              have HXC10 : Hid (∀ i, i < L → w10.cell? ⟨db, vo + i, none⟩ = some (.int .u8 (D' i))) := fun i hi => (HB10.out.cell (lt_of_cell (Hxc8.out i hi))).trans (Hxc8.out i hi)
              go_wp2_with (at_builtin; refine wpList_append_grows _ rfl (.tmp 183) (.tmp 184) 48 rfl 5 i0 (.int .u8 0) 1 1 Try.underlying48 hi hz0 hz1 hz2 rfl (by decide) x L L ((List.range L).map (fun i => .int .u8 (D' i))) rfl ?hnone ?hlo ?holds ⟨w10.heap.size, 0, none⟩ 1 1 [.int .u8 90] rfl rfl ?c1 ?c2 (by omega) (by unfold maxLen; omega) (by omega) ?grow)
              case hnone => exact HNone.out
              case hlo => simp
              case holds => exact app_olds HHx.out HXC10.out _
              case c1 => intro j u hj; match j, hj with | 0, hj => simp at hj; subst hj; simp [Addr.add]
              case c2 => intro u hu; simp at hu; subst hu; rfl
              case grow =>
                intro v' w11 hown hgrow
                obtain ⟨_, ⟨_, h0⟩ | ⟨g, cp, cur, hv', _, _, _, _, _, _⟩⟩ := hown
                · omega
                rw [hv']
                clear hv'
                have HB11 : Hid (Below w10.heap.size w10 w11) := ((Below.refl _ _).alloc (Nat.le_refl _) _).grown hgrow (by simp) (fun k h => by cases h)
                clear hgrow
                go_wp2_with fail
                refine (same_true da da' db 0 db' 0 l0 l0 l0 D w11 Hda.out Hda'.out (by omega) (fun i hi => (HB11.out.cell (lt_of_cell (HDC10.out i hi))).trans (HDC10.out i hi)) (fun i hi => (HB11.out.cell (lt_of_cell (Hdc'.out i hi))).trans (Hdc'.out i hi))).mono ?_
                rintro e w12 ⟨rfl, m12, rfl⟩
                go_wp2
                go_ret
                exact ⟨rfl, (HBf.out.trans ((HB10.out.trans (HB11.out.mono HB10.out.size)).mono HBf.out.size)).drewN _⟩
            have ha1 := A1'.out.at_ (by omega)
            have ha2 := A2'.out.at_ (by omega)
            have ha3 := A3'.out.at_ (by omega)
            subst ha1 ha2 ha3
            have hN1 := A1'.out.cell (n - 1) (by omega)
            have hS1 := A2'.out.cell (n - 1) (by omega)
            have hE1 := A3'.out.cell (n - 1) (by omega)
            have hn0' : (0 : Int) < (n : Int) := by omega
            have hi1 : (n : Int) - 1 < (l1 : Int) := by omega
            have hi2 : (n : Int) - 1 < (l2 : Int) := by omega
            have hi3 : (n : Int) - 1 < (l3 : Int) := by omega
            cases hlast : ((N (n - 1)).toList == [105, 100])
            · go_wp2_with fail
              refine (clone_any da l0 l0 db 0 D _ (HDA _) (by omega)).mono ?_
              rintro e w10 ⟨da', db', rfl, Hda', Hdc', hb10⟩
              have HB10 : Hid (Below w8.heap.size w8 w10) := ((Below.refl _ w8).drewN _).trans hb10
              clear hb10
              have HDC10 : Hid (∀ i, i < l0 → w10.cell? ⟨db, 0 + i, none⟩ = some (.int .u8 (D i))) := fun i hi => (HB10.out.cell (lt_of_cell (Hdc8.out i hi))).trans (Hdc8.out i hi)
              have HXC10 : Hid (∀ i, i < L → w10.cell? ⟨db, vo + i, none⟩ = some (.int .u8 (D' i))) := fun i hi => (HB10.out.cell (lt_of_cell (Hxc8.out i hi))).trans (Hxc8.out i hi)
              go_wp2_with (at_builtin; refine wpList_append_grows _ rfl (.tmp 183) (.tmp 184) 48 rfl 5 i0 (.int .u8 0) 1 1 Try.underlying48 hi hz0 hz1 hz2 rfl (by decide) x L L ((List.range L).map (fun i => .int .u8 (D' i))) rfl ?hnone ?hlo ?holds ⟨w10.heap.size, 0, none⟩ 1 1 [.int .u8 90] rfl rfl ?c1 ?c2 (by omega) (by unfold maxLen; omega) (by omega) ?grow)
              case hnone => exact HNone.out
              case hlo => simp
              case holds => exact app_olds HHx.out HXC10.out _
              case c1 => intro j u hj; match j, hj with | 0, hj => simp at hj; subst hj; simp [Addr.add]
              case c2 => intro u hu; simp at hu; subst hu; rfl
              case grow =>
                intro v' w11 hown hgrow
                obtain ⟨_, ⟨_, h0⟩ | ⟨g, cp, cur, hv', _, _, _, _, _, _⟩⟩ := hown
                · omega
                rw [hv']
                clear hv'
                have HB11 : Hid (Below w10.heap.size w10 w11) := ((Below.refl _ _).alloc (Nat.le_refl _) _).grown hgrow (by simp) (fun k h => by cases h)
                clear hgrow
                go_wp2_with fail
                refine (same_true da da' db 0 db' 0 l0 l0 l0 D w11 Hda.out Hda'.out (by omega) (fun i hi => (HB11.out.cell (lt_of_cell (HDC10.out i hi))).trans (HDC10.out i hi)) (fun i hi => (HB11.out.cell (lt_of_cell (Hdc'.out i hi))).trans (Hdc'.out i hi))).mono ?_
                rintro e w12 ⟨rfl, m12, rfl⟩
                go_wp2
                go_ret
                exact ⟨rfl, (HBf.out.trans ((HB10.out.trans (HB11.out.mono HB10.out.size)).mono HBf.out.size)).drewN _⟩
            obtain ⟨Hx2, HL2⟩ := all_last da S E db l0 N n x L (by omega) (by rw [idL]; exact hlast) HV.out Hda.out Hok.out
            obtain ⟨k1, k2, k3⟩ := Hok.out (n - 1) (by omega)
            have HHL : Hid (L = (E (n - 1)).toNat - (S (n - 1)).toNat) := HL2
            have HHx2 : Hid (0 < L → x = some ⟨db, 0 + (S (n - 1)).toNat, none⟩) := Hx2
            clear HL2 Hx2
            by_cases hz : (S (n - 1)).toNat = l0
            · have hcall : Hid (∀ q, Calls Try.prog 26 #[.slice x L L, .slice da 0 0] (w8.drewN (m9 + q)) fun e w'' => e = .returned (.bool true) ∧ ∃ r, w'' = w8.drewN (m9 + r)) := fun q => by
                have h0 : L = 0 := by have := HHL.out; omega
                have h := same_true x da db (0 + (S (n - 1)).toNat) db (0 + (S (n - 1)).toNat) L L 0 (fun i => D ((S (n - 1)).toNat + i)) (w8.drewN (m9 + q)) HHx2.out (fun h => absurd h (by omega)) (by omega) (fun i hi => absurd hi (by omega)) (fun i hi => absurd hi (by omega))
                rw [h0] at h ⊢
                refine h.mono ?_
                rintro e w' ⟨rfl, r, rfl⟩
                exact ⟨rfl, q + r, by rw [drewN_two, Nat.add_assoc]⟩
              go_wp2_with fail
              go_quiet ((go_at_call 26; exact hcall.out _))
              clear hcall
              go_wp2_with fail
              refine (clone_any da l0 l0 db 0 D _ (HDA _) (by omega)).mono ?_
              rintro e w10 ⟨da', db', rfl, Hda', Hdc', hb10⟩
              have HB10 : Hid (Below w8.heap.size w8 w10) := ((Below.refl _ w8).drewN _).trans hb10
              clear hb10
              have HDC10 : Hid (∀ i, i < l0 → w10.cell? ⟨db, 0 + i, none⟩ = some (.int .u8 (D i))) := fun i hi => (HB10.out.cell (lt_of_cell (Hdc8.out i hi))).trans (Hdc8.out i hi)
              have HXC10 : Hid (∀ i, i < L → w10.cell? ⟨db, vo + i, none⟩ = some (.int .u8 (D' i))) := fun i hi => (HB10.out.cell (lt_of_cell (Hxc8.out i hi))).trans (Hxc8.out i hi)
              go_wp2_with (at_builtin; refine wpList_append_grows _ rfl (.tmp 183) (.tmp 184) 48 rfl 5 i0 (.int .u8 0) 1 1 Try.underlying48 hi hz0 hz1 hz2 rfl (by decide) x L L ((List.range L).map (fun i => .int .u8 (D' i))) rfl ?hnone ?hlo ?holds ⟨w10.heap.size, 0, none⟩ 1 1 [.int .u8 90] rfl rfl ?c1 ?c2 (by omega) (by unfold maxLen; omega) (by omega) ?grow)
              case hnone => exact HNone.out
              case hlo => simp
              case holds => exact app_olds HHx.out HXC10.out _
              case c1 => intro j u hj; match j, hj with | 0, hj => simp at hj; subst hj; simp [Addr.add]
              case c2 => intro u hu; simp at hu; subst hu; rfl
              case grow =>
                intro v' w11 hown hgrow
                obtain ⟨_, ⟨_, h0⟩ | ⟨g, cp, cur, hv', _, _, _, _, _, _⟩⟩ := hown
                · omega
                rw [hv']
                clear hv'
                have HB11 : Hid (Below w10.heap.size w10 w11) := ((Below.refl _ _).alloc (Nat.le_refl _) _).grown hgrow (by simp) (fun k h => by cases h)
                clear hgrow
                go_wp2_with fail
                refine (same_true da da' db 0 db' 0 l0 l0 l0 D w11 Hda.out Hda'.out (by omega) (fun i hi => (HB11.out.cell (lt_of_cell (HDC10.out i hi))).trans (HDC10.out i hi)) (fun i hi => (HB11.out.cell (lt_of_cell (Hdc'.out i hi))).trans (Hdc'.out i hi))).mono ?_
                rintro e w12 ⟨rfl, m12, rfl⟩
                go_wp2
                go_ret
                exact ⟨rfl, (HBf.out.trans ((HB10.out.trans (HB11.out.mono HB10.out.size)).mono HBf.out.size)).drewN _⟩
            · have hz' : ¬ l0 = (S (n - 1)).toNat := fun h => hz h.symm
              have hcall : Hid (∀ q, Calls Try.prog 26 #[.slice x L L, .slice (Option.map (fun x => x.add (S (n - 1)).toNat) da) ((E (n - 1)).toNat - (S (n - 1)).toNat) (l0 - (S (n - 1)).toNat)] (w8.drewN (m9 + q)) fun e w'' => e = .returned (.bool true) ∧ ∃ r, w'' = w8.drewN (m9 + r)) := fun q => by
                rw [← HHL.out]
                have HC : ∀ i, i < L → (w8.drewN (m9 + q)).cell? ⟨db, 0 + (S (n - 1)).toNat + i, none⟩ = some (.int .u8 (D ((S (n - 1)).toNat + i))) := fun i hi => by
                  rw [Nat.add_assoc]
                  exact Hdc8.out _ (by have := HHL.out; omega)
                refine (same_true x _ db (0 + (S (n - 1)).toNat) db (0 + (S (n - 1)).toNat) L L _ (fun i => D ((S (n - 1)).toNat + i)) (w8.drewN (m9 + q)) HHx2.out (fun h => by rw [Hda.out (by have := HHL.out; omega)]; simp [Addr.add]; omega) (by omega) HC HC).mono ?_
                rintro e w' ⟨rfl, r, rfl⟩
                exact ⟨rfl, q + r, by rw [drewN_two, Nat.add_assoc]⟩
              go_wp2_with fail
              go_quiet ((go_at_call 26; exact hcall.out _))
              clear hcall
              go_wp2_with fail
              refine (clone_any da l0 l0 db 0 D _ (HDA _) (by omega)).mono ?_
              rintro e w10 ⟨da', db', rfl, Hda', Hdc', hb10⟩
              have HB10 : Hid (Below w8.heap.size w8 w10) := ((Below.refl _ w8).drewN _).trans hb10
              clear hb10
              have HDC10 : Hid (∀ i, i < l0 → w10.cell? ⟨db, 0 + i, none⟩ = some (.int .u8 (D i))) := fun i hi => (HB10.out.cell (lt_of_cell (Hdc8.out i hi))).trans (Hdc8.out i hi)
              have HXC10 : Hid (∀ i, i < L → w10.cell? ⟨db, vo + i, none⟩ = some (.int .u8 (D' i))) := fun i hi => (HB10.out.cell (lt_of_cell (Hxc8.out i hi))).trans (Hxc8.out i hi)
              go_wp2_with (at_builtin; refine wpList_append_grows _ rfl (.tmp 183) (.tmp 184) 48 rfl 5 i0 (.int .u8 0) 1 1 Try.underlying48 hi hz0 hz1 hz2 rfl (by decide) x L L ((List.range L).map (fun i => .int .u8 (D' i))) rfl ?hnone ?hlo ?holds ⟨w10.heap.size, 0, none⟩ 1 1 [.int .u8 90] rfl rfl ?c1 ?c2 (by omega) (by unfold maxLen; omega) (by omega) ?grow)
              case hnone => exact HNone.out
              case hlo => simp
              case holds => exact app_olds HHx.out HXC10.out _
              case c1 => intro j u hj; match j, hj with | 0, hj => simp at hj; subst hj; simp [Addr.add]
              case c2 => intro u hu; simp at hu; subst hu; rfl
              case grow =>
                intro v' w11 hown hgrow
                obtain ⟨_, ⟨_, h0⟩ | ⟨g, cp, cur, hv', _, _, _, _, _, _⟩⟩ := hown
                · omega
                rw [hv']
                clear hv'
                have HB11 : Hid (Below w10.heap.size w10 w11) := ((Below.refl _ _).alloc (Nat.le_refl _) _).grown hgrow (by simp) (fun k h => by cases h)
                clear hgrow
                go_wp2_with fail
                refine (same_true da da' db 0 db' 0 l0 l0 l0 D w11 Hda.out Hda'.out (by omega) (fun i hi => (HB11.out.cell (lt_of_cell (HDC10.out i hi))).trans (HDC10.out i hi)) (fun i hi => (HB11.out.cell (lt_of_cell (Hdc'.out i hi))).trans (Hdc'.out i hi))).mono ?_
                rintro e w12 ⟨rfl, m12, rfl⟩
                go_wp2
                go_ret
                exact ⟨rfl, (HBf.out.trans ((HB10.out.trans (HB11.out.mono HB10.out.size)).mono HBf.out.size)).drewN _⟩
          · rw [cut_hit da N S E _ c n hcn hlat, HV.out]
            clear hlat
            go_wp2_with fail
            refine (same_true x x db vo db vo L L L D' w8 HHx.out HHx.out (by omega) Hxc8.out Hxc8.out).mono ?_
            rintro e w9 ⟨rfl, m9, rfl⟩
            by_cases hn0 : n = 0
            · have hn0' : decide ((0 : Int) < (n : Int)) = false := decide_eq_false (by omega)
              go_wp2_with fail
              refine (clone_any da l0 l0 db 0 D _ (HDA _) (by omega)).mono ?_
              rintro e w10 ⟨da', db', rfl, Hda', Hdc', hb10⟩
              have HB10 : Hid (Below w8.heap.size w8 w10) := ((Below.refl _ w8).drewN _).trans hb10
              clear hb10
              have HDC10 : Hid (∀ i, i < l0 → w10.cell? ⟨db, 0 + i, none⟩ = some (.int .u8 (D i))) := fun i hi => (HB10.out.cell (lt_of_cell (Hdc8.out i hi))).trans (Hdc8.out i hi)
              have HXC10 : Hid (∀ i, i < L → w10.cell? ⟨db, vo + i, none⟩ = some (.int .u8 (D' i))) := fun i hi => (HB10.out.cell (lt_of_cell (Hxc8.out i hi))).trans (Hxc8.out i hi)
              go_wp2_with (at_builtin; refine wpList_append_grows _ rfl (.tmp 183) (.tmp 184) 48 rfl 5 i0 (.int .u8 0) 1 1 Try.underlying48 hi hz0 hz1 hz2 rfl (by decide) x L L ((List.range L).map (fun i => .int .u8 (D' i))) rfl ?hnone ?hlo ?holds ⟨w10.heap.size, 0, none⟩ 1 1 [.int .u8 90] rfl rfl ?c1 ?c2 (by omega) (by unfold maxLen; omega) (by omega) ?grow)
              case hnone => exact HNone.out
              case hlo => simp
              case holds => exact app_olds HHx.out HXC10.out _
              case c1 => intro j u hj; match j, hj with | 0, hj => simp at hj; subst hj; simp [Addr.add]
              case c2 => intro u hu; simp at hu; subst hu; rfl
              case grow =>
                intro v' w11 hown hgrow
                obtain ⟨_, ⟨_, h0⟩ | ⟨g, cp, cur, hv', _, _, _, _, _, _⟩⟩ := hown
                · omega
                rw [hv']
                clear hv'
                have HB11 : Hid (Below w10.heap.size w10 w11) := ((Below.refl _ _).alloc (Nat.le_refl _) _).grown hgrow (by simp) (fun k h => by cases h)
                clear hgrow
                go_wp2_with fail
                refine (same_true da da' db 0 db' 0 l0 l0 l0 D w11 Hda.out Hda'.out (by omega) (fun i hi => (HB11.out.cell (lt_of_cell (HDC10.out i hi))).trans (HDC10.out i hi)) (fun i hi => (HB11.out.cell (lt_of_cell (Hdc'.out i hi))).trans (Hdc'.out i hi))).mono ?_
                rintro e w12 ⟨rfl, m12, rfl⟩
                go_wp2
                go_ret
                exact ⟨rfl, (HBf.out.trans ((HB10.out.trans (HB11.out.mono HB10.out.size)).mono HBf.out.size)).drewN _⟩
            have ha1 := A1'.out.at_ (by omega)
            have ha2 := A2'.out.at_ (by omega)
            have ha3 := A3'.out.at_ (by omega)
            subst ha1 ha2 ha3
            have hN1 := A1'.out.cell (n - 1) (by omega)
            have hS1 := A2'.out.cell (n - 1) (by omega)
            have hE1 := A3'.out.cell (n - 1) (by omega)
            have hn0' : (0 : Int) < (n : Int) := by omega
            have hi1 : (n : Int) - 1 < (l1 : Int) := by omega
            have hi2 : (n : Int) - 1 < (l2 : Int) := by omega
            have hi3 : (n : Int) - 1 < (l3 : Int) := by omega
            cases hlast : ((N (n - 1)).toList == [105, 100])
            · go_wp2_with fail
              refine (clone_any da l0 l0 db 0 D _ (HDA _) (by omega)).mono ?_
              rintro e w10 ⟨da', db', rfl, Hda', Hdc', hb10⟩
              have HB10 : Hid (Below w8.heap.size w8 w10) := ((Below.refl _ w8).drewN _).trans hb10
              clear hb10
              have HDC10 : Hid (∀ i, i < l0 → w10.cell? ⟨db, 0 + i, none⟩ = some (.int .u8 (D i))) := fun i hi => (HB10.out.cell (lt_of_cell (Hdc8.out i hi))).trans (Hdc8.out i hi)
              have HXC10 : Hid (∀ i, i < L → w10.cell? ⟨db, vo + i, none⟩ = some (.int .u8 (D' i))) := fun i hi => (HB10.out.cell (lt_of_cell (Hxc8.out i hi))).trans (Hxc8.out i hi)
              go_wp2_with (at_builtin; refine wpList_append_grows _ rfl (.tmp 183) (.tmp 184) 48 rfl 5 i0 (.int .u8 0) 1 1 Try.underlying48 hi hz0 hz1 hz2 rfl (by decide) x L L ((List.range L).map (fun i => .int .u8 (D' i))) rfl ?hnone ?hlo ?holds ⟨w10.heap.size, 0, none⟩ 1 1 [.int .u8 90] rfl rfl ?c1 ?c2 (by omega) (by unfold maxLen; omega) (by omega) ?grow)
              case hnone => exact HNone.out
              case hlo => simp
              case holds => exact app_olds HHx.out HXC10.out _
              case c1 => intro j u hj; match j, hj with | 0, hj => simp at hj; subst hj; simp [Addr.add]
              case c2 => intro u hu; simp at hu; subst hu; rfl
              case grow =>
                intro v' w11 hown hgrow
                obtain ⟨_, ⟨_, h0⟩ | ⟨g, cp, cur, hv', _, _, _, _, _, _⟩⟩ := hown
                · omega
                rw [hv']
                clear hv'
                have HB11 : Hid (Below w10.heap.size w10 w11) := ((Below.refl _ _).alloc (Nat.le_refl _) _).grown hgrow (by simp) (fun k h => by cases h)
                clear hgrow
                go_wp2_with fail
                refine (same_true da da' db 0 db' 0 l0 l0 l0 D w11 Hda.out Hda'.out (by omega) (fun i hi => (HB11.out.cell (lt_of_cell (HDC10.out i hi))).trans (HDC10.out i hi)) (fun i hi => (HB11.out.cell (lt_of_cell (Hdc'.out i hi))).trans (Hdc'.out i hi))).mono ?_
                rintro e w12 ⟨rfl, m12, rfl⟩
                go_wp2
                go_ret
                exact ⟨rfl, (HBf.out.trans ((HB10.out.trans (HB11.out.mono HB10.out.size)).mono HBf.out.size)).drewN _⟩
            obtain ⟨Hx2, HL2⟩ := all_last da S E db l0 N n x L (by omega) (by rw [idL]; exact hlast) HV.out Hda.out Hok.out
            obtain ⟨k1, k2, k3⟩ := Hok.out (n - 1) (by omega)
            have HHL : Hid (L = (E (n - 1)).toNat - (S (n - 1)).toNat) := HL2
            have HHx2 : Hid (0 < L → x = some ⟨db, 0 + (S (n - 1)).toNat, none⟩) := Hx2
            clear HL2 Hx2
            by_cases hz : (S (n - 1)).toNat = l0
            · have hcall : Hid (∀ q, Calls Try.prog 26 #[.slice x L L, .slice da 0 0] (w8.drewN (m9 + q)) fun e w'' => e = .returned (.bool true) ∧ ∃ r, w'' = w8.drewN (m9 + r)) := fun q => by
                have h0 : L = 0 := by have := HHL.out; omega
                have h := same_true x da db (0 + (S (n - 1)).toNat) db (0 + (S (n - 1)).toNat) L L 0 (fun i => D ((S (n - 1)).toNat + i)) (w8.drewN (m9 + q)) HHx2.out (fun h => absurd h (by omega)) (by omega) (fun i hi => absurd hi (by omega)) (fun i hi => absurd hi (by omega))
                rw [h0] at h ⊢
                refine h.mono ?_
                rintro e w' ⟨rfl, r, rfl⟩
                exact ⟨rfl, q + r, by rw [drewN_two, Nat.add_assoc]⟩
              go_wp2_with fail
              go_quiet ((go_at_call 26; exact hcall.out _))
              clear hcall
              go_wp2_with fail
              refine (clone_any da l0 l0 db 0 D _ (HDA _) (by omega)).mono ?_
              rintro e w10 ⟨da', db', rfl, Hda', Hdc', hb10⟩
              have HB10 : Hid (Below w8.heap.size w8 w10) := ((Below.refl _ w8).drewN _).trans hb10
              clear hb10
              have HDC10 : Hid (∀ i, i < l0 → w10.cell? ⟨db, 0 + i, none⟩ = some (.int .u8 (D i))) := fun i hi => (HB10.out.cell (lt_of_cell (Hdc8.out i hi))).trans (Hdc8.out i hi)
              have HXC10 : Hid (∀ i, i < L → w10.cell? ⟨db, vo + i, none⟩ = some (.int .u8 (D' i))) := fun i hi => (HB10.out.cell (lt_of_cell (Hxc8.out i hi))).trans (Hxc8.out i hi)
              go_wp2_with (at_builtin; refine wpList_append_grows _ rfl (.tmp 183) (.tmp 184) 48 rfl 5 i0 (.int .u8 0) 1 1 Try.underlying48 hi hz0 hz1 hz2 rfl (by decide) x L L ((List.range L).map (fun i => .int .u8 (D' i))) rfl ?hnone ?hlo ?holds ⟨w10.heap.size, 0, none⟩ 1 1 [.int .u8 90] rfl rfl ?c1 ?c2 (by omega) (by unfold maxLen; omega) (by omega) ?grow)
              case hnone => exact HNone.out
              case hlo => simp
              case holds => exact app_olds HHx.out HXC10.out _
              case c1 => intro j u hj; match j, hj with | 0, hj => simp at hj; subst hj; simp [Addr.add]
              case c2 => intro u hu; simp at hu; subst hu; rfl
              case grow =>
                intro v' w11 hown hgrow
                obtain ⟨_, ⟨_, h0⟩ | ⟨g, cp, cur, hv', _, _, _, _, _, _⟩⟩ := hown
                · omega
                rw [hv']
                clear hv'
                have HB11 : Hid (Below w10.heap.size w10 w11) := ((Below.refl _ _).alloc (Nat.le_refl _) _).grown hgrow (by simp) (fun k h => by cases h)
                clear hgrow
                go_wp2_with fail
                refine (same_true da da' db 0 db' 0 l0 l0 l0 D w11 Hda.out Hda'.out (by omega) (fun i hi => (HB11.out.cell (lt_of_cell (HDC10.out i hi))).trans (HDC10.out i hi)) (fun i hi => (HB11.out.cell (lt_of_cell (Hdc'.out i hi))).trans (Hdc'.out i hi))).mono ?_
                rintro e w12 ⟨rfl, m12, rfl⟩
                go_wp2
                go_ret
                exact ⟨rfl, (HBf.out.trans ((HB10.out.trans (HB11.out.mono HB10.out.size)).mono HBf.out.size)).drewN _⟩
            · have hz' : ¬ l0 = (S (n - 1)).toNat := fun h => hz h.symm
              have hcall : Hid (∀ q, Calls Try.prog 26 #[.slice x L L, .slice (Option.map (fun x => x.add (S (n - 1)).toNat) da) ((E (n - 1)).toNat - (S (n - 1)).toNat) (l0 - (S (n - 1)).toNat)] (w8.drewN (m9 + q)) fun e w'' => e = .returned (.bool true) ∧ ∃ r, w'' = w8.drewN (m9 + r)) := fun q => by
                rw [← HHL.out]
                have HC : ∀ i, i < L → (w8.drewN (m9 + q)).cell? ⟨db, 0 + (S (n - 1)).toNat + i, none⟩ = some (.int .u8 (D ((S (n - 1)).toNat + i))) := fun i hi => by
                  rw [Nat.add_assoc]
                  exact Hdc8.out _ (by have := HHL.out; omega)
                refine (same_true x _ db (0 + (S (n - 1)).toNat) db (0 + (S (n - 1)).toNat) L L _ (fun i => D ((S (n - 1)).toNat + i)) (w8.drewN (m9 + q)) HHx2.out (fun h => by rw [Hda.out (by have := HHL.out; omega)]; simp [Addr.add]; omega) (by omega) HC HC).mono ?_
                rintro e w' ⟨rfl, r, rfl⟩
                exact ⟨rfl, q + r, by rw [drewN_two, Nat.add_assoc]⟩
              go_wp2_with fail
              go_quiet ((go_at_call 26; exact hcall.out _))
              clear hcall
              go_wp2_with fail
              refine (clone_any da l0 l0 db 0 D _ (HDA _) (by omega)).mono ?_
              rintro e w10 ⟨da', db', rfl, Hda', Hdc', hb10⟩
              have HB10 : Hid (Below w8.heap.size w8 w10) := ((Below.refl _ w8).drewN _).trans hb10
              clear hb10
              have HDC10 : Hid (∀ i, i < l0 → w10.cell? ⟨db, 0 + i, none⟩ = some (.int .u8 (D i))) := fun i hi => (HB10.out.cell (lt_of_cell (Hdc8.out i hi))).trans (Hdc8.out i hi)
              have HXC10 : Hid (∀ i, i < L → w10.cell? ⟨db, vo + i, none⟩ = some (.int .u8 (D' i))) := fun i hi => (HB10.out.cell (lt_of_cell (Hxc8.out i hi))).trans (Hxc8.out i hi)
              go_wp2_with (at_builtin; refine wpList_append_grows _ rfl (.tmp 183) (.tmp 184) 48 rfl 5 i0 (.int .u8 0) 1 1 Try.underlying48 hi hz0 hz1 hz2 rfl (by decide) x L L ((List.range L).map (fun i => .int .u8 (D' i))) rfl ?hnone ?hlo ?holds ⟨w10.heap.size, 0, none⟩ 1 1 [.int .u8 90] rfl rfl ?c1 ?c2 (by omega) (by unfold maxLen; omega) (by omega) ?grow)
              case hnone => exact HNone.out
              case hlo => simp
              case holds => exact app_olds HHx.out HXC10.out _
              case c1 => intro j u hj; match j, hj with | 0, hj => simp at hj; subst hj; simp [Addr.add]
              case c2 => intro u hu; simp at hu; subst hu; rfl
              case grow =>
                intro v' w11 hown hgrow
                obtain ⟨_, ⟨_, h0⟩ | ⟨g, cp, cur, hv', _, _, _, _, _, _⟩⟩ := hown
                · omega
                rw [hv']
                clear hv'
                have HB11 : Hid (Below w10.heap.size w10 w11) := ((Below.refl _ _).alloc (Nat.le_refl _) _).grown hgrow (by simp) (fun k h => by cases h)
                clear hgrow
                go_wp2_with fail
                refine (same_true da da' db 0 db' 0 l0 l0 l0 D w11 Hda.out Hda'.out (by omega) (fun i hi => (HB11.out.cell (lt_of_cell (HDC10.out i hi))).trans (HDC10.out i hi)) (fun i hi => (HB11.out.cell (lt_of_cell (Hdc'.out i hi))).trans (Hdc'.out i hi))).mono ?_
                rintro e w12 ⟨rfl, m12, rfl⟩
                go_wp2
                go_ret
                exact ⟨rfl, (HBf.out.trans ((HB10.out.trans (HB11.out.mono HB10.out.size)).mono HBf.out.size)).drewN _⟩
end Go.Proofs.Qxb6615564a
