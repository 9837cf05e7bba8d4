import Derived.Test.Qxb6609019aTokG
namespace Go.Proofs.Qxb6609019a
open Go.RowKit

theorem mutAt_p (k r h s q j n : Nat) (d : TD) : { mutAt k r h s q j n d with pN := fun i => if i = k then d.pN k ++ ⟨#[35]⟩ else (mutAt k r h s q j n d).pN i } = mutAt (k + 1) r h s q j n d := by
  have := upTo_step k (hsh d.pN) d.pN
  unfold mutAt
  dsimp only
  rw [← this]
  rfl
theorem mutAt_r (p k h s q j n : Nat) (d : TD) : { mutAt p k h s q j n d with rN := fun i => if i = k then d.rN k ++ ⟨#[35]⟩ else (mutAt p k h s q j n d).rN i } = mutAt p (k + 1) h s q j n d := by
  have := upTo_step k (hsh d.rN) d.rN
  unfold mutAt
  dsimp only
  rw [← this]
  rfl
theorem mutAt_h (p r k s q j n : Nat) (d : TD) : { mutAt p r k s q j n d with hN := fun i => if i = k then bits .xor .u8 (d.hN k) 255 else (mutAt p r k s q j n d).hN i } = mutAt p r (k + 1) s q j n d := by
  have := upTo_step k (flp d.hN) d.hN
  unfold mutAt
  dsimp only
  rw [← this]
  rfl
theorem mutAt_s (p r h k q j n : Nat) (d : TD) : { mutAt p r h k q j n d with sN := fun i => if i = k then d.sN k ++ ⟨#[35]⟩ else (mutAt p r h k q j n d).sN i } = mutAt p r h (k + 1) q j n d := by
  have := upTo_step k (hsh d.sN) d.sN
  unfold mutAt
  dsimp only
  rw [← this]
  rfl
theorem mutAt_d (p r h s q j n : Nat) (d : TD) : { mutAt p r h s q j n d with dN := fun i k => if i = q ∧ k = j then d.dN q j ++ ⟨#[35]⟩ else (mutAt p r h s q j n d).dN i k } = mutAt p r h s q (j + 1) n d := by
  have := dUp_step d.dl q j (hsh2 d.dN) d.dN
  unfold mutAt
  dsimp only
  rw [← this]
  rfl
theorem mutAt_dn (p r h s q n : Nat) (d : TD) : mutAt p r h s q (d.dl q) n d = mutAt p r h s (q + 1) 0 n d := by
  unfold mutAt
  rw [dUp_next]
theorem mutAt_n (p r h s q j k : Nat) (d : TD) : { { mutAt p r h s q j k d with nA := fun i => if i = k then d.nA k ++ (⟨#[35]⟩ : ByteArray) else (mutAt p r h s q j k d).nA i } with nB := fun i => if i = k then d.nB k ++ (⟨#[35]⟩ : ByteArray) else (mutAt p r h s q j k d).nB i } = mutAt p r h s q j (k + 1) d := by
  have h1 := upTo_step k (hsh d.nA) d.nA
  have h2 := upTo_step k (hsh d.nB) d.nB
  unfold mutAt
  dsimp only
  rw [← h1, ← h2]
  rfl

theorem TSlot.drew {w : World} {P : Nat → Nat → Prop} {d : TD} {sz nz : Bool} {pv rv sv nv hv : Value} {dv : Nat → Value} (h : TSlot w P d sz nz pv rv sv nv hv dv) : TSlot w.drew P d sz nz pv rv sv nv hv dv :=
  ⟨h.p, h.r, h.h, h.s, h.n, h.ds⟩

set_option maxHeartbeats 2000000 in
set_option maxRecDepth 100000 in
theorem mutate_any (d : TD) (P : Nat → Nat → Prop) (sz nz : Bool) (pv rv sv nv hv : Value) (dv : Nat → Value) (tb : Nat) (w : World) (hd : Bd d) (hsep : ∀ i j b, P i b → P j b → i = j) (htb : ∀ j, ¬ P j tb)
    (hT : w.heap[tb]? = some (.cells (tC d pv rv sv nv hv) 45 (0, 0))) (h : TSlot w P d sz nz pv rv sv nv hv dv) :
    Calls Try.prog 16 #[.pointer (some ⟨tb, 0, none⟩)] w fun e w' => e = .returned (.tuple #[]) ∧ TSlot w' P (mutD d) sz nz pv rv sv nv hv dv ∧ Fr P w w' := by
  obtain ⟨pa, _, pc, ep, _, _⟩ := h.p
  obtain ⟨ra, _, rc, er, _, _⟩ := h.r
  obtain ⟨sa, _, sc, es, _, _⟩ := h.s
  obtain ⟨na, _, nc, en, _, _⟩ := h.n
  obtain ⟨ha, _, hc, eh, _, _⟩ := h.h
  subst ep er es en eh
  have Hd : Hid (Bd d) := hd
  have b1 := hd.pl
  have b2 := hd.rl
  have b3 := hd.hl
  have b4 := hd.sl
  have b5 := hd.nl
  have Hsep : Hid (∀ i j b, P i b → P j b → i = j) := hsep
  have Htb : Hid (∀ j, ¬ P j tb) := htb
  have HT : Hid (∀ wr, Fr P w wr → ∀ i, wr.cell? ⟨tb, i, none⟩ = (tC d (.slice pa d.pl pc) (.slice ra d.rl rc) (.slice sa d.sl sc) (.slice na d.nl nc) (.slice ha d.hl hc))[i]?) := fun wr hF i => by
    rw [cell_of_block (hF.block tb htb), cell_of_row _ _ _ _ _ _ hT]
  have h0 : TSlot w P (mutAt 0 0 0 0 0 0 0 d) sz nz (.slice pa d.pl pc) (.slice ra d.rl rc) (.slice sa d.sl sc) (.slice na d.nl nc) (.slice ha d.hl hc) dv := by rw [mutAt_zero]; exact h
  have H0 : Hid (TSlot w P (mutAt 0 0 0 0 0 0 0 d) sz nz (.slice pa d.pl pc) (.slice ra d.rl rc) (.slice sa d.sl sc) (.slice na d.nl nc) (.slice ha d.hl hc) dv) := h0
  have hp3 : w.cell? ⟨tb, 3, none⟩ = some (.slice pa d.pl pc) := by rw [cell_of_row _ _ _ _ _ _ hT]; rfl
  clear hd hsep htb hT h h0
  go_enter Try.func16, Try.ntmps16
  go_wp2_with fail
  go_loopw [2] (fun i wr => ∃ k : Nat, k ≤ d.pl ∧ i = .int .i64 k ∧ Hid (TSlot wr P (mutAt k 0 0 0 0 0 0 d) sz nz (.slice pa d.pl pc) (.slice ra d.rl rc) (.slice sa d.sl sc) (.slice na d.nl nc) (.slice ha d.hl hc) dv) ∧ Hid (Fr P w wr))
    (fun i _ => d.pl - (intOf i).toNat)
  case atStart => exact ⟨0, Nat.zero_le _, rfl, H0, Fr.refl _ _⟩
  case round =>
    try clear hp3 hp4 hp5 hp6 hp14
    obtain ⟨k, hk, rfl, HK, HF⟩ := hrel
    by_cases hlt : k < d.pl
    · have hk1 : (k : Int) < (d.pl : Int) := by omega
      obtain ⟨a', b, c', e0, _, hh⟩ := HK.out.p
      simp only [Value.slice.injEq] at e0
      obtain ⟨ea, _, ec⟩ := e0
      obtain ⟨ea', hPb, hO⟩ := hh (show 0 < d.pl by omega)
      rw [ea'] at ea
      subst ea
      clear ec ea' hh
      have hp3 : wr.cell? ⟨tb, 3, none⟩ = some (.slice (some ⟨b, 0, none⟩) d.pl pc) := HT.out wr HF.out 3
      have hx : wr.cell? ⟨b, k, none⟩ = some (.string (d.pN k)) := by rw [hO.cell hlt]; simp [mutAt, upTo_at]
      have hf := hO.frozen k
      have hs := Hd.out.pN k hlt
      have HPb : Hid (P 0 b) := hPb
      clear hO hPb
      go_wp2_with fail
      go_region
      go_wp2_with fail
      go_roundw
      case rel => exact ⟨k + 1, by omega, by go_num, (by rw [← mutAt_p]; exact (HK.out.setP Hsep.out HPb.out k _).drew), (HF.out.set HPb.out k _).drew⟩
      case measure => simp [intOf]; omega
    obtain rfl : k = d.pl := by omega
    have hp3 : wr.cell? ⟨tb, 3, none⟩ = some (.slice pa d.pl pc) := HT.out wr HF.out 3
    have hp4 : wr.cell? ⟨tb, 4, none⟩ = some (.slice ra d.rl rc) := HT.out wr HF.out 4
    go_wp2_with fail
    go_loopw [3] (fun i wr => ∃ k : Nat, k ≤ d.rl ∧ i = .int .i64 k ∧ Hid (TSlot wr P (mutAt d.pl k 0 0 0 0 0 d) sz nz (.slice pa d.pl pc) (.slice ra d.rl rc) (.slice sa d.sl sc) (.slice na d.nl nc) (.slice ha d.hl hc) dv) ∧ Hid (Fr P w wr))
      (fun i _ => d.rl - (intOf i).toNat)
    case atStart => exact ⟨0, Nat.zero_le _, rfl, HK, HF⟩
    case round =>
      clear HK HF
      try clear hp3 hp4 hp5 hp6 hp14
      obtain ⟨k, hk, rfl, HK, HF⟩ := hrel
      by_cases hlt : k < d.rl
      · have hk1 : (k : Int) < (d.rl : Int) := by omega
        obtain ⟨a', b, c', e0, _, hh⟩ := HK.out.r
        simp only [Value.slice.injEq] at e0
        obtain ⟨ea, _, ec⟩ := e0
        obtain ⟨ea', hPb, hO⟩ := hh (show 0 < d.rl by omega)
        rw [ea'] at ea
        subst ea
        clear ec ea' hh
        have hp4 : wr.cell? ⟨tb, 4, none⟩ = some (.slice (some ⟨b, 0, none⟩) d.rl rc) := HT.out wr HF.out 4
        have hx : wr.cell? ⟨b, k, none⟩ = some (.string (d.rN k)) := by rw [hO.cell hlt]; simp [mutAt, upTo_at]
        have hf := hO.frozen k
        have hs := Hd.out.rN k hlt
        have HPb : Hid (P 1 b) := hPb
        clear hO hPb
        go_wp2_with fail
        go_region
        go_wp2_with fail
        go_roundw
        case rel => exact ⟨k + 1, by omega, by go_num, (by rw [← mutAt_r]; exact (HK.out.setR Hsep.out HPb.out k _).drew), (HF.out.set HPb.out k _).drew⟩
        case measure => simp [intOf]; omega
      obtain rfl : k = d.rl := by omega
      have hp4 : wr.cell? ⟨tb, 4, none⟩ = some (.slice ra d.rl rc) := HT.out wr HF.out 4
      have hp14 : wr.cell? ⟨tb, 14, none⟩ = some (.slice ha d.hl hc) := HT.out wr HF.out 14
      go_wp2_with fail
      go_loopw [4] (fun i wr => ∃ k : Nat, k ≤ d.hl ∧ i = .int .i64 k ∧ Hid (TSlot wr P (mutAt d.pl d.rl k 0 0 0 0 d) sz nz (.slice pa d.pl pc) (.slice ra d.rl rc) (.slice sa d.sl sc) (.slice na d.nl nc) (.slice ha d.hl hc) dv) ∧ Hid (Fr P w wr))
        (fun i _ => d.hl - (intOf i).toNat)
      case atStart => exact ⟨0, Nat.zero_le _, rfl, HK, HF⟩
      case round =>
        clear HK HF
        try clear hp3 hp4 hp5 hp6 hp14
        obtain ⟨k, hk, rfl, HK, HF⟩ := hrel
        by_cases hlt : k < d.hl
        · have hk1 : (k : Int) < (d.hl : Int) := by omega
          obtain ⟨a', b, c', e0, _, hh⟩ := HK.out.h
          simp only [Value.slice.injEq] at e0
          obtain ⟨ea, _, ec⟩ := e0
          obtain ⟨ea', hPb, hO⟩ := hh (show 0 < d.hl by omega)
          rw [ea'] at ea
          subst ea
          clear ec ea' hh
          have hp14 : wr.cell? ⟨tb, 14, none⟩ = some (.slice (some ⟨b, 0, none⟩) d.hl hc) := HT.out wr HF.out 14
          have hx : wr.cell? ⟨b, k, none⟩ = some (.int .u8 (d.hN k)) := by rw [hO.cell hlt]; simp [mutAt, upTo_at]
          have hf := hO.frozen k
          have HPb : Hid (P 2 b) := hPb
          clear hO hPb
          go_wp2_with fail
          go_region
          go_wp2_with fail
          go_roundw
          case rel => exact ⟨k + 1, by omega, by go_num, (by rw [← mutAt_h]; exact (HK.out.setH Hsep.out HPb.out k _).drew), (HF.out.set HPb.out k _).drew⟩
          case measure => simp [intOf]; omega
        obtain rfl : k = d.hl := by omega
        have hp14 : wr.cell? ⟨tb, 14, none⟩ = some (.slice ha d.hl hc) := HT.out wr HF.out 14
        have hp5 : wr.cell? ⟨tb, 5, none⟩ = some (.slice sa d.sl sc) := HT.out wr HF.out 5
        go_wp2_with fail
        go_loopw [5] (fun i wr => ∃ k : Nat, k ≤ d.sl ∧ i = .int .i64 k ∧ Hid (TSlot wr P (mutAt d.pl d.rl d.hl k k 0 0 d) sz nz (.slice pa d.pl pc) (.slice ra d.rl rc) (.slice sa d.sl sc) (.slice na d.nl nc) (.slice ha d.hl hc) dv) ∧ Hid (Fr P w wr))
          (fun i _ => d.sl - (intOf i).toNat)
        case atStart => exact ⟨0, Nat.zero_le _, rfl, HK, HF⟩
        case round =>
          clear HK HF
          try clear hp3 hp4 hp5 hp6 hp14
          obtain ⟨ks, hks, rfl, HK, HF⟩ := hrel
          by_cases hlt : ks < d.sl
          · have hk1 : (ks : Int) < (d.sl : Int) := by omega
            obtain ⟨a', b, c', e0, _, hh⟩ := HK.out.s
            simp only [Value.slice.injEq] at e0
            obtain ⟨ea, _, ec⟩ := e0
            obtain ⟨ea', hPb, hO⟩ := hh (show 0 < d.sl by omega)
            rw [ea'] at ea
            subst ea
            clear ec ea' hh
            have hp5 : wr.cell? ⟨tb, 5, none⟩ = some (.slice (some ⟨b, 0, none⟩) d.sl sc) := HT.out wr HF.out 5
            have hx : wr.cell? ⟨b, ks * 2, none⟩ = some (.string (d.sN ks)) := by rw [hO.cell (show ks * 2 < d.sl * 2 by omega), svcV_0]; simp [mutAt, upTo_at]
            have hx1 : wr.cell? ⟨b, ks * 2 + 1, none⟩ = some (dv ks) := by rw [hO.cell (show ks * 2 + 1 < d.sl * 2 by omega), svcV_1]
            have hf := hO.frozen (ks * 2)
            have hs := Hd.out.sN ks hlt
            have b6 := Hd.out.dl ks hlt
            have HPb : Hid (P 3 b) := hPb
            obtain ⟨da, _, dc, ed, _, _⟩ := HK.out.ds ks hlt
            have ED : Hid (dv ks = .slice da (d.dl ks) dc) := ed
            rw [ed] at hx1
            have hx1' : (wr.setCell ⟨b, ks * 2, none⟩ (.string (d.sN ks ++ ⟨#[35]⟩))).cell? ⟨b, ks * 2 + 1, none⟩ = some (.slice da (d.dl ks) dc) := by rw [World.cell?_setCell_other _ _ _ _ (by simp)]; exact hx1
            have hp5' : (wr.setCell ⟨b, ks * 2, none⟩ (.string (d.sN ks ++ ⟨#[35]⟩))).cell? ⟨tb, 5, none⟩ = some (.slice (some ⟨b, 0, none⟩) d.sl sc) := HT.out _ (HF.out.set HPb.out _ _) 5
            have HK2 : Hid (TSlot (wr.setCell ⟨b, ks * 2, none⟩ (.string (d.sN ks ++ ⟨#[35]⟩))) P (mutAt d.pl d.rl d.hl (ks + 1) ks 0 0 d) sz nz (.slice pa d.pl pc) (.slice ra d.rl rc) (.slice (some ⟨b, 0, none⟩) d.sl sc) (.slice na d.nl nc) (.slice ha d.hl hc) dv) := by rw [← mutAt_s]; exact HK.out.setS Hsep.out HPb.out ks _
            have HF2 : Hid (Fr P w (wr.setCell ⟨b, ks * 2, none⟩ (.string (d.sN ks ++ ⟨#[35]⟩)))) := HF.out.set HPb.out _ _
            clear hO hPb ed
            go_wp2_with fail
            go_region
            go_wp2_with fail
            go_loopw [7] (fun i wr => ∃ k : Nat, k ≤ d.dl ks ∧ i = .int .i64 k ∧ Hid (TSlot wr P (mutAt d.pl d.rl d.hl (ks + 1) ks k 0 d) sz nz (.slice pa d.pl pc) (.slice ra d.rl rc) (.slice (some ⟨b, 0, none⟩) d.sl sc) (.slice na d.nl nc) (.slice ha d.hl hc) dv) ∧ Hid (Fr P w wr))
              (fun i _ => d.dl ks - (intOf i).toNat)
            case atStart => exact ⟨0, Nat.zero_le _, rfl, HK2.out.drew, HF2.out.drew⟩
            case round =>
              clear HK HF HK2 HF2 hx hx1 hx1' hp5 hp5' hf
              obtain ⟨kd, hkd, rfl, HK, HF⟩ := hrel
              by_cases hltd : kd < d.dl ks
              · have hk2 : (kd : Int) < (d.dl ks : Int) := by omega
                obtain ⟨a', b2, c', e0, _, hh⟩ := HK.out.ds ks hlt
                rw [ED.out] at e0
                simp only [Value.slice.injEq] at e0
                obtain ⟨ea, _, ec⟩ := e0
                obtain ⟨ea', hPb2, hO⟩ := hh (show 0 < d.dl ks by omega)
                rw [ea'] at ea
                subst ea
                clear ec ea' hh
                have hx : wr.cell? ⟨b2, kd, none⟩ = some (.string (d.dN ks kd)) := by rw [hO.cell hltd]; simp [mutAt, dUp_at]
                have hf := hO.frozen kd
                have hs := Hd.out.dN ks hlt kd hltd
                have HPb2 : Hid (P (5 + ks) b2) := hPb2
                clear hO hPb2
                go_wp2_with fail
                go_roundw
                case rel => exact ⟨kd + 1, by omega, by go_num, (by rw [← mutAt_d]; exact HK.out.setD Hsep.out ks ED.out HPb2.out kd _), HF.out.set HPb2.out kd _⟩
                case measure => simp [intOf]; omega
              · obtain rfl : kd = d.dl ks := by omega
                go_wp2_with fail
                go_roundw
                case rel => exact ⟨ks + 1, by omega, by go_num, (by rw [← mutAt_dn]; exact HK.out), HF⟩
                case measure => simp [intOf]; omega
          obtain rfl : ks = d.sl := by omega
          have hp5 : wr.cell? ⟨tb, 5, none⟩ = some (.slice sa d.sl sc) := HT.out wr HF.out 5
          have hp6 : wr.cell? ⟨tb, 6, none⟩ = some (.slice na d.nl nc) := HT.out wr HF.out 6
          go_wp2_with fail
          go_loopw [8] (fun i wr => ∃ k : Nat, k ≤ d.nl ∧ i = .int .i64 k ∧ Hid (TSlot wr P (mutAt d.pl d.rl d.hl d.sl d.sl 0 k d) sz nz (.slice pa d.pl pc) (.slice ra d.rl rc) (.slice sa d.sl sc) (.slice na d.nl nc) (.slice ha d.hl hc) dv) ∧ Hid (Fr P w wr))
            (fun i _ => d.nl - (intOf i).toNat)
          case atStart => exact ⟨0, Nat.zero_le _, rfl, HK, HF⟩
          case round =>
            clear HK HF
            try clear hp3 hp4 hp5 hp6 hp14
            obtain ⟨k, hk, rfl, HK, HF⟩ := hrel
            by_cases hlt : k < d.nl
            · have hk1 : (k : Int) < (d.nl : Int) := by omega
              obtain ⟨a', b, c', e0, _, hh⟩ := HK.out.n
              simp only [Value.slice.injEq] at e0
              obtain ⟨ea, _, ec⟩ := e0
              obtain ⟨ea', hPb, hO⟩ := hh (show 0 < d.nl by omega)
              rw [ea'] at ea
              subst ea
              clear ec ea' hh
              have hp6 : wr.cell? ⟨tb, 6, none⟩ = some (.slice (some ⟨b, 0, none⟩) d.nl nc) := HT.out wr HF.out 6
              have hx0 : wr.cell? ⟨b, k * 2, none⟩ = some (.string (d.nA k)) := by rw [hO.cell (show k * 2 < d.nl * 2 by omega), nodV_0]; simp [mutAt, upTo_at]
              have hx1 : wr.cell? ⟨b, k * 2 + 1, none⟩ = some (.string (d.nB k)) := by rw [hO.cell (show k * 2 + 1 < d.nl * 2 by omega), nodV_1]; simp [mutAt, upTo_at]
              have hf := hO.frozen (k * 2)
              have hf1 := hO.frozen (k * 2 + 1)
              have hs := Hd.out.nA k hlt
              have hs1 := Hd.out.nB k hlt
              have HPb : Hid (P 4 b) := hPb
              have hx1' : (wr.setCell ⟨b, k * 2, none⟩ (.string (d.nA k ++ ⟨#[35]⟩))).cell? ⟨b, k * 2 + 1, none⟩ = some (.string (d.nB k)) := by rw [World.cell?_setCell_other _ _ _ _ (by simp)]; exact hx1
              have hp6' : (wr.setCell ⟨b, k * 2, none⟩ (.string (d.nA k ++ ⟨#[35]⟩))).cell? ⟨tb, 6, none⟩ = some (.slice (some ⟨b, 0, none⟩) d.nl nc) := HT.out _ (HF.out.set HPb.out _ _) 6
              clear hO hPb
              go_wp2_with fail
              go_region
              go_wp2_with fail
              go_region
              go_wp2_with fail
              go_roundw
              case rel => exact ⟨k + 1, by omega, by go_num, (by rw [← mutAt_n]; exact (((HK.out.setNA Hsep.out HPb.out k _).drew).setNB Hsep.out HPb.out k _).drew), (((HF.out.set HPb.out _ _).drew).set HPb.out _ _).drew⟩
              case measure => simp [intOf]; omega
            obtain rfl : k = d.nl := by omega
            have hp6 : wr.cell? ⟨tb, 6, none⟩ = some (.slice na d.nl nc) := HT.out wr HF.out 6
            go_wp2_with fail
            go_end0
            exact ⟨rfl, HK.out, HF.out⟩
end Go.Proofs.Qxb6609019a
