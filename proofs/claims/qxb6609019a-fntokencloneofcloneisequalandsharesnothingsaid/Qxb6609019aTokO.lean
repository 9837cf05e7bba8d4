import Derived.Test.Qxb6609019aTokN
namespace Go.Proofs.Qxb6609019a
open Go.RowKit

set_option maxHeartbeats 4000000 in
set_option maxRecDepth 100000 in
theorem build_any (d : TD) (pv rv sv nv hv : Value) (dv : Nat → Value) (w : World) (hd : Bd d) (hN : NilOk d)
    (hct : -9223372036854775808 ≤ d.ct) (hct' : d.ct ≤ 9223372036854775807) (het : -9223372036854775808 ≤ d.et) (het' : d.et ≤ 9223372036854775807) (hsz : d.sz = true → d.sl = 0) (hnz : d.nz = true → d.nl = 0) (hB : FArg w d pv rv sv nv hv dv) :
    Calls Try.prog 14 #[.agg (fC d pv rv sv nv hv)] w fun e w' => ∃ (tb : Nat) (tg : Nat → Nat) (pv' rv' sv' nv' hv' : Value) (dv' : Nat → Value), e = .returned (.pointer (some ⟨tb, 0, none⟩)) ∧ Below w.heap.size w w' ∧ w.heap.size ≤ tb ∧ w'.heap[tb]? = some (.cells (tC d pv' rv' sv' nv' hv') 45 (0, 0)) ∧
      TSlot w' (fun j b => w.heap.size ≤ b ∧ b < w'.heap.size ∧ b ≠ tb ∧ tg b = j) d d.sz d.nz pv' rv' sv' nv' hv' dv' := by
  obtain ⟨sa, sb, so, sc, rfl, ez1, hSa, hSc⟩ := hB.s
  obtain ⟨na, nb, no, nc, rfl, ez2, hNa, hNc⟩ := hB.n
  have Hd : Hid (Bd d) := hd
  have HN : Hid (NilOk d) := hN
  have HB : Hid (FArg w d pv rv (.slice sa d.sl sc) (.slice na d.nl nc) hv dv) := hB
  have HW : Hid (Below w.heap.size w (w.alloc (.cells #[.string d.acc, .string d.sec, .string d.desc, pv, rv, .slice sa d.sl sc, .slice na d.nl nc, .bool d.loc, .int .i64 d.ct, .int .i64 d.et, hv, .int .u64 d.ci, .int .u64 d.mi] 33))) := (Below.refl _ _).alloc (Nat.le_refl _) _
  clear hB hd hN
  unfold fC at *
  have HS0 : Hid ((fun w' => w'.cell? ⟨w.heap.size, 0, none⟩ = some (.string d.acc) ∧ w'.cell? ⟨w.heap.size, 1, none⟩ = some (.string d.sec) ∧ w'.cell? ⟨w.heap.size, 2, none⟩ = some (.string d.desc) ∧ w'.cell? ⟨w.heap.size, 3, none⟩ = some (pv) ∧ w'.cell? ⟨w.heap.size, 4, none⟩ = some (rv) ∧ w'.cell? ⟨w.heap.size, 5, none⟩ = some (.slice sa d.sl sc) ∧ w'.cell? ⟨w.heap.size, 6, none⟩ = some (.slice na d.nl nc) ∧ w'.cell? ⟨w.heap.size, 7, none⟩ = some (.bool d.loc) ∧ w'.cell? ⟨w.heap.size, 8, none⟩ = some (.int .i64 d.ct) ∧ w'.cell? ⟨w.heap.size, 9, none⟩ = some (.int .i64 d.et) ∧ w'.cell? ⟨w.heap.size, 10, none⟩ = some (hv) ∧ w'.cell? ⟨w.heap.size, 11, none⟩ = some (.int .u64 d.ci) ∧ w'.cell? ⟨w.heap.size, 12, none⟩ = some (.int .u64 d.mi) ∧ Below (w.heap.size + 1) (w.alloc (.cells #[.string d.acc, .string d.sec, .string d.desc, pv, rv, .slice sa d.sl sc, .slice na d.nl nc, .bool d.loc, .int .i64 d.ct, .int .i64 d.et, hv, .int .u64 d.ci, .int .u64 d.mi] 33)) w') (w.alloc (.cells #[.string d.acc, .string d.sec, .string d.desc, pv, rv, .slice sa d.sl sc, .slice na d.nl nc, .bool d.loc, .int .i64 d.ct, .int .i64 d.et, hv, .int .u64 d.ci, .int .u64 d.mi] 33)).drew) := ⟨by simp [go_sem], by simp [go_sem], by simp [go_sem], by simp [go_sem], by simp [go_sem], by simp [go_sem], by simp [go_sem], by simp [go_sem], by simp [go_sem], by simp [go_sem], by simp [go_sem], by simp [go_sem], by simp [go_sem], (Below.refl _ _).drew⟩
  have K1 : Hid (∀ wx, Below (w.heap.size + 1) (w.alloc (.cells #[.string d.acc, .string d.sec, .string d.desc, pv, rv, .slice sa d.sl sc, .slice na d.nl nc, .bool d.loc, .int .i64 d.ct, .int .i64 d.et, hv, .int .u64 d.ci, .int .u64 d.mi] 33)) wx → Calls Try.prog 23 #[pv] wx fun e w' => ∃ v', e = .returned v' ∧ Slot w' (fun b => wx.heap.size ≤ b) v' d.pz d.pl d.pl (fun i => .string (d.pN i)) ∧ Below wx.heap.size wx w') := fun wx h => copyStrs_any pv d.pz d.pl d.pN wx Hd.out.pl (HB.out.p.below (keepB' HW.out h) (Nat.le_refl _)) HN.out.p
  have K2 : Hid (∀ wx, Below (w.heap.size + 1) (w.alloc (.cells #[.string d.acc, .string d.sec, .string d.desc, pv, rv, .slice sa d.sl sc, .slice na d.nl nc, .bool d.loc, .int .i64 d.ct, .int .i64 d.et, hv, .int .u64 d.ci, .int .u64 d.mi] 33)) wx → Calls Try.prog 23 #[rv] wx fun e w' => ∃ v', e = .returned v' ∧ Slot w' (fun b => wx.heap.size ≤ b) v' d.rz d.rl d.rl (fun i => .string (d.rN i)) ∧ Below wx.heap.size wx w') := fun wx h => copyStrs_any rv d.rz d.rl d.rN wx Hd.out.rl (HB.out.r.below (keepB' HW.out h) (Nat.le_refl _)) HN.out.r
  have K3 : Hid (∀ wx, Calls Try.prog 24 #[.int .i64 d.ct] wx fun e w' => e = .returned (.agg (timeV d.ct)) ∧ Below wx.heap.size wx w') := fun wx => timeAt_any d.ct wx hct hct'
  have K4 : Hid (∀ wx, Calls Try.prog 24 #[.int .i64 d.et] wx fun e w' => e = .returned (.agg (timeV d.et)) ∧ Below wx.heap.size wx w') := fun wx => timeAt_any d.et wx het het'
  have K5 : Hid (∀ wx, Below (w.heap.size + 1) (w.alloc (.cells #[.string d.acc, .string d.sec, .string d.desc, pv, rv, .slice sa d.sl sc, .slice na d.nl nc, .bool d.loc, .int .i64 d.ct, .int .i64 d.et, hv, .int .u64 d.ci, .int .u64 d.mi] 33)) wx → Calls Try.prog 25 #[hv] wx fun e w' => ∃ v', e = .returned v' ∧ Slot w' (fun b => wx.heap.size ≤ b) v' d.hz d.hl d.hl (fun i => .int .u8 (d.hN i)) ∧ Below wx.heap.size wx w') := fun wx h => copyBytes_any hv d.hz d.hl d.hN wx Hd.out.hl (HB.out.h.below (keepB' HW.out h) (Nat.le_refl _)) HN.out.h
  go_enter Try.func14, Try.ntmps14
  go_upto_region 1 with fail
  go_cut [3] from 8 to 36 (fun s3 wx => ∃ (tb : Nat) (tg : Nat → Nat) (xa1 xa2 xa6 : Option Addr) (xc1 xc2 xc6 : Nat), s3 = .pointer (some ⟨tb, 0, none⟩) ∧ Hid (BT (w.alloc (.cells #[.string d.acc, .string d.sec, .string d.desc, pv, rv, .slice sa d.sl sc, .slice na d.nl nc, .bool d.loc, .int .i64 d.ct, .int .i64 d.et, hv, .int .u64 d.ci, .int .u64 d.mi] 33)) wx (w.heap.size + 1) d tb tg (.slice xa1 d.pl xc1) (.slice xa2 d.rl xc2) (.slice none 0 0) (.slice none 0 0) (.slice xa6 d.hl xc6)))
  case first =>
    go_region_held3 (fun w' => w'.cell? ⟨w.heap.size, 0, none⟩ = some (.string d.acc) ∧ w'.cell? ⟨w.heap.size, 1, none⟩ = some (.string d.sec) ∧ w'.cell? ⟨w.heap.size, 2, none⟩ = some (.string d.desc) ∧ w'.cell? ⟨w.heap.size, 3, none⟩ = some (pv) ∧ w'.cell? ⟨w.heap.size, 4, none⟩ = some (rv) ∧ w'.cell? ⟨w.heap.size, 5, none⟩ = some (.slice sa d.sl sc) ∧ w'.cell? ⟨w.heap.size, 6, none⟩ = some (.slice na d.nl nc) ∧ w'.cell? ⟨w.heap.size, 7, none⟩ = some (.bool d.loc) ∧ w'.cell? ⟨w.heap.size, 8, none⟩ = some (.int .i64 d.ct) ∧ w'.cell? ⟨w.heap.size, 9, none⟩ = some (.int .i64 d.et) ∧ w'.cell? ⟨w.heap.size, 10, none⟩ = some (hv) ∧ w'.cell? ⟨w.heap.size, 11, none⟩ = some (.int .u64 d.ci) ∧ w'.cell? ⟨w.heap.size, 12, none⟩ = some (.int .u64 d.mi) ∧ Below (w.heap.size + 1) (w.alloc (.cells #[.string d.acc, .string d.sec, .string d.desc, pv, rv, .slice sa d.sl sc, .slice na d.nl nc, .bool d.loc, .int .i64 d.ct, .int .i64 d.et, hv, .int .u64 d.ci, .int .u64 d.mi] 33)) w') ((first | exact HS0.out | (go_split_ands; (repeat' apply And.intro) <;> first | assumption | (refine keepC hB2 ?_; assumption) | (refine keepC hB3 ?_; assumption) | (refine keepC hB4 ?_; assumption) | (refine keepC hB5 ?_; assumption) | (refine keepC hB6 ?_; assumption) | (refine keepB hB2 ?_ (by simp); assumption) | (refine keepB hB3 ?_ (by simp); assumption) | (refine keepB hB4 ?_ (by simp); assumption) | (refine keepB hB5 ?_ (by simp); assumption) | (refine keepB hB6 ?_ (by simp); assumption) | (refine keepC (Below.alloc (Below.refl _ _) (Nat.le_refl _) _) ?_; assumption) | (refine keepB (Below.alloc (Below.refl _ _) (Nat.le_refl _) _) ?_ (by simp); assumption)))) ((first
    | (go_at_call 23; (with_reducible (refine Calls.mono (K1.out _ ?hz) ?_)); (case hz => (go_split_ands; assumption)); rintro _ w2 ⟨pv', rfl, hS1, hB2⟩; have hS1c := hS1; obtain ⟨xa1, xb1, xc1, rfl, hxx1, hyy1⟩ := hS1c; clear hxx1 hyy1)
    | (go_at_call 23; (with_reducible (refine Calls.mono (K2.out _ ?hz) ?_)); (case hz => (go_split_ands; assumption)); rintro _ w3 ⟨rv', rfl, hS2, hB3⟩; have hS2c := hS2; obtain ⟨xa2, xb2, xc2, rfl, hxx2, hyy2⟩ := hS2c; clear hxx2 hyy2)
    | (go_at_call 24; (with_reducible (refine Calls.mono (K3.out _) ?_)); rintro _ w4 ⟨rfl, hB4⟩; unfold timeV)
    | (go_at_call 24; (with_reducible (refine Calls.mono (K4.out _) ?_)); rintro _ w5 ⟨rfl, hB5⟩; unfold timeV)
    | (go_at_call 25; (with_reducible (refine Calls.mono (K5.out _ ?hz) ?_)); (case hz => (go_split_ands; assumption)); rintro _ w6 ⟨hv', rfl, hS6, hB6⟩; have hS6c := hS6; obtain ⟨xa6, xb6, xc6, rfl, hxx6, hyy6⟩ := hS6c; clear hxx6 hyy6)))
    have hw0 : (w.alloc (.cells #[.string d.acc, .string d.sec, .string d.desc, pv, rv, .slice sa d.sl sc, .slice na d.nl nc, .bool d.loc, .int .i64 d.ct, .int .i64 d.et, hv, .int .u64 d.ci, .int .u64 d.mi] 33)).drew.heap.size = w.heap.size + 1 := by show (w.alloc (.cells #[.string d.acc, .string d.sec, .string d.desc, pv, rv, .slice sa d.sl sc, .slice na d.nl nc, .bool d.loc, .int .i64 d.ct, .int .i64 d.et, hv, .int .u64 d.ci, .int .u64 d.mi] 33)).heap.size = _; simp
    have z2 := hB2.size
    have z3 := hB3.size
    have z4 := hB4.size
    have z5 := hB5.size
    have z6 := hB6.size
    rw [hw0] at z2 hS1
    have HBT : Hid (BT (w.alloc (.cells #[.string d.acc, .string d.sec, .string d.desc, pv, rv, .slice sa d.sl sc, .slice na d.nl nc, .bool d.loc, .int .i64 d.ct, .int .i64 d.et, hv, .int .u64 d.ci, .int .u64 d.mi] 33)) (w6.alloc (.cells (tC d (.slice xa1 d.pl xc1) (.slice xa2 d.rl xc2) (.slice none 0 0) (.slice none 0 0) (.slice xa6 d.hl xc6)) 45)) (w.heap.size + 1) d w6.heap.size (fun b => if b < w2.heap.size then 0 else if b < w3.heap.size then 1 else 2) (.slice xa1 d.pl xc1) (.slice xa2 d.rl xc2) (.slice none 0 0) (.slice none 0 0) (.slice xa6 d.hl xc6)) := by
      have k6 : ∀ b, b < w6.heap.size → (w6.alloc (.cells (tC d (.slice xa1 d.pl xc1) (.slice xa2 d.rl xc2) (.slice none 0 0) (.slice none 0 0) (.slice xa6 d.hl xc6)) 45)).heap[b]? = w6.heap[b]? := fun b hb => Below.heap_alloc w6 _ b hb
      have k3 : ∀ b, b < w3.heap.size → (w6.alloc (.cells (tC d (.slice xa1 d.pl xc1) (.slice xa2 d.rl xc2) (.slice none 0 0) (.slice none 0 0) (.slice xa6 d.hl xc6)) 45)).heap[b]? = w3.heap[b]? := fun b hb => (k6 b (by omega)).trans ((hB6.block b (by omega)).trans ((hB5.block b (by omega)).trans (hB4.block b hb)))
      refine ⟨(by go_split_ands; assumption), Go.Deep.blk_alloc_new _ _, by omega, hS1.mono fun b h1 h2 => ⟨⟨h2, by omega, if_pos h1⟩, (k3 b (by omega)).trans (hB3.block b h1)⟩, hS2.mono fun b h1 h2 => ⟨⟨by omega, by omega, (if_neg (by omega)).trans (if_pos h1)⟩, k3 b h1⟩, hS6.mono fun b h1 h2 => ⟨⟨by omega, by omega, (if_neg (by omega)).trans (if_neg (by omega))⟩, k6 b h1⟩⟩
    go_wp2_with fail
    go_meet
    case rel => exact ⟨_, _, _, _, _, _, _, _, rfl, HBT⟩
  case rest =>
    obtain ⟨tb, tg, xa1, xa2, xa6, xc1, xc2, xc6, rfl, HT⟩ := hcut
    have hc5 : wc.cell? ⟨w.heap.size, 5, none⟩ = some (.slice sa d.sl sc) := keepC' HT.out.be (by simp) (by simp [go_sem])
    have hn1 := fun w => run_neq_slice_nil (P := Try.prog) w 29 51 sa d.sl sc Try.underlying29
    rw [ez1] at hn1
    have HSa : Hid (0 < d.sl → sa = some ⟨sb, so, none⟩) := hSa
    have HSc : Hid (∀ i, i < d.sl * 2 → w.cell? ⟨sb, so + i, none⟩ = some (svcV d.sN dv i)) := hSc
    have HNa : Hid (0 < d.nl → na = some ⟨nb, no, none⟩) := hNa
    have HNc : Hid (∀ i, i < d.nl * 2 → w.cell? ⟨nb, no + i, none⟩ = some (nodV d.nA d.nB i)) := hNc
    clear hSa hSc hNa hNc HS0 K1 K2 K3 K4 K5
    go_upto_if 39 with fail
    go_cut [] from 37 to 71 (fun wx => ∃ (tg : Nat → Nat) (xa3 : Option Addr) (xc3 : Nat) (dv' : Nat → Value), Hid (BS (w.alloc (.cells #[.string d.acc, .string d.sec, .string d.desc, pv, rv, .slice sa d.sl sc, .slice na d.nl nc, .bool d.loc, .int .i64 d.ct, .int .i64 d.et, hv, .int .u64 d.ci, .int .u64 d.mi] 33)) wx (w.heap.size + 1) d tb tg (.slice xa1 d.pl xc1) (.slice xa2 d.rl xc2) (.slice xa3 d.sl xc3) (.slice none 0 0) (.slice xa6 d.hl xc6) dv'))
    case first =>
      cases hz : d.sz
      · have hmk := run_make_rowS (P := Try.prog) 37 61 _ 2 40 Try.underlying37 Try.info61 .i64 .i64 d.sl (by have := Hd.out.sl; omega) (by have := Hd.out.sl; omega)
        have b4 := Hd.out.sl
        rw [hz] at hn1
        go_wp2_with fail
        have hBsz : w.heap.size + 1 ≤ wc.heap.size := Nat.le_trans (by simp) HT.out.be.size
        go_loopw [5] (fun i wr => ∃ k : Nat, k ≤ d.sl ∧ i = .int .i64 k ∧ Hid (BK (w.alloc (.cells #[.string d.acc, .string d.sec, .string d.desc, pv, rv, .slice sa d.sl sc, .slice na d.nl nc, .bool d.loc, .int .i64 d.ct, .int .i64 d.et, hv, .int .u64 d.ci, .int .u64 d.mi] 33)) wr (w.heap.size + 1) d tb wc.heap.size k (.slice xa1 d.pl xc1) (.slice xa2 d.rl xc2) (.slice xa6 d.hl xc6))) (fun i _ => d.sl - (intOf i).toNat)
        case atStart =>
          have htl := lt_of_block HT.out.tok
          exact ⟨0, Nat.zero_le _, rfl, ⟨fun b => if b < wc.heap.size then tg b else 3, fun _ => undef, _, HT.out.grow ((Below.refl _ _).alloc (Nat.le_refl _) _) hBsz (fun b hb => if_pos hb), Go.Deep.blk_alloc_new _ _, size_madeCells _ _, fun j hj => absurd hj (by omega), if_neg (by omega), hBsz, by omega, fun q hq => absurd hq (by omega)⟩⟩
        case round =>
          clear hc5
          obtain ⟨k, hk, rfl, HK⟩ := hrel
          by_cases hlt : k < d.sl
          · have hk1 : (k : Int) < (d.sl : Int) := by omega
            have ea := HSa.out (by omega)
            subst ea
            obtain ⟨tg1, dv1, cur, hbt, hg, hcz, hcc, htg, hBg, hgt, hds⟩ := HK.out.ex
            have hc5 : wr.cell? ⟨w.heap.size, 5, none⟩ = some (.slice (some ⟨sb, so, none⟩) d.sl sc) := keepC' hbt.be (by simp) (by simp [go_sem])
            have hbw : Below w.heap.size w wr := keepB' HW.out hbt.be
            have hy0 : wr.cell? ⟨sb, so + k * 2, none⟩ = some (.string (d.sN k)) := keepC' hbw (by have := lt_of_cell (HSc.out (k * 2) (by omega)); simpa using this) ((HSc.out (k * 2) (by omega)).trans (by rw [svcV_0]))
            have hy1 : wr.cell? ⟨sb, so + k * 2 + 1, none⟩ = some (dv k) := by rw [Nat.add_assoc]; exact keepC' hbw (by have := lt_of_cell (HSc.out (k * 2 + 1) (by omega)); simpa using this) ((HSc.out (k * 2 + 1) (by omega)).trans (by rw [svcV_1]))
            obtain ⟨da, db, dof, dc, hdk, ezd, hDa, hDc⟩ := HB.out.ds k hlt
            clear ezd hDa hDc
            have Kd : Hid (∀ wx, Below (w.heap.size + 1) (w.alloc (.cells #[.string d.acc, .string d.sec, .string d.desc, pv, rv, .slice (some ⟨sb, so, none⟩) d.sl sc, .slice na d.nl nc, .bool d.loc, .int .i64 d.ct, .int .i64 d.et, hv, .int .u64 d.ci, .int .u64 d.mi] 33)) wx → Calls Try.prog 23 #[.slice da (d.dl k) dc] wx fun e w' => ∃ v', e = .returned v' ∧ Slot w' (fun b => wx.heap.size ≤ b) v' (d.dz k) (d.dl k) (d.dl k) (fun i => .string (d.dN k i)) ∧ Below wx.heap.size wx w') := by
              rw [← hdk]
              exact fun wx h => copyStrs_any (dv k) (d.dz k) (d.dl k) (d.dN k) wx (Hd.out.dl k hlt) ((HB.out.ds k hlt).below (keepB' HW.out h) (Nat.le_refl _)) (HN.out.ds k hlt)
            rw [hdk] at hy1
            clear hdk
            have hgl : wc.heap.size < wr.heap.size := lt_of_block hg
            have hsbl : sb < w.heap.size := by have := lt_of_cell (HSc.out (k * 2) (by omega)); simpa using this
            have Hg : Hid (wr.heap[wc.heap.size]? = some (.cells cur 61 (0, 0))) := hg
            have Hcz : Hid (cur.size = d.sl * 2) := hcz
            have Hcc : Hid (∀ j, j < k * 2 → cur[j]? = some (svcV d.sN dv1 j)) := hcc
            have Hds : Hid (∀ q, q < k → Slot wr (fun b => w.heap.size + 1 ≤ b ∧ b ≠ tb ∧ tg1 b = 5 + q) (dv1 q) (d.dz q) (d.dl q) (d.dl q) (fun i => .string (d.dN q i))) := hds
            have Hbt : Hid (BT (w.alloc (.cells #[.string d.acc, .string d.sec, .string d.desc, pv, rv, .slice (some ⟨sb, so, none⟩) d.sl sc, .slice na d.nl nc, .bool d.loc, .int .i64 d.ct, .int .i64 d.et, hv, .int .u64 d.ci, .int .u64 d.mi] 33)) wr (w.heap.size + 1) d tb tg1 (.slice xa1 d.pl xc1) (.slice xa2 d.rl xc2) (.slice none 0 0) (.slice none 0 0) (.slice xa6 d.hl xc6)) := hbt
            have HS1 : Hid ((fun w' => w'.cell? ⟨w.heap.size, 5, none⟩ = some (.slice (some ⟨sb, so, none⟩) d.sl sc) ∧ w'.cell? ⟨sb, so + k * 2, none⟩ = some (.string (d.sN k)) ∧ w'.cell? ⟨sb, so + k * 2 + 1, none⟩ = some (.slice da (d.dl k) dc) ∧ Below (w.heap.size + 1) (w.alloc (.cells #[.string d.acc, .string d.sec, .string d.desc, pv, rv, .slice (some ⟨sb, so, none⟩) d.sl sc, .slice na d.nl nc, .bool d.loc, .int .i64 d.ct, .int .i64 d.et, hv, .int .u64 d.ci, .int .u64 d.mi] 33)) w') wr.drew) := ⟨hc5, hy0, hy1, hbt.be.drew⟩
            obtain ⟨o0, ho0⟩ : ∃ o, cur[k * 2]? = some o := ⟨_, Array.getElem?_eq_getElem (by omega)⟩
            obtain ⟨o1, ho1⟩ : ∃ o, cur[k * 2 + 1]? = some o := ⟨_, Array.getElem?_eq_getElem (by omega)⟩
            have Ho0 : Hid (cur[k * 2]? = some o0) := ho0
            have Ho1 : Hid (cur[k * 2 + 1]? = some o1) := ho1
            clear hg hcz hcc hds hbt ho0 ho1
            go_wp2_with fail
            go_region_held3 (fun w' => w'.cell? ⟨w.heap.size, 5, none⟩ = some (.slice (some ⟨sb, so, none⟩) d.sl sc) ∧ w'.cell? ⟨sb, so + k * 2, none⟩ = some (.string (d.sN k)) ∧ w'.cell? ⟨sb, so + k * 2 + 1, none⟩ = some (.slice da (d.dl k) dc) ∧ Below (w.heap.size + 1) (w.alloc (.cells #[.string d.acc, .string d.sec, .string d.desc, pv, rv, .slice (some ⟨sb, so, none⟩) d.sl sc, .slice na d.nl nc, .bool d.loc, .int .i64 d.ct, .int .i64 d.et, hv, .int .u64 d.ci, .int .u64 d.mi] 33)) w') ((first | exact HS1.out | (go_split_ands; (repeat' apply And.intro) <;> first | assumption | (refine keepC hB2 ?_; assumption) | (refine keepB hB2 ?_ (by simp); assumption) | (refine cell_two ?_ ?_; assumption; omega) | (refine below_two ?_ _ _ _ _ _ ?_; assumption; omega)))) ((first
    | (go_at_call 23; (with_reducible (refine Calls.mono (Kd.out _ ?hz) ?_)); (case hz => (go_split_ands; assumption)); rintro _ w2 ⟨xv, rfl, hX, hB2⟩; have hXc := hX; obtain ⟨xa, xb, xc, rfl, hxx, hyy⟩ := hXc; clear hxx hyy; have Hg2 : Hid (w2.heap[wc.heap.size]? = some (.cells cur 61 (0, 0))) := (hB2.block _ hgl).trans Hg.out; have hq0 : w2.cell? ⟨wc.heap.size, k * 2, none⟩ = some o0 := (cell_of_row _ _ _ _ _ _ Hg2.out).trans Ho0.out; have hq1 : w2.cell? ⟨wc.heap.size, k * 2 + 1, none⟩ = some o1 := (cell_of_row _ _ _ _ _ _ Hg2.out).trans Ho1.out; have hf0 : w2.frozen? ⟨wc.heap.size, k * 2, none⟩ = false := frozen_of_row _ _ _ _ _ Hg2.out; have hf1 : w2.frozen? ⟨wc.heap.size, k * 2 + 1, none⟩ = false := frozen_of_row _ _ _ _ _ Hg2.out)))
            have HX := BK.step Hbt.out Hg.out Hcz.out Hcc.out htg hBg hgt Hds.out (Nat.le_trans (by simp) Hbt.out.be.size) (⟨hB2.os, hB2.tape, hB2.output, hB2.size, hB2.block⟩ : Below wr.heap.size wr w2) hX hlt
            have HX' : Hid _ := HX
            clear HX hX
            go_wp2_with fail
            refine ⟨?_, ?measure⟩
            (repeat apply Exists.intro)
            (refine And.intro ?rel ?eqq)
            case eqq => rfl
            case rel => exact ⟨k + 1, by omega, by go_num, HX'⟩
            case measure => simp [intOf]; omega
          · obtain rfl : k = d.sl := by omega
            obtain ⟨tg2, dv2, hbs⟩ := HK.out.done hz
            obtain ⟨_, _, _, hbt, _⟩ := HK.out.ex
            have hq5 : wr.cell? ⟨tb, 5, none⟩ = some (.slice none 0 0) := (cell_of_row _ _ _ _ _ _ hbt.tok).trans rfl
            have hf5 : wr.frozen? ⟨tb, 5, none⟩ = false := frozen_of_row _ _ _ _ _ hbt.tok
            have HS : Hid _ := hbs
            clear hbt hbs
            go_wp2_with fail
            go_meet
            case rel => exact ⟨tg2, _, _, dv2, HS⟩
      · have hl0 := hsz hz
        rw [hz] at hn1
        go_wp2_with fail
        go_meet
        case rel => exact ⟨tg, none, 0, fun _ => undef, ⟨by rw [show (Value.slice none d.sl 0) = .slice none 0 0 by rw [hl0]]; exact HT.out, ⟨none, 0, 0, rfl, by rw [hz]; rfl, fun h => absurd h (by omega)⟩, fun k hk => absurd hk (by omega)⟩⟩
    case rest =>
      obtain ⟨tg2, xa3, xc3, dv2, HS⟩ := hcut
      have hc6 : wc.cell? ⟨w.heap.size, 6, none⟩ = some (.slice na d.nl nc) := keepC' HS.out.bt.be (by simp) (by simp [go_sem])
      have hn2 := fun w => run_neq_slice_nil (P := Try.prog) w 30 53 na d.nl nc Try.underlying30
      rw [ez2] at hn2
      clear HSa HSc
      cases hz : d.nz
      · have hmk := run_make_rowS (P := Try.prog) 38 62 _ 2 32 Try.underlying38 Try.info62 .i64 .i64 d.nl (by have := Hd.out.nl; omega) (by have := Hd.out.nl; omega)
        have b4 := Hd.out.nl
        rw [hz] at hn2
        go_wp2_with fail
        have hBsz : w.heap.size + 1 ≤ wc.heap.size := Nat.le_trans (by simp) HS.out.bt.be.size
        go_loopw [7] (fun i wr => ∃ k : Nat, k ≤ d.nl ∧ i = .int .i64 k ∧ Hid (BN (w.alloc (.cells #[.string d.acc, .string d.sec, .string d.desc, pv, rv, .slice sa d.sl sc, .slice na d.nl nc, .bool d.loc, .int .i64 d.ct, .int .i64 d.et, hv, .int .u64 d.ci, .int .u64 d.mi] 33)) wr (w.heap.size + 1) d tb wc.heap.size k (.slice xa1 d.pl xc1) (.slice xa2 d.rl xc2) (.slice xa3 d.sl xc3) (.slice xa6 d.hl xc6))) (fun i _ => d.nl - (intOf i).toNat)
        case atStart =>
          have htl := lt_of_block HS.out.bt.tok
          exact ⟨0, Nat.zero_le _, rfl, ⟨fun b => if b < wc.heap.size then tg2 b else 4, dv2, _, HS.out.move (HS.out.bt.be.alloc hBsz _) ((Below.heap_alloc _ _ _ htl).trans HS.out.bt.tok) (fun b h1 _ _ => ⟨if_pos h1, Below.heap_alloc _ _ _ h1⟩), Go.Deep.blk_alloc_new _ _, size_madeCells _ _, fun j hj => absurd hj (by omega), if_neg (by omega), hBsz, by omega⟩⟩
        case round =>
          clear hc6
          obtain ⟨k, hk, rfl, HK⟩ := hrel
          by_cases hlt : k < d.nl
          · have hk1 : (k : Int) < (d.nl : Int) := by omega
            have ea := HNa.out (by omega)
            subst ea
            obtain ⟨tg1, dv1, cur, hbs, hg, hcz, hcc, htg, hBg, hgt⟩ := HK.out.ex
            have hc6 : wr.cell? ⟨w.heap.size, 6, none⟩ = some (.slice (some ⟨nb, no, none⟩) d.nl nc) := keepC' hbs.bt.be (by simp) (by simp [go_sem])
            have hbw : Below w.heap.size w wr := keepB' HW.out hbs.bt.be
            have hy0 : wr.cell? ⟨nb, no + k * 2, none⟩ = some (.string (d.nA k)) := keepC' hbw (by have := lt_of_cell (HNc.out (k * 2) (by omega)); simpa using this) ((HNc.out (k * 2) (by omega)).trans (by rw [nodV_0]))
            have hy1 : wr.cell? ⟨nb, no + k * 2 + 1, none⟩ = some (.string (d.nB k)) := by rw [Nat.add_assoc]; exact keepC' hbw (by have := lt_of_cell (HNc.out (k * 2 + 1) (by omega)); simpa using this) ((HNc.out (k * 2 + 1) (by omega)).trans (by rw [nodV_1]))
            obtain ⟨o0, ho0⟩ : ∃ o, cur[k * 2]? = some o := ⟨_, Array.getElem?_eq_getElem (by omega)⟩
            obtain ⟨o1, ho1⟩ : ∃ o, cur[k * 2 + 1]? = some o := ⟨_, Array.getElem?_eq_getElem (by omega)⟩
            have hq0 : wr.cell? ⟨wc.heap.size, k * 2, none⟩ = some o0 := (cell_of_row _ _ _ _ _ _ hg).trans ho0
            have hq1 : wr.cell? ⟨wc.heap.size, k * 2 + 1, none⟩ = some o1 := (cell_of_row _ _ _ _ _ _ hg).trans ho1
            have hf0 : wr.frozen? ⟨wc.heap.size, k * 2, none⟩ = false := frozen_of_row _ _ _ _ _ hg
            have hf1 : wr.frozen? ⟨wc.heap.size, k * 2 + 1, none⟩ = false := frozen_of_row _ _ _ _ _ hg
            have HX := BN.step hbs hg hcz hcc htg hBg hgt hlt
            have HX' : Hid _ := HX
            clear HX hbs hg hcz hcc ho0 ho1
            go_wp2_with fail
            go_region
            go_wp2_with fail
            go_roundw
            case rel => exact ⟨k + 1, by omega, by go_num, HX'⟩
            case measure => simp [intOf]; omega
          · obtain rfl : k = d.nl := by omega
            obtain ⟨tg3, dv3, hbf⟩ := HK.out.done hz
            obtain ⟨_, _, _, hbs, _⟩ := HK.out.ex
            have hq5 : wr.cell? ⟨tb, 6, none⟩ = some (.slice none 0 0) := (cell_of_row _ _ _ _ _ _ hbs.bt.tok).trans rfl
            have hf5 : wr.frozen? ⟨tb, 6, none⟩ = false := frozen_of_row _ _ _ _ _ hbs.bt.tok
            have HF : Hid _ := hbf
            clear hbs hbf
            go_wp2_with fail
            go_ret
            exact ⟨tb, tg3, _, _, _, _, _, dv3, rfl, keepB' HW.out HF.out.bs.bt.be, Nat.le_of_succ_le HF.out.bs.bt.ge, HF.out.bs.bt.tok, HF.out.tslot _ (by omega)⟩
      · have hl0 := hnz hz
        rw [hz] at hn2
        have HF : Hid (BF (w.alloc (.cells #[.string d.acc, .string d.sec, .string d.desc, pv, rv, .slice sa d.sl sc, .slice na d.nl nc, .bool d.loc, .int .i64 d.ct, .int .i64 d.et, hv, .int .u64 d.ci, .int .u64 d.mi] 33)) wc (w.heap.size + 1) d tb tg2 (.slice xa1 d.pl xc1) (.slice xa2 d.rl xc2) (.slice xa3 d.sl xc3) (.slice none 0 0) (.slice xa6 d.hl xc6) dv2) := ⟨HS.out, ⟨none, 0, 0, by rw [hl0], by rw [hz]; rfl, fun h => absurd h (by omega)⟩⟩
        go_wp2_with fail
        go_ret
        exact ⟨tb, tg2, _, _, _, _, _, dv2, rfl, keepB' HW.out HF.out.bs.bt.be, Nat.le_of_succ_le HF.out.bs.bt.ge, HF.out.bs.bt.tok, HF.out.tslot _ (by omega)⟩
end Go.Proofs.Qxb6609019a
