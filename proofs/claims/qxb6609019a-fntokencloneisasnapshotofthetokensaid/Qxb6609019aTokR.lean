import Derived.Test.Qxb6609019aTokP
namespace Go.Proofs.Qxb6609019a
open Go.RowKit

set_option maxHeartbeats 4000000 in
set_option maxRecDepth 100000 in
theorem law6 (d : TD) (pv rv sv nv hv : Value) (dv : Nat → Value) (w : World) (hN : NilOk d)
    (hct : -9223372036854775808 ≤ d.ct) (hct' : d.ct ≤ 9223372036854775807) (het : -9223372036854775808 ≤ d.et) (het' : d.et ≤ 9223372036854775807) (hsz : d.sz = true → d.sl = 0) (hnz : d.nz = true → d.nl = 0) (hB : FArg w d pv rv sv nv hv dv) :
    Calls Try.prog 6 #[.agg (fC d pv rv sv nv hv)] w fun e w' => e = .returned (.bool true) ∧ Below w.heap.size w w' := by
  have HN : Hid (NilOk d) := hN
  have HA : Hid (FArg w d pv rv sv nv hv dv) := hB
  have HT : Hid (-9223372036854775808 ≤ d.ct ∧ d.ct ≤ 9223372036854775807 ∧ -9223372036854775808 ≤ d.et ∧ d.et ≤ 9223372036854775807) := ⟨hct, hct', het, het'⟩
  have HZ : Hid ((d.sz = true → d.sl = 0) ∧ (d.nz = true → d.nl = 0)) := ⟨hsz, hnz⟩
  clear hN hB hct hct' het het' hsz hnz
  have HL0 : Hid (LS w (fC d pv rv sv nv hv) (w.alloc (.cells (fC d pv rv sv nv hv) 33))) := ⟨(Below.refl _ _).alloc (Nat.le_refl _) _, Go.Deep.blk_alloc_new _ _⟩
  go_enter Try.func6, Try.ntmps6
  go_wp2_with (refine wpList_load_row rfl 33 (.tmp 1) rfl w.heap.size rfl 33 (fC d pv rv sv nv hv) (0, 0) _ HL0.out.box Try.underlying33 rfl (Try.size33 _ rfl) ?_)
  refine (bytes18_any d pv rv sv nv hv dv _ (HA.out.below HL0.out.be (Nat.le_refl _))).mono ?_
  rintro _ w1 ⟨⟨x, rfl, hx⟩, hB1⟩
  have HL1 : Hid (LS w (fC d pv rv sv nv hv) w1) := HL0.out.call hB1
  clear hB1
  by_cases ex : x = 0
  rotate_left
  · have ed : decide (x = 0) = false := decide_eq_false ex
    rw [ed]
    clear ed hx
    go_wp2_with fail
    go_ret
    exact ⟨rfl, HL1.out.be⟩
  have Hd : Hid (Bd d) := hx ex
  have ed : decide (x = 0) = true := decide_eq_true ex
  rw [ed]
  clear ed hx ex
  go_wp2_with (refine wpList_load_row rfl 33 (.tmp 1) rfl w.heap.size rfl 33 (fC d pv rv sv nv hv) (0, 0) _ HL1.out.box Try.underlying33 rfl (Try.size33 _ rfl) ?_)
  refine (tooBig_any d pv rv sv nv hv dv _ Hd.out (HA.out.below HL1.out.be (Nat.le_refl _))).mono ?_
  rintro _ w2 ⟨⟨y, rfl⟩, hB2⟩
  have HL2 : Hid (LS w (fC d pv rv sv nv hv) w2) := HL1.out.call hB2
  clear hB2
  by_cases ey : y < 0
  · have ed : decide (y < 0) = true := decide_eq_true ey
    rw [ed]
    clear ed
    go_wp2_with fail
    go_ret
    exact ⟨rfl, HL2.out.be⟩
  have ed : decide (y < 0) = false := decide_eq_false ey
  rw [ed]
  clear ed ey
  go_wp2_with (refine wpList_load_row rfl 33 (.tmp 1) rfl w.heap.size rfl 33 (fC d pv rv sv nv hv) (0, 0) _ HL2.out.box Try.underlying33 rfl (Try.size33 _ rfl) ?_)
  refine (build_any d pv rv sv nv hv dv _ Hd.out HN.out HT.out.1 HT.out.2.1 HT.out.2.2.1 HT.out.2.2.2 HZ.out.1 HZ.out.2 (HA.out.below HL2.out.be (Nat.le_refl _))).mono ?_
  rintro _ w3 ⟨tb, tg, p0, r0, s0, n0, h0, dv0, rfl, hB3, hge, htok, hts⟩
  have HL3 : Hid (LS w (fC d pv rv sv nv hv) w3) := HL2.out.call hB3
  have HG : Hid (w2.heap.size ≤ tb) := hge
  have HK3 : Hid (w3.heap[tb]? = some (.cells (tC d p0 r0 s0 n0 h0) 45 (0, 0))) := htok
  have HS3 : Hid (TSlot w3 (fun j b => w2.heap.size ≤ b ∧ b < w3.heap.size ∧ b ≠ tb ∧ tg b = j) d d.sz d.nz p0 r0 s0 n0 h0 dv0) := hts
  clear hB3 hge htok hts
  go_wp2_with fail
  refine (zclone_any d d.sz d.nz p0 r0 s0 n0 h0 dv0 tb w3 Hd.out.ln HN.out HK3.out HS3.out.arg).mono ?_
  rintro _ w4 ⟨p1, r1, s1, n1, h1, dv1, tg1, rfl, hB4, hts⟩
  have HL4 : Hid (LS w (fC d pv rv sv nv hv) w4) := HL3.out.call hB4
  have HB4 : Hid (Below w3.heap.size w3 w4) := hB4
  have HS4 : Hid (TSlot w4 (fun j b => w3.heap.size ≤ b ∧ b < w4.heap.size ∧ tg1 b = j) d false false p1 r1 s1 n1 h1 dv1) := hts
  clear hB4 hts
  go_wp2_with (refine wpList_store_abs (by rfl) 45 (.tmp 4) (.tmp 14) (by rfl) w4.heap.size (tC d p1 r1 s1 n1 h1) (by rfl) (by rfl) 45 ?old ?hg (Try.size45 _ rfl) ?hold (tC_one _ _ _ _ _ _ HS4.out.p.one HS4.out.r.one HS4.out.s.one HS4.out.n.one HS4.out.h.one) ?next)
  case hg => exact Go.Deep.blk_alloc_new _ _
  case hold => rfl
  case next =>
    intro w5 hB5 hb5 hs5 ho5
    have hB5' := laid hB5
    have HL5 : Hid (LS w (fC d pv rv sv nv hv) w5) := HL4.out.call hB5'
    have HB5 : Hid (Below w4.heap.size w4 w5) := hB5'
    have HK5 : Hid (w5.heap[w4.heap.size]? = some (.cells (tC d p1 r1 s1 n1 h1) 45 (0, 0))) := hb5
    have hz5 : w5.heap.size = w4.heap.size + 1 := hs5.trans (by simp)
    clear hB5 hb5 hs5 ho5 hB5'
    have HS5 : Hid (TSlot w5 (fun j b => w2.heap.size ≤ b ∧ b < w3.heap.size ∧ b ≠ tb ∧ tg b = j) d d.sz d.nz p0 r0 s0 n0 h0 dv0) := HS3.out.below (HB4.out.trans (HB5.out.mono HB4.out.size))
    have HC5 : Hid (TSlot w5 (fun j b => w3.heap.size ≤ b ∧ b < w4.heap.size ∧ tg1 b = j) d false false p1 r1 s1 n1 h1 dv1) := HS4.out.below HB5.out
    have htb3 := lt_of_block HK3.out
    have hz4 := HB4.out.size
    have HT5 : Hid (w5.heap[tb]? = some (.cells (tC d p0 r0 s0 n0 h0) 45 (0, 0))) := (HB5.out.block _ (by omega)).trans ((HB4.out.block _ htb3).trans HK3.out)
    go_wp2_with fail
    refine (mutate_any d (fun j b => w2.heap.size ≤ b ∧ b < w3.heap.size ∧ b ≠ tb ∧ tg b = j) d.sz d.nz p0 r0 s0 n0 h0 dv0 tb w5 Hd.out (fun i j b h1 h2 => h1.2.2.2.symm.trans h2.2.2.2) (fun j h => h.2.2.1 rfl) HT5.out HS5.out).mono ?_
    rintro _ w6 ⟨rfl, hts6, hfr⟩
    have hl2 := HL2.out.lt
    have HL6 : Hid (LS w (fC d pv rv sv nv hv) w6) := HL5.out.fr hfr (fun j b h => by have := h.1; omega)
    have HS6 : Hid (TSlot w6 (fun j b => w2.heap.size ≤ b ∧ b < w3.heap.size ∧ b ≠ tb ∧ tg b = j) (mutD d) d.sz d.nz p0 r0 s0 n0 h0 dv0) := hts6
    have HT6 : Hid (w6.heap[tb]? = some (.cells (tC d p0 r0 s0 n0 h0) 45 (0, 0))) := (hfr.block _ (fun j h => h.2.2.1 rfl)).trans HT5.out
    have HK6 : Hid (w6.heap[w4.heap.size]? = some (.cells (tC d p1 r1 s1 n1 h1) 45 (0, 0))) := (hfr.block _ (fun j h => by have := h.2.1; omega)).trans HK5.out
    have HC6 : Hid (TSlot w6 (fun j b => w3.heap.size ≤ b ∧ b < w4.heap.size ∧ tg1 b = j) d false false p1 r1 s1 n1 h1 dv1) := HC5.out.mono fun j b _ h => ⟨h, hfr.block b (fun k hk => by have := hk.2.1; have := h.1; omega)⟩
    clear hts6 hfr
    go_wp2_with fail
    refine (zclone_any (mutD d) d.sz d.nz p0 r0 s0 n0 h0 dv0 tb w6 (mutD_ln Hd.out.ln) (mutD_nil HN.out) HT6.out HS6.out.arg).mono ?_
    rintro _ w7 ⟨p2, r2, s2, n2, h2, dv2, tg2, rfl, hB7, hts⟩
    have HL7 : Hid (LS w (fC d pv rv sv nv hv) w7) := HL6.out.call hB7
    have HB7 : Hid (Below w6.heap.size w6 w7) := hB7
    have HS7 : Hid (TSlot w7 (fun j b => w6.heap.size ≤ b ∧ b < w7.heap.size ∧ tg2 b = j) (mutD d) false false p2 r2 s2 n2 h2 dv2) := hts
    clear hB7 hts
    go_wp2_with (refine wpList_store_abs (by rfl) 45 (.tmp 5) (.tmp 18) (by rfl) w7.heap.size (tC (mutD d) p2 r2 s2 n2 h2) (by rfl) (by rfl) 45 ?old7 ?hg7 (Try.size45 _ rfl) ?hold7 (tC_one _ _ _ _ _ _ HS7.out.p.one HS7.out.r.one HS7.out.s.one HS7.out.n.one HS7.out.h.one) ?next7)
    case hg7 => exact Go.Deep.blk_alloc_new _ _
    case hold7 => rfl
    case next7 =>
      intro w8 hB8 hb8 hs8 ho8
      have hB8' := laid hB8
      have HL8 : Hid (LS w (fC d pv rv sv nv hv) w8) := HL7.out.call hB8'
      have HB8 : Hid (Below w7.heap.size w7 w8) := hB8'
      have HD8 : Hid (w8.heap[w7.heap.size]? = some (.cells (tC d p2 r2 s2 n2 h2) 45 (0, 0))) := hb8
      have HB68 : Hid (Below w6.heap.size w6 w8) := HB7.out.trans (hB8'.mono HB7.out.size)
      have HK8 : Hid (w8.heap[w4.heap.size]? = some (.cells (tC d p1 r1 s1 n1 h1) 45 (0, 0))) := (HB68.out.block _ (lt_of_block HK6.out)).trans HK6.out
      have HC8 : Hid (TSlot w8 (fun j b => w3.heap.size ≤ b ∧ b < w4.heap.size ∧ tg1 b = j) d false false p1 r1 s1 n1 h1 dv1) := HC6.out.below HB68.out
      have HS8 : Hid (TSlot w8 (fun j b => w6.heap.size ≤ b ∧ b < w7.heap.size ∧ tg2 b = j) (mutD d) false false p2 r2 s2 n2 h2 dv2) := HS7.out.below HB8.out
      clear hB8 hb8 hs8 ho8 hB8'
      go_wp2_with (first | (refine wpList_load_row rfl 45 (.tmp 4) rfl w4.heap.size rfl 45 (tC d p1 r1 s1 n1 h1) (0, 0) _ HK8.out Try.underlying45 rfl (Try.size45 _ rfl) ?_) | (refine wpList_load_row rfl 33 (.tmp 1) rfl w.heap.size rfl 33 (fC d pv rv sv nv hv) (0, 0) _ HL8.out.box Try.underlying33 rfl (Try.size33 _ rfl) ?_))
      refine (matches_true d false true false false p1 r1 s1 n1 h1 dv1 pv rv sv nv hv dv w8 Hd.out HT.out.1 HT.out.2.1 HT.out.2.2.1 HT.out.2.2.2 (fun _ => ⟨rfl, rfl⟩) (fun h => by cases h) HC8.out.arg (HA.out.below HL8.out.be (Nat.le_refl _))).mono ?_
      rintro _ w9 ⟨rfl, hB9⟩
      have HL9 : Hid (LS w (fC d pv rv sv nv hv) w9) := HL8.out.call hB9
      have HD9 : Hid (w9.heap[w7.heap.size]? = some (.cells (tC d p2 r2 s2 n2 h2) 45 (0, 0))) := (hB9.block _ (lt_of_block HD8.out)).trans HD8.out
      have HS9 : Hid (TSlot w9 (fun j b => w6.heap.size ≤ b ∧ b < w7.heap.size ∧ tg2 b = j) (mutD d) false false p2 r2 s2 n2 h2 dv2) := HS8.out.below hB9
      clear hB9
      go_wp2_with (first | (refine wpList_load_row_w rfl 45 (.tmp 5) rfl w7.heap.size rfl 45 (tC d p2 r2 s2 n2 h2) (0, 0) _ HD9.out Try.underlying45 rfl (Try.size45 _ rfl) ?_) | (refine wpList_load_row_w rfl 33 (.tmp 1) rfl w.heap.size rfl 33 (fC d pv rv sv nv hv) (0, 0) _ HL9.out.box Try.underlying33 rfl (Try.size33 _ rfl) ?_))
      refine (matches_true d true true false false p2 r2 s2 n2 h2 dv2 pv rv sv nv hv dv w9 Hd.out HT.out.1 HT.out.2.1 HT.out.2.2.1 HT.out.2.2.2 (fun _ => ⟨rfl, rfl⟩) (fun h => by cases h) HS9.out.argM (HA.out.below HL9.out.be (Nat.le_refl _))).mono ?_
      rintro _ w10 ⟨rfl, hB10⟩
      have HL10 : Hid (LS w (fC d pv rv sv nv hv) w10) := HL9.out.call hB10
      clear hB10
      go_wp2_with fail
      go_ret
      exact ⟨rfl, HL10.out.be⟩
end Go.Proofs.Qxb6609019a
