import Derived.Test.Qxb6609019aTokP
namespace Go.Proofs.Qxb6609019a
open Go.RowKit

/-- The frame at the last statement. -/
abbrev actQ (F C1 C2 : Array Value) (n tb b4 b6 : Nat) (s : Nat → Value) : Act := { tmps := #[.agg F, .pointer (some ⟨n, 0, none⟩), s 2, .pointer (some ⟨tb, 0, none⟩), .pointer (some ⟨b4, 0, none⟩), .pointer (some ⟨b6, 0, none⟩), .agg F, .bool true, .bool false, .agg F, .bool false, .agg F, .pointer (some ⟨tb, 0, none⟩), .pointer (some ⟨tb, 0, none⟩), .agg C1, .agg C2, .tuple #[], s 17, s 18, s 19, s 20, s 21, s 22, s 23, s 24, s 25, s 26], defers := [] }

/-- The last statement, under way: L: what has come up; s: the slots. -/
structure QI (W : World) (F C2 T : Array Value) (tb : Nat) (L : Nat → Bool) (s : Nat → Value) (wx : World) : Prop where
  be : Below W.heap.size W wx
  h0 : L 0 = true → s 17 = .agg C2
  h1 : L 1 = true → s 18 = .agg F
  h2 : L 2 = true → s 19 = .bool true
  h3 : L 3 = true → s 20 = .bool true
  h4 : L 4 = true → s 21 = .pointer (some ⟨tb, 0, none⟩)
  h5 : L 5 = true → s 22 = .pointer (some ⟨tb, 0, none⟩)
  h6 : L 6 = true → s 23 = .agg T
  h7 : L 7 = true → s 24 = .agg F
  h8 : L 8 = true → s 25 = .bool true
  h9 : L 9 = true → s 26 = .bool true
  h10 : L 10 = true → s 2 = .bool true

theorem want3 (ops : Array Oper) (o : Oper) (t : Array Value) (hg : o.guard = some (3, true)) (ho : (ops[3]?).bind (·.dst) = some 20) (ht : t[20]? = some (.bool true)) : Region.wanted o (yielded ops t) = true := by
  simp [Region.wanted, hg, yielded, ho, ht]

set_option maxHeartbeats 4000000 in
set_option maxRecDepth 100000 in
theorem law5 (d : TD) (pv rv sv nv hv : Value) (dv : Nat → Value) (w : World) (hN : NilOk d)
    (hct : -9223372036854775808 ≤ d.ct) (hct' : d.ct ≤ 9223372036854775807) (het : -9223372036854775808 ≤ d.et) (het' : d.et ≤ 9223372036854775807) (hsz : d.sz = true → d.sl = 0) (hnz : d.nz = true → d.nl = 0) (hB : FArg w d pv rv sv nv hv dv) :
    Calls Try.prog 5 #[.agg (fC d pv rv sv nv hv)] w fun e w' => e = .returned (.bool true) ∧ Below w.heap.size w w' := by
  have HN : Hid (NilOk d) := hN
  have HA : Hid (FArg w d pv rv sv nv hv dv) := hB
  have HT : Hid (-9223372036854775808 ≤ d.ct ∧ d.ct ≤ 9223372036854775807 ∧ -9223372036854775808 ≤ d.et ∧ d.et ≤ 9223372036854775807) := ⟨hct, hct', het, het'⟩
  have HZ : Hid ((d.sz = true → d.sl = 0) ∧ (d.nz = true → d.nl = 0)) := ⟨hsz, hnz⟩
  clear hN hB hct hct' het het' hsz hnz
  have HL0 : Hid (LS w (fC d pv rv sv nv hv) (w.alloc (.cells (fC d pv rv sv nv hv) 33))) := ⟨(Below.refl _ _).alloc (Nat.le_refl _) _, Go.Deep.blk_alloc_new _ _⟩
  go_enter Try.func5, Try.ntmps5
  go_wp2_with (refine wpList_load_row rfl 33 (.tmp 1) rfl w.heap.size rfl 33 (fC d pv rv sv nv hv) (0, 0) _ HL0.out.box Try.underlying33 rfl (Try.size33 _ rfl) ?_)
  refine (bytes12_any d pv rv sv nv hv dv _ (HA.out.below HL0.out.be (Nat.le_refl _))).mono ?_
  rintro _ w1 ⟨⟨x, rfl, hx⟩, hB1⟩
  have HL1 : Hid (LS w (fC d pv rv sv nv hv) w1) := HL0.out.call hB1
  clear hB1
  by_cases ex : x = 0
  rotate_left
  · have ed : decide (x = 0) = false := decide_eq_false ex
    rw [ed]
    clear ed hx
    go_wp2_with fail
    go_ret
    exact ⟨rfl, HL1.out.be⟩
  have Hd : Hid (Bd d) := hx ex
  have ed : decide (x = 0) = true := decide_eq_true ex
  rw [ed]
  clear ed hx ex
  go_wp2_with (refine wpList_load_row rfl 33 (.tmp 1) rfl w.heap.size rfl 33 (fC d pv rv sv nv hv) (0, 0) _ HL1.out.box Try.underlying33 rfl (Try.size33 _ rfl) ?_)
  refine (tooBig_any d pv rv sv nv hv dv _ Hd.out (HA.out.below HL1.out.be (Nat.le_refl _))).mono ?_
  rintro _ w2 ⟨⟨y, rfl⟩, hB2⟩
  have HL2 : Hid (LS w (fC d pv rv sv nv hv) w2) := HL1.out.call hB2
  clear hB2
  by_cases ey : y < 0
  · have ed : decide (y < 0) = true := decide_eq_true ey
    rw [ed]
    clear ed
    go_wp2_with fail
    go_ret
    exact ⟨rfl, HL2.out.be⟩
  have ed : decide (y < 0) = false := decide_eq_false ey
  rw [ed]
  clear ed ey
  go_wp2_with (refine wpList_load_row rfl 33 (.tmp 1) rfl w.heap.size rfl 33 (fC d pv rv sv nv hv) (0, 0) _ HL2.out.box Try.underlying33 rfl (Try.size33 _ rfl) ?_)
  refine (build_any d pv rv sv nv hv dv _ Hd.out HN.out HT.out.1 HT.out.2.1 HT.out.2.2.1 HT.out.2.2.2 HZ.out.1 HZ.out.2 (HA.out.below HL2.out.be (Nat.le_refl _))).mono ?_
  rintro _ w3 ⟨tb, tg, p0, r0, s0, n0, h0, dv0, rfl, hB3, hge, htok, hts⟩
  have HL3 : Hid (LS w (fC d pv rv sv nv hv) w3) := HL2.out.call hB3
  have HG : Hid (w2.heap.size ≤ tb) := hge
  have HK3 : Hid (w3.heap[tb]? = some (.cells (tC d p0 r0 s0 n0 h0) 45 (0, 0))) := htok
  have HS3 : Hid (TSlot w3 (fun j b => w2.heap.size ≤ b ∧ b < w3.heap.size ∧ b ≠ tb ∧ tg b = j) d d.sz d.nz p0 r0 s0 n0 h0 dv0) := hts
  clear hB3 hge htok hts
  go_wp2_with fail
  refine (zclone_any d d.sz d.nz p0 r0 s0 n0 h0 dv0 tb w3 Hd.out.ln HN.out HK3.out HS3.out.arg).mono ?_
  rintro _ w4 ⟨p1, r1, s1, n1, h1, dv1, tg1, rfl, hB4, hts⟩
  have HL4 : Hid (LS w (fC d pv rv sv nv hv) w4) := HL3.out.call hB4
  have HB4 : Hid (Below w3.heap.size w3 w4) := hB4
  have HS4 : Hid (TSlot w4 (fun j b => w3.heap.size ≤ b ∧ b < w4.heap.size ∧ tg1 b = j) d false false p1 r1 s1 n1 h1 dv1) := hts
  clear hB4 hts
  go_wp2_with (refine wpList_store_abs (by rfl) 45 (.tmp 4) (.tmp 14) (by rfl) w4.heap.size (tC d p1 r1 s1 n1 h1) (by rfl) (by rfl) 45 ?old ?hg (Try.size45 _ rfl) ?hold (tC_one _ _ _ _ _ _ HS4.out.p.one HS4.out.r.one HS4.out.s.one HS4.out.n.one HS4.out.h.one) ?next)
  case hg => exact Go.Deep.blk_alloc_new _ _
  case hold => rfl
  case next =>
    intro w5 hB5 hb5 hs5 ho5
    have hB5' := laid hB5
    have HL5 : Hid (LS w (fC d pv rv sv nv hv) w5) := HL4.out.call hB5'
    have HB5 : Hid (Below w4.heap.size w4 w5) := hB5'
    have HK5 : Hid (w5.heap[w4.heap.size]? = some (.cells (tC d p1 r1 s1 n1 h1) 45 (0, 0))) := hb5
    have hz5 : w5.heap.size = w4.heap.size + 1 := hs5.trans (by simp)
    clear hB5 hb5 hs5 ho5 hB5'
    have HC5 : Hid (TSlot w5 (fun j b => w3.heap.size ≤ b ∧ b < w4.heap.size ∧ tg1 b = j) d false false p1 r1 s1 n1 h1 dv1) := HS4.out.below HB5.out
    have htb3 := lt_of_block HK3.out
    have hz4 := HB4.out.size
    have HB35 : Hid (Below w3.heap.size w3 w5) := HB4.out.trans (HB5.out.mono HB4.out.size)
    go_wp2_with fail
    refine (zclone_any d false false p1 r1 s1 n1 h1 dv1 w4.heap.size w5 Hd.out.ln HN.out HK5.out HC5.out.arg).mono ?_
    rintro _ w6 ⟨p2, r2, s2, n2, h2, dv2, tg2, rfl, hB6, hts⟩
    have HL6 : Hid (LS w (fC d pv rv sv nv hv) w6) := HL5.out.call hB6
    have HB6 : Hid (Below w5.heap.size w5 w6) := hB6
    have HS6 : Hid (TSlot w6 (fun j b => w5.heap.size ≤ b ∧ b < w6.heap.size ∧ tg2 b = j) d false false p2 r2 s2 n2 h2 dv2) := hts
    clear hB6 hts
    go_wp2_with (refine wpList_store_abs (by rfl) 45 (.tmp 5) (.tmp 15) (by rfl) w6.heap.size (tC d p2 r2 s2 n2 h2) (by rfl) (by rfl) 45 ?old6 ?hg6 (Try.size45 _ rfl) ?hold6 (tC_one _ _ _ _ _ _ HS6.out.p.one HS6.out.r.one HS6.out.s.one HS6.out.n.one HS6.out.h.one) ?next6)
    case hg6 => exact Go.Deep.blk_alloc_new _ _
    case hold6 => rfl
    case next6 =>
      intro w7 hB7 hb7 hs7 ho7
      have hB7' := laid hB7
      have HL7 : Hid (LS w (fC d pv rv sv nv hv) w7) := HL6.out.call hB7'
      have HB57 : Hid (Below w5.heap.size w5 w7) := HB6.out.trans (hB7'.mono HB6.out.size)
      have HS7 : Hid (TSlot w7 (fun j b => w5.heap.size ≤ b ∧ b < w6.heap.size ∧ tg2 b = j) d false false p2 r2 s2 n2 h2 dv2) := HS6.out.below hB7'
      have HC7 : Hid (TSlot w7 (fun j b => w3.heap.size ≤ b ∧ b < w4.heap.size ∧ tg1 b = j) d false false p1 r1 s1 n1 h1 dv1) := HC5.out.below HB57.out
      have HK7 : Hid (w7.heap[w4.heap.size]? = some (.cells (tC d p1 r1 s1 n1 h1) 45 (0, 0))) := (HB57.out.block _ (by omega)).trans HK5.out
      have HE7 : Hid (w7.heap[w6.heap.size]? = some (.cells (tC d p2 r2 s2 n2 h2) 45 (0, 0))) := hb7
      have HB37 : Hid (Below w3.heap.size w3 w7) := HB35.out.trans (HB57.out.mono HB35.out.size)
      have hz6 := HB6.out.size
      clear hB7 hb7 hs7 ho7 hB7'
      go_wp2_with fail
      refine (mutate_any d (fun j b => w3.heap.size ≤ b ∧ b < w4.heap.size ∧ tg1 b = j) false false p1 r1 s1 n1 h1 dv1 w4.heap.size w7 Hd.out (fun i j b h1 h2 => h1.2.2.symm.trans h2.2.2) (fun j h => absurd h.2.1 (by omega)) HK7.out HC7.out).mono ?_
      rintro _ w8 ⟨rfl, hts8, hfr⟩
      have hl3 := HL3.out.lt
      have HL8 : Hid (LS w (fC d pv rv sv nv hv) w8) := HL7.out.fr hfr (fun j b h => by have := h.1; omega)
      have HB38 : Hid (Below w3.heap.size w3 w8) := below_fr HB37.out hfr (fun j b h => h.1)
      have HT8 : Hid (w8.heap[tb]? = some (.cells (tC d p0 r0 s0 n0 h0) 45 (0, 0))) := (HB38.out.block _ htb3).trans HK3.out
      have HS8 : Hid (TSlot w8 (fun j b => w2.heap.size ≤ b ∧ b < w3.heap.size ∧ b ≠ tb ∧ tg b = j) d d.sz d.nz p0 r0 s0 n0 h0 dv0) := HS3.out.below HB38.out
      have HE8 : Hid (w8.heap[w6.heap.size]? = some (.cells (tC d p2 r2 s2 n2 h2) 45 (0, 0))) := (hfr.block _ (fun j h => by have := h.2.1; omega)).trans HE7.out
      have HC8 : Hid (TSlot w8 (fun j b => w5.heap.size ≤ b ∧ b < w6.heap.size ∧ tg2 b = j) d false false p2 r2 s2 n2 h2 dv2) := HS7.out.mono fun j b _ h => ⟨h, hfr.block b (fun k hk => by have := hk.2.1; have := h.1; omega)⟩
      clear hts8 hfr
      go_wp2_with fail
      refine wp_region_any (by kernel_rfl) ?_
      refine wpAny_inv (fun L a wx => ∃ s, a = (actQ (fC d pv rv sv nv hv) (tC d p1 r1 s1 n1 h1) (tC d p2 r2 s2 n2 h2) w.heap.size tb w4.heap.size w6.heap.size s) ∧ QI w8 (fC d pv rv sv nv hv) (tC d p2 r2 s2 n2 h2) (tC d p0 r0 s0 n0 h0) tb L s wx) ?step ?fin _ _ _ _ (fun _ => false) (by simp) (fun j => getD_repl _ j) ?init (by simp)
      case init =>
        exact ⟨fun j => if j = 2 then .bool false else undef, rfl, ⟨(Below.refl _ _).drew, (fun h => by cases h), (fun h => by cases h), (fun h => by cases h), (fun h => by cases h), (fun h => by cases h), (fun h => by cases h), (fun h => by cases h), (fun h => by cases h), (fun h => by cases h), (fun h => by cases h), (fun h => by cases h)⟩⟩
      case fin =>
        rintro L a wx ⟨s, rfl, hst⟩ hno
        have l0 : L 0 = true := by
          cases hb : L 0
          · obtain ⟨e, he, _, hf⟩ := hno 0 _ rfl hb
            exact absurd he (by simp)
          · rfl
        have l1 : L 1 = true := by
          cases hb : L 1
          · obtain ⟨e, he, _, hf⟩ := hno 1 _ rfl hb
            exact absurd he (by simp)
          · rfl
        have l2 : L 2 = true := by
          cases hb : L 2
          · obtain ⟨e, he, _, hf⟩ := hno 2 _ rfl hb
            simp at he
            repeat (rcases he with rfl | he; (· simp [l0, l1] at hf))
            all_goals (subst he; simp [l0, l1] at hf)
          · rfl
        have l3 : L 3 = true := by
          cases hb : L 3
          · obtain ⟨e, he, _, hf⟩ := hno 3 _ rfl hb
            simp at he
            repeat (rcases he with rfl | he; (· simp [l2] at hf))
            all_goals (subst he; simp [l2] at hf)
          · rfl
        have l4 : L 4 = true := by
          cases hb : L 4
          · obtain ⟨e, he, _, hf⟩ := hno 4 _ rfl hb
            simp at he
            repeat (rcases he with rfl | he; (· simp [l3] at hf))
            all_goals (subst he; simp [l3] at hf)
          · rfl
        have l5 : L 5 = true := by
          cases hb : L 5
          · obtain ⟨e, he, _, hf⟩ := hno 5 _ rfl hb
            simp at he
            repeat (rcases he with rfl | he; (· simp [l3, l4] at hf))
            all_goals (subst he; simp [l3, l4] at hf)
          · rfl
        have l6 : L 6 = true := by
          cases hb : L 6
          · obtain ⟨e, he, _, hf⟩ := hno 6 _ rfl hb
            simp at he
            repeat (rcases he with rfl | he; (· simp [l3, l5] at hf))
            all_goals (subst he; simp [l3, l5] at hf)
          · rfl
        have l7 : L 7 = true := by
          cases hb : L 7
          · obtain ⟨e, he, _, hf⟩ := hno 7 _ rfl hb
            simp at he
            repeat (rcases he with rfl | he; (· simp [l3] at hf))
            all_goals (subst he; simp [l3] at hf)
          · rfl
        have l8 : L 8 = true := by
          cases hb : L 8
          · obtain ⟨e, he, _, hf⟩ := hno 8 _ rfl hb
            simp at he
            repeat (rcases he with rfl | he; (· simp [l3, l6, l7] at hf))
            all_goals (subst he; simp [l3, l6, l7] at hf)
          · rfl
        have l9 : L 9 = true := by
          cases hb : L 9
          · obtain ⟨e, he, _, hf⟩ := hno 9 _ rfl hb
            simp at he
            repeat (rcases he with rfl | he; (· simp [l3, l8] at hf))
            all_goals (subst he; simp [l3, l8] at hf)
          · rfl
        have l10 : L 10 = true := by
          cases hb : L 10
          · obtain ⟨e, he, _, hf⟩ := hno 10 _ rfl hb
            simp at he
            repeat (rcases he with rfl | he; (· simp [l0, l1, l2, l3, l4, l5, l6, l7, l8, l9] at hf))
            all_goals (subst he; simp [l0, l1, l2, l3, l4, l5, l6, l7, l8, l9] at hf)
          · rfl
        have HF : Hid (Below w.heap.size w wx) := HL8.out.be.trans (hst.be.mono HL8.out.be.size)
        have e2 := hst.h10 l10
        clear hst hno
        go_wp2_with fail
        go_ret
        exact ⟨congrArg Ending.returned e2, HF.out⟩
      case step =>
        rintro L a wx ⟨s, rfl, hst⟩ i o ho hLi hall
        have hlt : i < 11 := (Array.getElem?_eq_some_iff.1 ho).1
        rcases (by omega : i = 0 ∨ i = 1 ∨ i = 2 ∨ i = 3 ∨ i = 4 ∨ i = 5 ∨ i = 6 ∨ i = 7 ∨ i = 8 ∨ i = 9 ∨ i = 10) with rfl | rfl | rfl | rfl | rfl | rfl | rfl | rfl | rfl | rfl | rfl
        all_goals obtain rfl := Option.some.inj ho
        · refine wpOp_step rfl (fun K' hK => ?_)
          rw [if_pos (by rfl)]
          refine wp_load_row 45 (.tmp 5) rfl w6.heap.size rfl 45 (tC d p2 r2 s2 n2 h2) (0, 0) _ ((hst.be.block _ (lt_of_block HE8.out)).trans HE8.out) Try.underlying45 rfl (Try.size45 _ rfl) (hK _ _ ⟨upS s 17 (.agg (tC d p2 r2 s2 n2 h2)), rfl, ⟨hst.be, fun _ => rfl, hst.h1, hst.h2, hst.h3, hst.h4, hst.h5, hst.h6, hst.h7, hst.h8, hst.h9, hst.h10⟩⟩)
        · refine wpOp_step rfl (fun K' hK => ?_)
          rw [if_pos (by rfl)]
          refine wp_load_row 33 (.tmp 1) rfl w.heap.size rfl 33 (fC d pv rv sv nv hv) (0, 0) _ ((hst.be.block _ HL8.out.lt).trans HL8.out.box) Try.underlying33 rfl (Try.size33 _ rfl) (hK _ _ ⟨upS s 18 (.agg (fC d pv rv sv nv hv)), rfl, ⟨hst.be, hst.h0, fun _ => rfl, hst.h2, hst.h3, hst.h4, hst.h5, hst.h6, hst.h7, hst.h8, hst.h9, hst.h10⟩⟩)
        · refine wpOp_step rfl (fun K' hK => ?_)
          have e17 := hst.h0 (hall { on := 0, ground := .data } (by simp) rfl)
          have e18 := hst.h1 (hall { on := 1, ground := .data } (by simp) rfl)
          rw [if_pos (by rfl)]
          go_simp
          refine (matches_true d false true false false p2 r2 s2 n2 h2 dv2 pv rv sv nv hv dv wx Hd.out HT.out.1 HT.out.2.1 HT.out.2.2.1 HT.out.2.2.2 (fun _ => ⟨rfl, rfl⟩) (fun h => by cases h) (HC8.out.arg.below hst.be (Nat.le_refl _)) (HA.out.below (HL8.out.be.trans (hst.be.mono HL8.out.be.size)) (Nat.le_refl _))).mono ?_
          rintro _ w9 ⟨rfl, hB9⟩
          exact hK _ _ ⟨upS (upS (upS s 17 (.agg (tC d p2 r2 s2 n2 h2))) 18 (.agg (fC d pv rv sv nv hv))) 19 (.bool true), rfl, ⟨hst.be.trans (hB9.mono hst.be.size), fun _ => rfl, fun _ => rfl, fun _ => rfl, hst.h3, hst.h4, hst.h5, hst.h6, hst.h7, hst.h8, hst.h9, hst.h10⟩⟩
        · refine wpOp_step rfl (fun K' hK => ?_)
          have e19 := hst.h2 (hall { on := 2, ground := .data } (by simp) rfl)
          rw [if_pos (by rfl)]
          go_simp
          exact hK _ _ ⟨upS (upS s 19 (.bool true)) 20 (.bool true), rfl, ⟨hst.be, hst.h0, hst.h1, fun _ => rfl, fun _ => rfl, hst.h4, hst.h5, hst.h6, hst.h7, hst.h8, hst.h9, hst.h10⟩⟩
        · refine wpOp_step rfl (fun K' hK => ?_)
          rw [if_pos (want3 _ _ _ rfl rfl (congrArg some (hst.h3 (hall { on := 3, ground := .guard } (by simp) rfl))))]
          go_simp
          exact hK _ _ ⟨upS s 21 (.pointer (some ⟨tb, 0, none⟩)), rfl, ⟨hst.be, hst.h0, hst.h1, hst.h2, hst.h3, fun _ => rfl, hst.h5, hst.h6, hst.h7, hst.h8, hst.h9, hst.h10⟩⟩
        · refine wpOp_step rfl (fun K' hK => ?_)
          have e21 := hst.h4 (hall { on := 4, ground := .data } (by simp) rfl)
          rw [if_pos (want3 _ _ _ rfl rfl (congrArg some (hst.h3 (hall { on := 3, ground := .guard } (by simp) rfl))))]
          go_simp
          exact hK _ _ ⟨upS (upS s 21 (.pointer (some ⟨tb, 0, none⟩))) 22 (.pointer (some ⟨tb, 0, none⟩)), rfl, ⟨hst.be, hst.h0, hst.h1, hst.h2, hst.h3, fun _ => rfl, fun _ => rfl, hst.h6, hst.h7, hst.h8, hst.h9, hst.h10⟩⟩
        · refine wpOp_step rfl (fun K' hK => ?_)
          have e22 := hst.h5 (hall { on := 5, ground := .data } (by simp) rfl)
          rw [if_pos (want3 _ _ _ rfl rfl (congrArg some (hst.h3 (hall { on := 3, ground := .guard } (by simp) rfl))))]
          refine wp_load_row 45 (.tmp 22) rfl tb e22 45 (tC d p0 r0 s0 n0 h0) (0, 0) _ ((hst.be.block _ (lt_of_block HT8.out)).trans HT8.out) Try.underlying45 rfl (Try.size45 _ rfl) (hK _ _ ⟨upS s 23 (.agg (tC d p0 r0 s0 n0 h0)), rfl, ⟨hst.be, hst.h0, hst.h1, hst.h2, hst.h3, hst.h4, hst.h5, fun _ => rfl, hst.h7, hst.h8, hst.h9, hst.h10⟩⟩)
        · refine wpOp_step rfl (fun K' hK => ?_)
          rw [if_pos (want3 _ _ _ rfl rfl (congrArg some (hst.h3 (hall { on := 3, ground := .guard } (by simp) rfl))))]
          refine wp_load_row 33 (.tmp 1) rfl w.heap.size rfl 33 (fC d pv rv sv nv hv) (0, 0) _ ((hst.be.block _ HL8.out.lt).trans HL8.out.box) Try.underlying33 rfl (Try.size33 _ rfl) (hK _ _ ⟨upS s 24 (.agg (fC d pv rv sv nv hv)), rfl, ⟨hst.be, hst.h0, hst.h1, hst.h2, hst.h3, hst.h4, hst.h5, hst.h6, fun _ => rfl, hst.h8, hst.h9, hst.h10⟩⟩)
        · refine wpOp_step rfl (fun K' hK => ?_)
          have e23 := hst.h6 (hall { on := 6, ground := .data } (by simp) rfl)
          have e24 := hst.h7 (hall { on := 7, ground := .data } (by simp) rfl)
          rw [if_pos (want3 _ _ _ rfl rfl (congrArg some (hst.h3 (hall { on := 3, ground := .guard } (by simp) rfl))))]
          go_simp
          refine (matches_true d false false d.sz d.nz p0 r0 s0 n0 h0 dv0 pv rv sv nv hv dv wx Hd.out HT.out.1 HT.out.2.1 HT.out.2.2.1 HT.out.2.2.2 (fun h => by cases h) (fun _ => ⟨rfl, rfl⟩) (HS8.out.arg.below hst.be (Nat.le_refl _)) (HA.out.below (HL8.out.be.trans (hst.be.mono HL8.out.be.size)) (Nat.le_refl _))).mono ?_
          rintro _ w9 ⟨rfl, hB9⟩
          exact hK _ _ ⟨upS (upS (upS s 23 (.agg (tC d p0 r0 s0 n0 h0))) 24 (.agg (fC d pv rv sv nv hv))) 25 (.bool true), rfl, ⟨hst.be.trans (hB9.mono hst.be.size), hst.h0, hst.h1, hst.h2, hst.h3, hst.h4, hst.h5, fun _ => rfl, fun _ => rfl, fun _ => rfl, hst.h9, hst.h10⟩⟩
        · refine wpOp_step rfl (fun K' hK => ?_)
          have e20 := hst.h3 (hall { on := 3, ground := .data } (by simp) rfl)
          have e25 := hst.h8 (hall { on := 8, ground := .data } (by simp) rfl)
          rw [if_pos (by rfl)]
          go_simp
          exact hK _ _ ⟨upS (upS (upS s 20 (.bool true)) 25 (.bool true)) 26 (.bool true), rfl, ⟨hst.be, hst.h0, hst.h1, hst.h2, fun _ => rfl, hst.h4, hst.h5, hst.h6, hst.h7, fun _ => rfl, fun _ => rfl, hst.h10⟩⟩
        · refine wpOp_step rfl (fun K' hK => ?_)
          have e26 := hst.h9 (hall { on := 9, ground := .data } (by simp) rfl)
          rw [if_pos (by rfl)]
          go_simp
          exact hK _ _ ⟨upS (upS s 26 (.bool true)) 2 (.bool true), rfl, ⟨hst.be, hst.h0, hst.h1, hst.h2, hst.h3, hst.h4, hst.h5, hst.h6, hst.h7, hst.h8, fun _ => rfl, fun _ => rfl⟩⟩
end Go.Proofs.Qxb6609019a
