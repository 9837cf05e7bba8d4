import Derived.Test.Qxb6609019aTokB
import Derived.Test.Qxb6609019aTokC
namespace Go.Proofs.Qxb6609019a
open Go.RowKit

/-- What a token bears. -/
structure TD where
  acc : ByteArray
  sec : ByteArray
  desc : ByteArray
  pz : Bool
  pl : Nat
  pN : Nat → ByteArray
  rz : Bool
  rl : Nat
  rN : Nat → ByteArray
  sz : Bool
  sl : Nat
  sN : Nat → ByteArray
  dz : Nat → Bool
  dl : Nat → Nat
  dN : Nat → Nat → ByteArray
  nz : Bool
  nl : Nat
  nA : Nat → ByteArray
  nB : Nat → ByteArray
  loc : Bool
  ct : Int
  et : Int
  hz : Bool
  hl : Nat
  hN : Nat → Int
  ci : Int
  mi : Int

def svcV (N : Nat → ByteArray) (dv : Nat → Value) (j : Nat) : Value := if j % 2 = 0 then .string (N (j / 2)) else dv (j / 2)
def nodV (A B : Nat → ByteArray) (j : Nat) : Value := if j % 2 = 0 then .string (A (j / 2)) else .string (B (j / 2))
theorem svcV_0 (N : Nat → ByteArray) (dv : Nat → Value) (k : Nat) : svcV N dv (k * 2) = .string (N k) := by
  unfold svcV; rw [if_pos (by omega), show k * 2 / 2 = k by omega]
theorem svcV_1 (N : Nat → ByteArray) (dv : Nat → Value) (k : Nat) : svcV N dv (k * 2 + 1) = dv k := by
  unfold svcV; rw [if_neg (by omega), show (k * 2 + 1) / 2 = k by omega]
theorem nodV_0 (A B : Nat → ByteArray) (k : Nat) : nodV A B (k * 2) = .string (A k) := by
  unfold nodV; rw [if_pos (by omega), show k * 2 / 2 = k by omega]
theorem nodV_1 (A B : Nat → ByteArray) (k : Nat) : nodV A B (k * 2 + 1) = .string (B k) := by
  unfold nodV; rw [if_neg (by omega), show (k * 2 + 1) / 2 = k by omega]

/-- The fields' cells. -/
def fC (d : TD) (pv rv sv nv hv : Value) : Array Value :=
  #[.string d.acc, .string d.sec, .string d.desc, pv, rv, sv, nv, .bool d.loc, .int .i64 d.ct, .int .i64 d.et, hv, .int .u64 d.ci, .int .u64 d.mi]

/-- The slices of the fields, sa they may be read in w. -/
structure FArg (w : World) (d : TD) (pv rv sv nv hv : Value) (dv : Nat → Value) : Prop where
  p : Arg w pv d.pz d.pl d.pl (fun i => .string (d.pN i))
  r : Arg w rv d.rz d.rl d.rl (fun i => .string (d.rN i))
  h : Arg w hv d.hz d.hl d.hl (fun i => .int .u8 (d.hN i))
  s : Arg w sv d.sz d.sl (d.sl * 2) (svcV d.sN dv)
  ds : ∀ k, k < d.sl → Arg w (dv k) (d.dz k) (d.dl k) (d.dl k) (fun i => .string (d.dN k i))
  n : Arg w nv d.nz d.nl (d.nl * 2) (nodV d.nA d.nB)

theorem FArg.below {w w' : World} {B : Nat} {d : TD} {pv rv sv nv hv : Value} {dv : Nat → Value} (h : FArg w d pv rv sv nv hv dv) (hb : Below B w w') (hB : w.heap.size ≤ B) : FArg w' d pv rv sv nv hv dv :=
  ⟨h.p.below hb hB, h.r.below hb hB, h.h.below hb hB, h.s.below hb hB, fun k hk => (h.ds k hk).below hb hB, h.n.below hb hB⟩

/-- How long all may be. -/
structure Bd (d : TD) : Prop where
  acc : d.acc.size ≤ 1048576
  sec : d.sec.size ≤ 1048576
  desc : d.desc.size ≤ 1048576
  pl : d.pl ≤ 1048576
  pN : ∀ i, i < d.pl → (d.pN i).size ≤ 1048576
  rl : d.rl ≤ 1048576
  rN : ∀ i, i < d.rl → (d.rN i).size ≤ 1048576
  sl : d.sl ≤ 1048576
  sN : ∀ i, i < d.sl → (d.sN i).size ≤ 1048576
  dl : ∀ i, i < d.sl → d.dl i ≤ 1048576
  dN : ∀ i, i < d.sl → ∀ j, j < d.dl i → (d.dN i j).size ≤ 1048576
  nl : d.nl ≤ 1048576
  nA : ∀ i, i < d.nl → (d.nA i).size ≤ 1048576
  nB : ∀ i, i < d.nl → (d.nB i).size ≤ 1048576
  hl : d.hl ≤ 1048576

theorem tooBig_any (d : TD) (pv rv sv nv hv : Value) (dv : Nat → Value) (w : World) (hd : Bd d) (hA : FArg w d pv rv sv nv hv dv) :
    Calls Try.prog 13 #[.agg (fC d pv rv sv nv hv)] w fun e w' => (∃ x : Int, e = .returned (.bool (decide (x < 0)))) ∧ Below w.heap.size w w' := by
  have hA1 := hA.below ((Below.refl _ _).alloc (Nat.le_refl _) (.cells (fC d pv rv sv nv hv) 33)) (Nat.le_refl _)
  obtain ⟨sa, bs, os, cs, es, _, hAs, hCs⟩ := hA1.s
  obtain ⟨na, bn, on, cn, en, _, hAn, hCn⟩ := hA1.n
  obtain ⟨ga, bh, oh, ch, eh, _, hAh, hCh⟩ := hA1.h
  have Hd : Hid (Bd d) := hd
  have b1 := hd.acc
  have b2 := hd.sec
  have b3 := hd.desc
  have b4 := hd.hl
  have b5 := hd.sl
  have b6 := hd.nl
  subst es en eh
  have HP : Hid (FArg (w.alloc (.cells (fC d pv rv (.slice sa d.sl cs) (.slice na d.nl cn) (.slice ga d.hl ch)) 33)) d pv rv (.slice sa d.sl cs) (.slice na d.nl cn) (.slice ga d.hl ch) dv) := hA1
  have HAs : Hid (0 < d.sl → sa = some ⟨bs, os, none⟩) := hAs
  have HAn : Hid (0 < d.nl → na = some ⟨bn, on, none⟩) := hAn
  have HCs : Hid (∀ i, i < d.sl * 2 → (w.alloc (.cells (fC d pv rv (.slice sa d.sl cs) (.slice na d.nl cn) (.slice ga d.hl ch)) 33)).cell? ⟨bs, os + i, none⟩ = some (svcV d.sN dv i)) := hCs
  have HCn : Hid (∀ i, i < d.nl * 2 → (w.alloc (.cells (fC d pv rv (.slice sa d.sl cs) (.slice na d.nl cn) (.slice ga d.hl ch)) 33)).cell? ⟨bn, on + i, none⟩ = some (nodV d.nA d.nB i)) := hCn
  have HBl : Hid (Below w.heap.size w (w.alloc (.cells (fC d pv rv (.slice sa d.sl cs) (.slice na d.nl cn) (.slice ga d.hl ch)) 33))) := (Below.refl _ _).alloc (Nat.le_refl _) _
  clear hA hA1 hAs hAn hCs hCn hAh hCh hd
  unfold fC at *
  go_enter Try.func13, Try.ntmps13
  go_wp2_with fail
  refine (take_any 0 d.acc.size _ (by omega) (by omega) (by omega) (by omega)).mono ?_
  rintro _ w2 ⟨⟨m1, rfl, h1, h1'⟩, rfl⟩
  go_wp2_with fail
  refine (take_any m1 d.sec.size _ (by omega) (by omega) (by omega) (by omega)).mono ?_
  rintro _ w2 ⟨⟨m2, rfl, h2, h2'⟩, rfl⟩
  go_wp2_with fail
  refine (take_any m2 d.desc.size _ (by omega) (by omega) (by omega) (by omega)).mono ?_
  rintro _ w2 ⟨⟨m3, rfl, h3, h3'⟩, rfl⟩
  go_wp2_with fail
  refine (takeStrs_any m3 pv d.pz d.pl d.pN _ (by omega) (by omega) Hd.out.pl Hd.out.pN HP.out.p).mono ?_
  rintro _ w2 ⟨⟨m4, rfl, h4, h4'⟩, rfl⟩
  go_wp2_with fail
  refine (takeStrs_any m4 rv d.rz d.rl d.rN _ (by omega) (by omega) Hd.out.rl Hd.out.rN HP.out.r).mono ?_
  rintro _ w2 ⟨⟨m5, rfl, h5, h5'⟩, rfl⟩
  go_wp2_with fail
  refine (take_any m5 d.hl _ (by omega) (by omega) (by omega) (by omega)).mono ?_
  rintro _ w2 ⟨⟨m6, rfl, h6, h6'⟩, rfl⟩
  go_wp2_with fail
  refine (words_any m6 d.sl 5 _ (by omega) (by omega) (by omega) (by omega) (by omega) (by omega)).mono ?_
  rintro _ w2 ⟨⟨m7, rfl, h7, h7'⟩, rfl⟩
  go_wp2_with fail
  go_loopw [4, 3] (fun i x wr => ∃ (k : Nat) (y : Int), k ≤ d.sl ∧ i = .int .i64 k ∧ x = .int .i64 y ∧ -1 ≤ y ∧ y ≤ 1048576 ∧ Hid (wr = (w.alloc (.cells #[.string d.acc, .string d.sec, .string d.desc, pv, rv, .slice sa d.sl cs, .slice na d.nl cn, .bool d.loc, .int .i64 d.ct, .int .i64 d.et, .slice ga d.hl ch, .int .u64 d.ci, .int .u64 d.mi] 33))))
    (fun i _ _ => d.sl - (intOf i).toNat)
  case atStart => exact ⟨0, m7, Nat.zero_le _, rfl, rfl, h7, h7', rfl⟩
  case round =>
    obtain ⟨k, y, hk, rfl, rfl, hy1, hy2, hwr⟩ := hrel
    have hb5 : wr.cell? ⟨w.heap.size, 5, none⟩ = some (.slice sa d.sl cs) := by rw [hwr.out]; simp [go_sem]
    have hb6 : wr.cell? ⟨w.heap.size, 6, none⟩ = some (.slice na d.nl cn) := by rw [hwr.out]; simp [go_sem]
    by_cases hlt : k < d.sl
    · have ha := HAs.out (by omega)
      subst ha
      have hx0 : wr.cell? ⟨bs, os + k * 2, none⟩ = some (.string (d.sN k)) := by rw [hwr.out, HCs.out (k * 2) (by omega), svcV_0]
      have hx1 : wr.cell? ⟨bs, os + k * 2 + 1, none⟩ = some (dv k) := by rw [hwr.out, Nat.add_assoc, HCs.out (k * 2 + 1) (by omega), svcV_1]
      have hs := Hd.out.sN k hlt
      have hk1 : (k : Int) < (d.sl : Int) := by omega
      by_cases hy : 0 ≤ y
      · go_wp2_with fail
        refine (take_any y (d.sN k).size _ hy1 hy2 (by omega) (by omega)).mono ?_
        rintro _ w3 ⟨⟨m3, rfl, h31, h32⟩, rfl⟩
        go_wp2_with fail
        refine (takeStrs_any m3 (dv k) (d.dz k) (d.dl k) (d.dN k) _ h31 h32 (Hd.out.dl k hlt) (Hd.out.dN k hlt) (by rw [hwr.out]; exact HP.out.ds k hlt)).mono ?_
        rintro _ w3 ⟨⟨m4, rfl, h41, h42⟩, rfl⟩
        go_wp2_with fail
        go_roundw
        case rel => exact ⟨k + 1, m4, by omega, by go_num, rfl, h41, h42, hwr⟩
        case measure => simp [intOf]; omega
      · have hy' : decide (0 ≤ y) = false := decide_eq_false hy
        go_wp2_with fail
        refine (words_any y d.nl 4 _ (by omega) (by omega) (by omega) (by omega) (by omega) (by omega)).mono ?_
        rintro _ w2 ⟨⟨m8, rfl, h8, h8'⟩, rfl⟩
        go_wp2_with fail
        go_loopw [5, 3] (fun i x wr => ∃ (k : Nat) (y : Int), k ≤ d.nl ∧ i = .int .i64 k ∧ x = .int .i64 y ∧ -1 ≤ y ∧ y ≤ 1048576 ∧ Hid (wr = (w.alloc (.cells #[.string d.acc, .string d.sec, .string d.desc, pv, rv, .slice (some ⟨bs, os, none⟩) d.sl cs, .slice na d.nl cn, .bool d.loc, .int .i64 d.ct, .int .i64 d.et, .slice ga d.hl ch, .int .u64 d.ci, .int .u64 d.mi] 33))))
          (fun i _ _ => d.nl - (intOf i).toNat)
        case atStart => exact ⟨0, m8, Nat.zero_le _, rfl, rfl, h8, h8', hwr⟩
        case round =>
          clear hb5 hb6
          obtain ⟨k, y, hk, rfl, rfl, hy1, hy2, hwr⟩ := hrel
          have hb6 : wr.cell? ⟨w.heap.size, 6, none⟩ = some (.slice na d.nl cn) := by rw [hwr.out]; simp [go_sem]
          by_cases hlt : k < d.nl
          · have ha := HAn.out (by omega)
            subst ha
            have hx0 : wr.cell? ⟨bn, on + k * 2, none⟩ = some (.string (d.nA k)) := by rw [hwr.out, HCn.out (k * 2) (by omega), nodV_0]
            have hx1 : wr.cell? ⟨bn, on + k * 2 + 1, none⟩ = some (.string (d.nB k)) := by rw [hwr.out, Nat.add_assoc, HCn.out (k * 2 + 1) (by omega), nodV_1]
            have hs := Hd.out.nA k hlt
            have hs' := Hd.out.nB k hlt
            have hk1 : (k : Int) < (d.nl : Int) := by omega
            by_cases hy : 0 ≤ y
            · go_wp2_with fail
              refine (take_any y (d.nA k).size _ hy1 hy2 (by omega) (by omega)).mono ?_
              rintro _ w3 ⟨⟨m3, rfl, h31, h32⟩, rfl⟩
              go_wp2_with fail
              refine (take_any m3 (d.nB k).size _ h31 h32 (by omega) (by omega)).mono ?_
              rintro _ w3 ⟨⟨m4, rfl, h41, h42⟩, rfl⟩
              go_wp2_with fail
              go_roundw
              case rel => exact ⟨k + 1, m4, by omega, by go_num, rfl, h41, h42, hwr⟩
              case measure => simp [intOf]; omega
            · have hy' : decide (0 ≤ y) = false := decide_eq_false hy
              go_wp2_with fail
              go_ret
              exact ⟨⟨(-1 : Int), rfl⟩, by rw [hwr.out]; exact HBl.out⟩
          · have hk1 : decide ((k : Int) < (d.nl : Int)) = false := decide_eq_false (by omega)
            go_wp2_with fail
            go_ret
            exact ⟨⟨_, rfl⟩, by rw [hwr.out]; exact HBl.out⟩
    · have hk1 : decide ((k : Int) < (d.sl : Int)) = false := decide_eq_false (by omega)
      go_wp2_with fail
      refine (words_any y d.nl 4 _ (by omega) (by omega) (by omega) (by omega) (by omega) (by omega)).mono ?_
      rintro _ w2 ⟨⟨m8, rfl, h8, h8'⟩, rfl⟩
      go_wp2_with fail
      go_loopw [5, 3] (fun i x wr => ∃ (k : Nat) (y : Int), k ≤ d.nl ∧ i = .int .i64 k ∧ x = .int .i64 y ∧ -1 ≤ y ∧ y ≤ 1048576 ∧ Hid (wr = (w.alloc (.cells #[.string d.acc, .string d.sec, .string d.desc, pv, rv, .slice sa d.sl cs, .slice na d.nl cn, .bool d.loc, .int .i64 d.ct, .int .i64 d.et, .slice ga d.hl ch, .int .u64 d.ci, .int .u64 d.mi] 33))))
        (fun i _ _ => d.nl - (intOf i).toNat)
      case atStart => exact ⟨0, m8, Nat.zero_le _, rfl, rfl, h8, h8', hwr⟩
      case round =>
        clear hb5 hb6
        obtain ⟨k, y, hk, rfl, rfl, hy1, hy2, hwr⟩ := hrel
        have hb6 : wr.cell? ⟨w.heap.size, 6, none⟩ = some (.slice na d.nl cn) := by rw [hwr.out]; simp [go_sem]
        by_cases hlt : k < d.nl
        · have ha := HAn.out (by omega)
          subst ha
          have hx0 : wr.cell? ⟨bn, on + k * 2, none⟩ = some (.string (d.nA k)) := by rw [hwr.out, HCn.out (k * 2) (by omega), nodV_0]
          have hx1 : wr.cell? ⟨bn, on + k * 2 + 1, none⟩ = some (.string (d.nB k)) := by rw [hwr.out, Nat.add_assoc, HCn.out (k * 2 + 1) (by omega), nodV_1]
          have hs := Hd.out.nA k hlt
          have hs' := Hd.out.nB k hlt
          have hk1 : (k : Int) < (d.nl : Int) := by omega
          by_cases hy : 0 ≤ y
          · go_wp2_with fail
            refine (take_any y (d.nA k).size _ hy1 hy2 (by omega) (by omega)).mono ?_
            rintro _ w3 ⟨⟨m3, rfl, h31, h32⟩, rfl⟩
            go_wp2_with fail
            refine (take_any m3 (d.nB k).size _ h31 h32 (by omega) (by omega)).mono ?_
            rintro _ w3 ⟨⟨m4, rfl, h41, h42⟩, rfl⟩
            go_wp2_with fail
            go_roundw
            case rel => exact ⟨k + 1, m4, by omega, by go_num, rfl, h41, h42, hwr⟩
            case measure => simp [intOf]; omega
          · have hy' : decide (0 ≤ y) = false := decide_eq_false hy
            go_wp2_with fail
            go_ret
            exact ⟨⟨(-1 : Int), rfl⟩, by rw [hwr.out]; exact HBl.out⟩
        · have hk1 : decide ((k : Int) < (d.nl : Int)) = false := decide_eq_false (by omega)
          go_wp2_with fail
          go_ret
          exact ⟨⟨_, rfl⟩, by rw [hwr.out]; exact HBl.out⟩
end Go.Proofs.Qxb6609019a
