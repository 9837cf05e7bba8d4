import Derived.Test.Qxb6609019aTokD
namespace Go.Proofs.Qxb6609019a
open Go.RowKit

set_option maxHeartbeats 2000000 in
set_option maxRecDepth 100000 in
theorem bytes18_any (d : TD) (pv rv sv nv hv : Value) (dv : Nat → Value) (w : World) (hA : FArg w d pv rv sv nv hv dv) :
    Calls Try.prog 18 #[.agg (fC d pv rv sv nv hv)] w fun e w' => (∃ x : Int, e = .returned (.bool (decide (x = 0))) ∧ (x = 0 → Bd d)) ∧ Below w.heap.size w w' := by
  have hA1 := hA.below ((Below.refl _ _).alloc (Nat.le_refl _) (.cells (fC d pv rv sv nv hv) 33)) (Nat.le_refl _)
  obtain ⟨pa, pb, po, pc, ep, _, hPa, hPc⟩ := hA1.p
  obtain ⟨ra, rb, ro, rc, er, _, hRa, hRc⟩ := hA1.r
  obtain ⟨sa, sb, so, sc, es, _, hSa, hSc⟩ := hA1.s
  obtain ⟨na, nb, no, nc, en, _, hNa, hNc⟩ := hA1.n
  obtain ⟨ha, hb, ho, hc, eh, _, _, _⟩ := hA1.h
  subst ep er es en eh
  unfold fC at *
  have HP : Hid (FArg (w.alloc (.cells #[.string d.acc, .string d.sec, .string d.desc, .slice pa d.pl pc, .slice ra d.rl rc, .slice sa d.sl sc, .slice na d.nl nc, .bool d.loc, .int .i64 d.ct, .int .i64 d.et, .slice ha d.hl hc, .int .u64 d.ci, .int .u64 d.mi] 33)) d (.slice pa d.pl pc) (.slice ra d.rl rc) (.slice sa d.sl sc) (.slice na d.nl nc) (.slice ha d.hl hc) dv) := hA1
  have HPa : Hid (0 < d.pl → pa = some ⟨pb, po, none⟩) := hPa
  have HPc : Hid (∀ i, i < d.pl → (w.alloc (.cells #[.string d.acc, .string d.sec, .string d.desc, .slice pa d.pl pc, .slice ra d.rl rc, .slice sa d.sl sc, .slice na d.nl nc, .bool d.loc, .int .i64 d.ct, .int .i64 d.et, .slice ha d.hl hc, .int .u64 d.ci, .int .u64 d.mi] 33)).cell? ⟨pb, po + i, none⟩ = some (.string (d.pN i))) := hPc
  have HRa : Hid (0 < d.rl → ra = some ⟨rb, ro, none⟩) := hRa
  have HRc : Hid (∀ i, i < d.rl → (w.alloc (.cells #[.string d.acc, .string d.sec, .string d.desc, .slice pa d.pl pc, .slice ra d.rl rc, .slice sa d.sl sc, .slice na d.nl nc, .bool d.loc, .int .i64 d.ct, .int .i64 d.et, .slice ha d.hl hc, .int .u64 d.ci, .int .u64 d.mi] 33)).cell? ⟨rb, ro + i, none⟩ = some (.string (d.rN i))) := hRc
  have HSa : Hid (0 < d.sl → sa = some ⟨sb, so, none⟩) := hSa
  have HSc : Hid (∀ i, i < d.sl * 2 → (w.alloc (.cells #[.string d.acc, .string d.sec, .string d.desc, .slice pa d.pl pc, .slice ra d.rl rc, .slice sa d.sl sc, .slice na d.nl nc, .bool d.loc, .int .i64 d.ct, .int .i64 d.et, .slice ha d.hl hc, .int .u64 d.ci, .int .u64 d.mi] 33)).cell? ⟨sb, so + i, none⟩ = some (svcV d.sN dv i)) := hSc
  have HNa : Hid (0 < d.nl → na = some ⟨nb, no, none⟩) := hNa
  have HNc : Hid (∀ i, i < d.nl * 2 → (w.alloc (.cells #[.string d.acc, .string d.sec, .string d.desc, .slice pa d.pl pc, .slice ra d.rl rc, .slice sa d.sl sc, .slice na d.nl nc, .bool d.loc, .int .i64 d.ct, .int .i64 d.et, .slice ha d.hl hc, .int .u64 d.ci, .int .u64 d.mi] 33)).cell? ⟨nb, no + i, none⟩ = some (nodV d.nA d.nB i)) := hNc
  have HBl : Hid (Below w.heap.size w (w.alloc (.cells #[.string d.acc, .string d.sec, .string d.desc, .slice pa d.pl pc, .slice ra d.rl rc, .slice sa d.sl sc, .slice na d.nl nc, .bool d.loc, .int .i64 d.ct, .int .i64 d.et, .slice ha d.hl hc, .int .u64 d.ci, .int .u64 d.mi] 33))) := (Below.refl _ _).alloc (Nat.le_refl _) _
  clear hA hA1 hPa hPc hRa hRc hSa hSc hNa hNc
  go_enter Try.func18, Try.ntmps18
  by_cases h1 : (1048576 : Int) < (d.acc.size : Int)
  · go_wp2_with fail
    go_ret
    exact ⟨⟨1, rfl, fun h => absurd h (by decide)⟩, HBl.out⟩
  have h1' : decide ((1048576 : Int) < (d.acc.size : Int)) = false := decide_eq_false h1
  by_cases h2 : (1048576 : Int) < (d.sec.size : Int)
  · go_wp2_with fail
    go_ret
    exact ⟨⟨1, rfl, fun h => absurd h (by decide)⟩, HBl.out⟩
  have h2' : decide ((1048576 : Int) < (d.sec.size : Int)) = false := decide_eq_false h2
  by_cases h2z : (1048576 : Int) < (d.acc.size : Int) + (d.sec.size : Int)
  · go_wp2_with fail
    go_ret
    exact ⟨⟨1, rfl, fun h => absurd h (by decide)⟩, HBl.out⟩
  have h2z' : decide ((1048576 : Int) < (d.acc.size : Int) + (d.sec.size : Int)) = false := decide_eq_false h2z
  by_cases h3 : (1048576 : Int) < (d.desc.size : Int)
  · go_wp2_with fail
    go_ret
    exact ⟨⟨1, rfl, fun h => absurd h (by decide)⟩, HBl.out⟩
  have h3' : decide ((1048576 : Int) < (d.desc.size : Int)) = false := decide_eq_false h3
  by_cases h3z : (1048576 : Int) < (d.acc.size : Int) + (d.sec.size : Int) + (d.desc.size : Int)
  · go_wp2_with fail
    go_ret
    exact ⟨⟨1, rfl, fun h => absurd h (by decide)⟩, HBl.out⟩
  have h3z' : decide ((1048576 : Int) < (d.acc.size : Int) + (d.sec.size : Int) + (d.desc.size : Int)) = false := decide_eq_false h3z
  by_cases h4 : (1048576 : Int) < (d.pl : Int)
  · go_wp2_with fail
    go_ret
    exact ⟨⟨1, rfl, fun h => absurd h (by decide)⟩, HBl.out⟩
  have h4' : decide ((1048576 : Int) < (d.pl : Int)) = false := decide_eq_false h4
  by_cases h4z : (1048576 : Int) < (d.acc.size : Int) + (d.sec.size : Int) + (d.desc.size : Int) + (d.pl : Int)
  · go_wp2_with fail
    go_ret
    exact ⟨⟨1, rfl, fun h => absurd h (by decide)⟩, HBl.out⟩
  have h4z' : decide ((1048576 : Int) < (d.acc.size : Int) + (d.sec.size : Int) + (d.desc.size : Int) + (d.pl : Int)) = false := decide_eq_false h4z
  go_wp2_with fail
  go_loopw [4, 3] (fun i x wr => ∃ (k : Nat) (y : Int), k ≤ d.pl ∧ i = .int .i64 k ∧ x = .int .i64 y ∧ 0 ≤ y ∧ y ≤ 1048576 ∧ Hid (∀ i, i < k → (d.pN i).size ≤ 1048576) ∧ Hid (wr = (w.alloc (.cells #[.string d.acc, .string d.sec, .string d.desc, .slice pa d.pl pc, .slice ra d.rl rc, .slice sa d.sl sc, .slice na d.nl nc, .bool d.loc, .int .i64 d.ct, .int .i64 d.et, .slice ha d.hl hc, .int .u64 d.ci, .int .u64 d.mi] 33))))
    (fun i _ _ => d.pl - (intOf i).toNat)
  case atStart => exact ⟨0, (d.acc.size : Int) + (d.sec.size : Int) + (d.desc.size : Int) + (d.pl : Int), Nat.zero_le _, rfl, rfl, by omega, by omega, fun i hi => absurd hi (by omega), rfl⟩
  case round =>
    obtain ⟨kp, yp, hkp, rfl, rfl, hyp, hyp', Hkp, hwr⟩ := hrel
    have hb3 : wr.cell? ⟨w.heap.size, 3, none⟩ = some (.slice pa d.pl pc) := by rw [hwr.out]; simp [go_sem]
    have hb4 : wr.cell? ⟨w.heap.size, 4, none⟩ = some (.slice ra d.rl rc) := by rw [hwr.out]; simp [go_sem]
    have hb5 : wr.cell? ⟨w.heap.size, 5, none⟩ = some (.slice sa d.sl sc) := by rw [hwr.out]; simp [go_sem]
    have hb6 : wr.cell? ⟨w.heap.size, 6, none⟩ = some (.slice na d.nl nc) := by rw [hwr.out]; simp [go_sem]
    have hb10 : wr.cell? ⟨w.heap.size, 10, none⟩ = some (.slice ha d.hl hc) := by rw [hwr.out]; simp [go_sem]
    by_cases hlt : kp < d.pl
    · have hk1 : (kp : Int) < (d.pl : Int) := by omega
      have ea := HPa.out (by omega)
      subst ea
      have hx : wr.cell? ⟨pb, po + kp, none⟩ = some (.string (d.pN kp)) := by rw [hwr.out]; exact HPc.out kp hlt
      by_cases hq : (1048576 : Int) < ((d.pN kp).size : Int)
      · go_wp2_with fail
        go_ret
        exact ⟨⟨1, rfl, fun h => absurd h (by decide)⟩, by rw [hwr.out]; exact HBl.out⟩
      have hq' : decide ((1048576 : Int) < ((d.pN kp).size : Int)) = false := decide_eq_false hq
      by_cases hqz : (1048576 : Int) < yp + ((d.pN kp).size : Int)
      · go_wp2_with fail
        go_ret
        exact ⟨⟨1, rfl, fun h => absurd h (by decide)⟩, by rw [hwr.out]; exact HBl.out⟩
      have hqz' : decide ((1048576 : Int) < yp + ((d.pN kp).size : Int)) = false := decide_eq_false hqz
      go_wp2_with fail
      go_roundw
      case rel => exact ⟨kp + 1, yp + ((d.pN kp).size : Int), by omega, by go_num, rfl, by omega, by omega, fun i hi => by rcases Nat.lt_or_ge i kp with h | h; exact Hkp.out i h; (obtain rfl : i = kp := by omega); omega, hwr⟩
      case measure => simp [intOf]; omega
    have hk1 : decide ((kp : Int) < (d.pl : Int)) = false := decide_eq_false (by omega)
    have HBp : Hid (∀ i, i < d.pl → (d.pN i).size ≤ 1048576) := fun i hi => Hkp.out i (by omega)
    by_cases h5 : (1048576 : Int) < (d.rl : Int)
    · go_wp2_with fail
      go_ret
      exact ⟨⟨1, rfl, fun h => absurd h (by decide)⟩, by rw [hwr.out]; exact HBl.out⟩
    have h5' : decide ((1048576 : Int) < (d.rl : Int)) = false := decide_eq_false h5
    by_cases h5z : (1048576 : Int) < yp + (d.rl : Int)
    · go_wp2_with fail
      go_ret
      exact ⟨⟨1, rfl, fun h => absurd h (by decide)⟩, by rw [hwr.out]; exact HBl.out⟩
    have h5z' : decide ((1048576 : Int) < yp + (d.rl : Int)) = false := decide_eq_false h5z
    go_wp2_with fail
    go_loopw [5, 3] (fun i x wr => ∃ (k : Nat) (y : Int), k ≤ d.rl ∧ i = .int .i64 k ∧ x = .int .i64 y ∧ 0 ≤ y ∧ y ≤ 1048576 ∧ Hid (∀ i, i < k → (d.rN i).size ≤ 1048576) ∧ Hid (wr = (w.alloc (.cells #[.string d.acc, .string d.sec, .string d.desc, .slice pa d.pl pc, .slice ra d.rl rc, .slice sa d.sl sc, .slice na d.nl nc, .bool d.loc, .int .i64 d.ct, .int .i64 d.et, .slice ha d.hl hc, .int .u64 d.ci, .int .u64 d.mi] 33))))
      (fun i _ _ => d.rl - (intOf i).toNat)
    case atStart => exact ⟨0, yp + (d.rl : Int), Nat.zero_le _, rfl, rfl, by omega, by omega, fun i hi => absurd hi (by omega), hwr⟩
    case round =>
      clear hwr
      try clear hb3 hb4 hb5 hb6 hb10
      obtain ⟨kr, yr, hkr, rfl, rfl, hyr, hyr', Hkr, hwr⟩ := hrel
      have hb4 : wr.cell? ⟨w.heap.size, 4, none⟩ = some (.slice ra d.rl rc) := by rw [hwr.out]; simp [go_sem]
      have hb5 : wr.cell? ⟨w.heap.size, 5, none⟩ = some (.slice sa d.sl sc) := by rw [hwr.out]; simp [go_sem]
      have hb6 : wr.cell? ⟨w.heap.size, 6, none⟩ = some (.slice na d.nl nc) := by rw [hwr.out]; simp [go_sem]
      have hb10 : wr.cell? ⟨w.heap.size, 10, none⟩ = some (.slice ha d.hl hc) := by rw [hwr.out]; simp [go_sem]
      by_cases hlt : kr < d.rl
      · have hk1 : (kr : Int) < (d.rl : Int) := by omega
        have ea := HRa.out (by omega)
        subst ea
        have hx : wr.cell? ⟨rb, ro + kr, none⟩ = some (.string (d.rN kr)) := by rw [hwr.out]; exact HRc.out kr hlt
        by_cases hq : (1048576 : Int) < ((d.rN kr).size : Int)
        · go_wp2_with fail
          go_ret
          exact ⟨⟨1, rfl, fun h => absurd h (by decide)⟩, by rw [hwr.out]; exact HBl.out⟩
        have hq' : decide ((1048576 : Int) < ((d.rN kr).size : Int)) = false := decide_eq_false hq
        by_cases hqz : (1048576 : Int) < yr + ((d.rN kr).size : Int)
        · go_wp2_with fail
          go_ret
          exact ⟨⟨1, rfl, fun h => absurd h (by decide)⟩, by rw [hwr.out]; exact HBl.out⟩
        have hqz' : decide ((1048576 : Int) < yr + ((d.rN kr).size : Int)) = false := decide_eq_false hqz
        go_wp2_with fail
        go_roundw
        case rel => exact ⟨kr + 1, yr + ((d.rN kr).size : Int), by omega, by go_num, rfl, by omega, by omega, fun i hi => by rcases Nat.lt_or_ge i kr with h | h; exact Hkr.out i h; (obtain rfl : i = kr := by omega); omega, hwr⟩
        case measure => simp [intOf]; omega
      have hk1 : decide ((kr : Int) < (d.rl : Int)) = false := decide_eq_false (by omega)
      have HBr : Hid (∀ i, i < d.rl → (d.rN i).size ≤ 1048576) := fun i hi => Hkr.out i (by omega)
      by_cases h6 : (1048576 : Int) < (d.sl : Int)
      · go_wp2_with fail
        go_ret
        exact ⟨⟨1, rfl, fun h => absurd h (by decide)⟩, by rw [hwr.out]; exact HBl.out⟩
      have h6' : decide ((1048576 : Int) < (d.sl : Int)) = false := decide_eq_false h6
      by_cases h6z : (1048576 : Int) < yr + (d.sl : Int)
      · go_wp2_with fail
        go_ret
        exact ⟨⟨1, rfl, fun h => absurd h (by decide)⟩, by rw [hwr.out]; exact HBl.out⟩
      have h6z' : decide ((1048576 : Int) < yr + (d.sl : Int)) = false := decide_eq_false h6z
      go_wp2_with fail
      go_loopw [6, 3] (fun i x wr => ∃ (k : Nat) (y : Int), k ≤ d.sl ∧ i = .int .i64 k ∧ x = .int .i64 y ∧ 0 ≤ y ∧ y ≤ 1048576 ∧ Hid (∀ i, i < k → (d.sN i).size ≤ 1048576 ∧ d.dl i ≤ 1048576 ∧ ∀ j, j < d.dl i → (d.dN i j).size ≤ 1048576) ∧ Hid (wr = (w.alloc (.cells #[.string d.acc, .string d.sec, .string d.desc, .slice pa d.pl pc, .slice ra d.rl rc, .slice sa d.sl sc, .slice na d.nl nc, .bool d.loc, .int .i64 d.ct, .int .i64 d.et, .slice ha d.hl hc, .int .u64 d.ci, .int .u64 d.mi] 33))))
        (fun i _ _ => d.sl - (intOf i).toNat)
      case atStart => exact ⟨0, yr + (d.sl : Int), Nat.zero_le _, rfl, rfl, by omega, by omega, fun i hi => absurd hi (by omega), hwr⟩
      case round =>
        clear hwr
        try clear hb4 hb5 hb6 hb10
        obtain ⟨ks, ys, hks, rfl, rfl, hys, hys', Hks, hwr⟩ := hrel
        have hb5 : wr.cell? ⟨w.heap.size, 5, none⟩ = some (.slice sa d.sl sc) := by rw [hwr.out]; simp [go_sem]
        have hb6 : wr.cell? ⟨w.heap.size, 6, none⟩ = some (.slice na d.nl nc) := by rw [hwr.out]; simp [go_sem]
        have hb10 : wr.cell? ⟨w.heap.size, 10, none⟩ = some (.slice ha d.hl hc) := by rw [hwr.out]; simp [go_sem]
        by_cases hlt : ks < d.sl
        · have hk1 : (ks : Int) < (d.sl : Int) := by omega
          have ea := HSa.out (by omega)
          subst ea
          have hx0 : wr.cell? ⟨sb, so + ks * 2, none⟩ = some (.string (d.sN ks)) := by rw [hwr.out, HSc.out (ks * 2) (by omega), svcV_0]
          have hx1 : wr.cell? ⟨sb, so + ks * 2 + 1, none⟩ = some (dv ks) := by rw [hwr.out, Nat.add_assoc, HSc.out (ks * 2 + 1) (by omega), svcV_1]
          obtain ⟨da, db, dO, dc, ed, _, hDa, hDc⟩ := HP.out.ds ks hlt
          rw [ed] at hx1
          have HDa : Hid (0 < d.dl ks → da = some ⟨db, dO, none⟩) := hDa
          have HDc : Hid (∀ i, i < d.dl ks → (w.alloc (.cells #[.string d.acc, .string d.sec, .string d.desc, .slice pa d.pl pc, .slice ra d.rl rc, .slice (some ⟨sb, so, none⟩) d.sl sc, .slice na d.nl nc, .bool d.loc, .int .i64 d.ct, .int .i64 d.et, .slice ha d.hl hc, .int .u64 d.ci, .int .u64 d.mi] 33)).cell? ⟨db, dO + i, none⟩ = some (.string (d.dN ks i))) := hDc
          have ED : Hid (dv ks = .slice da (d.dl ks) dc) := ed
          clear hDa hDc ed
          by_cases h7 : (1048576 : Int) < ((d.sN ks).size : Int)
          · go_wp2_with fail
            go_ret
            exact ⟨⟨1, rfl, fun h => absurd h (by decide)⟩, by rw [hwr.out]; exact HBl.out⟩
          have h7' : decide ((1048576 : Int) < ((d.sN ks).size : Int)) = false := decide_eq_false h7
          by_cases h7z : (1048576 : Int) < ys + ((d.sN ks).size : Int)
          · go_wp2_with fail
            go_ret
            exact ⟨⟨1, rfl, fun h => absurd h (by decide)⟩, by rw [hwr.out]; exact HBl.out⟩
          have h7z' : decide ((1048576 : Int) < ys + ((d.sN ks).size : Int)) = false := decide_eq_false h7z
          by_cases h8 : (1048576 : Int) < (d.dl ks : Int)
          · go_wp2_with fail
            go_ret
            exact ⟨⟨1, rfl, fun h => absurd h (by decide)⟩, by rw [hwr.out]; exact HBl.out⟩
          have h8' : decide ((1048576 : Int) < (d.dl ks : Int)) = false := decide_eq_false h8
          by_cases h8z : (1048576 : Int) < ys + ((d.sN ks).size : Int) + (d.dl ks : Int)
          · go_wp2_with fail
            go_ret
            exact ⟨⟨1, rfl, fun h => absurd h (by decide)⟩, by rw [hwr.out]; exact HBl.out⟩
          have h8z' : decide ((1048576 : Int) < ys + ((d.sN ks).size : Int) + (d.dl ks : Int)) = false := decide_eq_false h8z
          go_wp2_with fail
          go_loopw [7, 3] (fun i x wr => ∃ (k : Nat) (y : Int), k ≤ d.dl ks ∧ i = .int .i64 k ∧ x = .int .i64 y ∧ 0 ≤ y ∧ y ≤ 1048576 ∧ Hid (∀ i, i < k → (d.dN ks i).size ≤ 1048576) ∧ Hid (wr = (w.alloc (.cells #[.string d.acc, .string d.sec, .string d.desc, .slice pa d.pl pc, .slice ra d.rl rc, .slice (some ⟨sb, so, none⟩) d.sl sc, .slice na d.nl nc, .bool d.loc, .int .i64 d.ct, .int .i64 d.et, .slice ha d.hl hc, .int .u64 d.ci, .int .u64 d.mi] 33))))
            (fun i _ _ => d.dl ks - (intOf i).toNat)
          case atStart => exact ⟨0, ys + ((d.sN ks).size : Int) + (d.dl ks : Int), Nat.zero_le _, rfl, rfl, by omega, by omega, fun i hi => absurd hi (by omega), hwr⟩
          case round =>
            clear hwr hx0 hx1 hb5 hb6 hb10
            obtain ⟨kd, yd, hkd, rfl, rfl, hyd, hyd', Hkd, hwr⟩ := hrel
            have hb5 : wr.cell? ⟨w.heap.size, 5, none⟩ = some (.slice (some ⟨sb, so, none⟩) d.sl sc) := by rw [hwr.out]; simp [go_sem]
            have hb6 : wr.cell? ⟨w.heap.size, 6, none⟩ = some (.slice na d.nl nc) := by rw [hwr.out]; simp [go_sem]
            have hb10 : wr.cell? ⟨w.heap.size, 10, none⟩ = some (.slice ha d.hl hc) := by rw [hwr.out]; simp [go_sem]
            have hx1 : wr.cell? ⟨sb, so + ks * 2 + 1, none⟩ = some (.slice da (d.dl ks) dc) := by rw [hwr.out, Nat.add_assoc, HSc.out (ks * 2 + 1) (by omega), svcV_1, ED.out]
            by_cases hltd : kd < d.dl ks
            · have hk2 : (kd : Int) < (d.dl ks : Int) := by omega
              have ea := HDa.out (by omega)
              subst ea
              have hx : wr.cell? ⟨db, dO + kd, none⟩ = some (.string (d.dN ks kd)) := by rw [hwr.out]; exact HDc.out kd hltd
              by_cases hq : (1048576 : Int) < ((d.dN ks kd).size : Int)
              · go_wp2_with fail
                go_ret
                exact ⟨⟨1, rfl, fun h => absurd h (by decide)⟩, by rw [hwr.out]; exact HBl.out⟩
              have hq' : decide ((1048576 : Int) < ((d.dN ks kd).size : Int)) = false := decide_eq_false hq
              by_cases hqz : (1048576 : Int) < yd + ((d.dN ks kd).size : Int)
              · go_wp2_with fail
                go_ret
                exact ⟨⟨1, rfl, fun h => absurd h (by decide)⟩, by rw [hwr.out]; exact HBl.out⟩
              have hqz' : decide ((1048576 : Int) < yd + ((d.dN ks kd).size : Int)) = false := decide_eq_false hqz
              go_wp2_with fail
              go_roundw
              case rel => exact ⟨kd + 1, yd + ((d.dN ks kd).size : Int), by omega, by go_num, rfl, by omega, by omega, fun i hi => by rcases Nat.lt_or_ge i kd with h | h; exact Hkd.out i h; (obtain rfl : i = kd := by omega); omega, hwr⟩
              case measure => simp [intOf]; omega
            · have hk2 : decide ((kd : Int) < (d.dl ks : Int)) = false := decide_eq_false (by omega)
              go_wp2_with fail
              go_roundw
              case rel => exact ⟨ks + 1, yd, by omega, by go_num, rfl, hyd, hyd', fun i hi => by rcases Nat.lt_or_ge i ks with h | h; exact Hks.out i h; (obtain rfl : i = ks := by omega); exact ⟨by omega, by omega, fun j hj => Hkd.out j (by omega)⟩, hwr⟩
              case measure => simp [intOf]; omega
        have hk1 : decide ((ks : Int) < (d.sl : Int)) = false := decide_eq_false (by omega)
        by_cases h9 : (1048576 : Int) < (d.nl : Int)
        · go_wp2_with fail
          go_ret
          exact ⟨⟨1, rfl, fun h => absurd h (by decide)⟩, by rw [hwr.out]; exact HBl.out⟩
        have h9' : decide ((1048576 : Int) < (d.nl : Int)) = false := decide_eq_false h9
        by_cases h9z : (1048576 : Int) < ys + (d.nl : Int)
        · go_wp2_with fail
          go_ret
          exact ⟨⟨1, rfl, fun h => absurd h (by decide)⟩, by rw [hwr.out]; exact HBl.out⟩
        have h9z' : decide ((1048576 : Int) < ys + (d.nl : Int)) = false := decide_eq_false h9z
        go_wp2_with fail
        go_loopw [8, 3] (fun i x wr => ∃ (k : Nat) (y : Int), k ≤ d.nl ∧ i = .int .i64 k ∧ x = .int .i64 y ∧ 0 ≤ y ∧ y ≤ 1048576 ∧ Hid (∀ i, i < k → (d.nA i).size ≤ 1048576 ∧ (d.nB i).size ≤ 1048576) ∧ Hid (wr = (w.alloc (.cells #[.string d.acc, .string d.sec, .string d.desc, .slice pa d.pl pc, .slice ra d.rl rc, .slice sa d.sl sc, .slice na d.nl nc, .bool d.loc, .int .i64 d.ct, .int .i64 d.et, .slice ha d.hl hc, .int .u64 d.ci, .int .u64 d.mi] 33))))
          (fun i _ _ => d.nl - (intOf i).toNat)
        case atStart => exact ⟨0, ys + (d.nl : Int), Nat.zero_le _, rfl, rfl, by omega, by omega, fun i hi => absurd hi (by omega), hwr⟩
        case round =>
          clear hwr hb5 hb6 hb10
          obtain ⟨kn, yn, hkn, rfl, rfl, hyn, hyn', Hkn, hwr⟩ := hrel
          have hb6 : wr.cell? ⟨w.heap.size, 6, none⟩ = some (.slice na d.nl nc) := by rw [hwr.out]; simp [go_sem]
          have hb10 : wr.cell? ⟨w.heap.size, 10, none⟩ = some (.slice ha d.hl hc) := by rw [hwr.out]; simp [go_sem]
          by_cases hlt : kn < d.nl
          · have hk1 : (kn : Int) < (d.nl : Int) := by omega
            have ea := HNa.out (by omega)
            subst ea
            have hx0 : wr.cell? ⟨nb, no + kn * 2, none⟩ = some (.string (d.nA kn)) := by rw [hwr.out, HNc.out (kn * 2) (by omega), nodV_0]
            have hx1 : wr.cell? ⟨nb, no + kn * 2 + 1, none⟩ = some (.string (d.nB kn)) := by rw [hwr.out, Nat.add_assoc, HNc.out (kn * 2 + 1) (by omega), nodV_1]
            by_cases hq : (1048576 : Int) < ((d.nA kn).size : Int)
            · go_wp2_with fail
              go_ret
              exact ⟨⟨1, rfl, fun h => absurd h (by decide)⟩, by rw [hwr.out]; exact HBl.out⟩
            have hq' : decide ((1048576 : Int) < ((d.nA kn).size : Int)) = false := decide_eq_false hq
            by_cases hqz : (1048576 : Int) < yn + ((d.nA kn).size : Int)
            · go_wp2_with fail
              go_ret
              exact ⟨⟨1, rfl, fun h => absurd h (by decide)⟩, by rw [hwr.out]; exact HBl.out⟩
            have hqz' : decide ((1048576 : Int) < yn + ((d.nA kn).size : Int)) = false := decide_eq_false hqz
            by_cases hr : (1048576 : Int) < ((d.nB kn).size : Int)
            · go_wp2_with fail
              go_ret
              exact ⟨⟨1, rfl, fun h => absurd h (by decide)⟩, by rw [hwr.out]; exact HBl.out⟩
            have hr' : decide ((1048576 : Int) < ((d.nB kn).size : Int)) = false := decide_eq_false hr
            by_cases hrz : (1048576 : Int) < yn + ((d.nA kn).size : Int) + ((d.nB kn).size : Int)
            · go_wp2_with fail
              go_ret
              exact ⟨⟨1, rfl, fun h => absurd h (by decide)⟩, by rw [hwr.out]; exact HBl.out⟩
            have hrz' : decide ((1048576 : Int) < yn + ((d.nA kn).size : Int) + ((d.nB kn).size : Int)) = false := decide_eq_false hrz
            go_wp2_with fail
            go_roundw
            case rel => exact ⟨kn + 1, yn + ((d.nA kn).size : Int) + ((d.nB kn).size : Int), by omega, by go_num, rfl, by omega, by omega, fun i hi => by rcases Nat.lt_or_ge i kn with h | h; exact Hkn.out i h; (obtain rfl : i = kn := by omega); exact ⟨by omega, by omega⟩, hwr⟩
            case measure => simp [intOf]; omega
          have hk1 : decide ((kn : Int) < (d.nl : Int)) = false := decide_eq_false (by omega)
          by_cases h10 : (1048576 : Int) < (d.hl : Int)
          · go_wp2_with fail
            go_ret
            exact ⟨⟨1, rfl, fun h => absurd h (by decide)⟩, by rw [hwr.out]; exact HBl.out⟩
          have h10' : decide ((1048576 : Int) < (d.hl : Int)) = false := decide_eq_false h10
          by_cases h10z : (1048576 : Int) < yn + (d.hl : Int)
          · go_wp2_with fail
            go_ret
            exact ⟨⟨1, rfl, fun h => absurd h (by decide)⟩, by rw [hwr.out]; exact HBl.out⟩
          have h10z' : decide ((1048576 : Int) < yn + (d.hl : Int)) = false := decide_eq_false h10z
          go_wp2_with fail
          go_ret
          exact ⟨⟨0, rfl, fun _ => ⟨by omega, by omega, by omega, by omega, HBp.out, by omega, HBr.out, by omega, fun i hi => (Hks.out i (by omega)).1, fun i hi => (Hks.out i (by omega)).2.1, fun i hi => (Hks.out i (by omega)).2.2, by omega, fun i hi => (Hkn.out i (by omega)).1, fun i hi => (Hkn.out i (by omega)).2, by omega⟩⟩, by rw [hwr.out]; exact HBl.out⟩
end Go.Proofs.Qxb6609019a
