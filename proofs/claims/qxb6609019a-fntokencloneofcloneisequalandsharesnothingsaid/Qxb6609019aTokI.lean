import Derived.Test.Qxb6609019aTokG
import Derived.Deep.RegionHeld3
import Derived.Laws.StructEq
namespace Go.Proofs.Qxb6609019a
open Go.RowKit

theorem Try.held43 : Try.prog.stoodInHeld 43 = false := by kernel_rfl
theorem Try.guard43 : Try.prog.eqGuardType Try.prog.depth 43 = false := by kernel_rfl
theorem Try.guard43' (op : BinOp) (x y : Operand) (xs ys : Array Value) (w : World) : (eqGuard op 43 x y (.agg xs) (.agg ys)).run Try.prog w = .ok () w := run_eqGuard_agg w op 43 x y xs ys Try.guard43

theorem ptr_eq41 (w : World) : (Op.equalIn 9999 41 (.pointer none) (.pointer none)).run Try.prog w = .ok true w := by
  kernel_rfl

theorem time_neq (a b : Int) (w : World) : (binOp .neq 43 (.agg #[.int .u64 a, .int .i64 b, .pointer none]) (.agg #[.int .u64 a, .int .i64 b, .pointer none])).run Try.prog w = .ok (.bool false) w := by
  have h := Try.underlying43
  rw [run_neq_struct]
  rw [show (10000 : Nat) = 9999 + 1 from rfl, run_equalIn_struct w 9999 43 _ _ (by kernel_rfl) Try.held43]
  simp [Program.fieldsOf, h, Op.eqFields, go_sem, ptr_eq41]
theorem time_equal (a b : Int) (w : World) : (Op.equalIn 10000 43 (.agg #[.int .u64 a, .int .i64 b, .pointer none]) (.agg #[.int .u64 a, .int .i64 b, .pointer none])).run Try.prog w = .ok true w := by
  have h := Try.underlying43
  rw [show (10000 : Nat) = 9999 + 1 from rfl, run_equalIn_struct w 9999 43 _ _ (by kernel_rfl) Try.held43]
  simp [Program.fieldsOf, h, Op.eqFields, go_sem, ptr_eq41]

theorem keepC {w1 w2 : World} (hB : Below w1.heap.size w1 w2) {a : Addr} {v : Value} (h : w1.cell? a = some v) : w2.cell? a = some v :=
  (hB.cell (lt_of_cell h)).trans h
theorem below_drewN {B : Nat} {a w : World} (h : Below B a w) (n : Nat) : Below B a (w.drewN n) := ⟨h.os, h.tape, h.output, h.size, h.block⟩
theorem keepB {w w1 w2 : World} {B : Nat} (hB : Below w1.heap.size w1 w2) (h : Below B w w1) (hs : B ≤ w.heap.size) : Below B w w2 :=
  h.trans (hB.mono (Nat.le_trans hs h.size))

/-- A token's slices, as they may be read in w: the data turned by m. -/
structure TArg (w : World) (m : Bool) (d : TD) (sz nz : Bool) (pv rv sv nv hv : Value) (dv : Nat → Value) : Prop where
  p : Arg w pv d.pz d.pl d.pl (fun i => .string (hashed m (d.pN i)))
  r : Arg w rv d.rz d.rl d.rl (fun i => .string (hashed m (d.rN i)))
  h : Arg w hv d.hz d.hl d.hl (fun i => .int .u8 (xored m (d.hN i)))
  s : Arg w sv sz d.sl (d.sl * 2) (svcV (fun i => hashed m (d.sN i)) dv)
  ds : ∀ k, k < d.sl → Arg w (dv k) (d.dz k) (d.dl k) (d.dl k) (fun i => .string (hashed m (d.dN k i)))
  n : Arg w nv nz d.nl (d.nl * 2) (nodV (fun i => hashed m (d.nA i)) (fun i => hashed m (d.nB i)))

theorem TArg.below {w w' : World} {m : Bool} {B : Nat} {d : TD} {sz nz : Bool} {pv rv sv nv hv : Value} {dv : Nat → Value} (h : TArg w m d sz nz pv rv sv nv hv dv) (hb : Below B w w') (hB : w.heap.size ≤ B) : TArg w' m d sz nz pv rv sv nv hv dv :=
  ⟨h.p.below hb hB, h.r.below hb hB, h.h.below hb hB, h.s.below hb hB, fun k hk => (h.ds k hk).below hb hB, h.n.below hb hB⟩

set_option maxHeartbeats 4000000 in
set_option maxRecDepth 100000 in
theorem matches_true (d : TD) (m q sz nz : Bool) (pv rv sv nv hv : Value) (dv : Nat → Value) (pv' rv' sv' nv' hv' : Value) (dv' : Nat → Value) (w : World) (hd : Bd d)
    (hct : -9223372036854775808 ≤ d.ct) (hct' : d.ct ≤ 9223372036854775807) (het : -9223372036854775808 ≤ d.et) (het' : d.et ≤ 9223372036854775807)
    (hq : q = true → sz = false ∧ nz = false) (hq' : q = false → sz = d.sz ∧ nz = d.nz)
    (hA : TArg w m d sz nz pv rv sv nv hv dv) (hB : FArg w d pv' rv' sv' nv' hv' dv') :
    Calls Try.prog 17 #[.agg (tC d pv rv sv nv hv), .agg (fC d pv' rv' sv' nv' hv'), .bool m, .bool q] w fun e w' => e = .returned (.bool true) ∧ Below w.heap.size w w' := by
  obtain ⟨sa, sb, so, sc, es, ez1, hSa, hSc⟩ := hA.s
  obtain ⟨na, nb, no, nc, en, ez2, hNa, hNc⟩ := hA.n
  obtain ⟨sa', sb', so', sc', es', ez3, hSa', hSc'⟩ := hB.s
  obtain ⟨na', nb', no', nc', en', ez4, hNa', hNc'⟩ := hB.n
  subst es en es' en'
  have b4 := hd.sl
  have b5 := hd.nl
  have hn1 := fun w => Lib.run_eql_slice_nil (P := Try.prog) w 37 61 sa d.sl sc 0 0 Try.underlying37
  have hn2 := fun w => Lib.run_eql_slice_nil (P := Try.prog) w 38 62 na d.nl nc 0 0 Try.underlying38
  have hn3 := fun w => Lib.run_eql_slice_nil (P := Try.prog) w 29 51 sa' d.sl sc' 0 0 Try.underlying29
  have hn4 := fun w => Lib.run_eql_slice_nil (P := Try.prog) w 30 53 na' d.nl nc' 0 0 Try.underlying30
  rw [ez1] at hn1
  rw [ez2] at hn2
  rw [ez3] at hn3
  rw [ez4] at hn4
  have Hd : Hid (Bd d) := hd
  have HA : Hid (TArg w m d sz nz pv rv (.slice sa d.sl sc) (.slice na d.nl nc) hv dv) := hA
  have HB : Hid (FArg w d pv' rv' (.slice sa' d.sl sc') (.slice na' d.nl nc') hv' dv') := hB
  have HSa : Hid (0 < d.sl → sa = some ⟨sb, so, none⟩) := hSa
  have HSc : Hid (∀ i, i < d.sl * 2 → w.cell? ⟨sb, so + i, none⟩ = some (svcV (fun i => hashed m (d.sN i)) dv i)) := hSc
  have HNa : Hid (0 < d.nl → na = some ⟨nb, no, none⟩) := hNa
  have HNc : Hid (∀ i, i < d.nl * 2 → w.cell? ⟨nb, no + i, none⟩ = some (nodV (fun i => hashed m (d.nA i)) (fun i => hashed m (d.nB i)) i)) := hNc
  have HSa' : Hid (0 < d.sl → sa' = some ⟨sb', so', none⟩) := hSa'
  have HSc' : Hid (∀ i, i < d.sl * 2 → w.cell? ⟨sb', so' + i, none⟩ = some (svcV d.sN dv' i)) := hSc'
  have HNa' : Hid (0 < d.nl → na' = some ⟨nb', no', none⟩) := hNa'
  have HNc' : Hid (∀ i, i < d.nl * 2 → w.cell? ⟨nb', no' + i, none⟩ = some (nodV d.nA d.nB i)) := hNc'
  have HW : Hid (Below w.heap.size w ((w.alloc (.cells #[.string d.acc, .string d.sec, .string d.desc, pv, rv, .slice sa d.sl sc, .slice na d.nl nc, .bool d.loc, .int .u64 (d.ct % 1000000000), .int .i64 (d.ct / 1000000000), .pointer none, .int .u64 (d.et % 1000000000), .int .i64 (d.et / 1000000000), .pointer none, hv, .int .u64 d.ci, .int .u64 d.mi] 45)).alloc (.cells #[.string d.acc, .string d.sec, .string d.desc, pv', rv', .slice sa' d.sl sc', .slice na' d.nl nc', .bool d.loc, .int .i64 d.ct, .int .i64 d.et, hv', .int .u64 d.ci, .int .u64 d.mi] 33))) := ((Below.refl _ _).alloc (Nat.le_refl _) _).alloc (by simp) _
  have HQ : Hid (q = true → sz = false ∧ nz = false) := hq
  have HQ' : Hid (q = false → sz = d.sz ∧ nz = d.nz) := hq'
  clear hA hB hSa hSc hNa hNc hSa' hSc' hNa' hNc' hd ez1 ez2 ez3 ez4 hq hq'
  unfold tC fC at *
  have ht1 := fun w => time_neq (d.ct % 1000000000) (d.ct / 1000000000) w
  have ht2 := fun w => time_neq (d.et % 1000000000) (d.et / 1000000000) w
  have ht3 := fun w => time_equal (d.ct % 1000000000) (d.ct / 1000000000) w
  have ht4 := fun w => time_equal (d.et % 1000000000) (d.et / 1000000000) w
  have ht5 := Try.guard43'
  go_enter Try.func17, Try.ntmps17
  go_wp2_with fail
  have hS0 : (fun w' => w'.cell? ⟨w.heap.size, 8, none⟩ = some (.int .u64 (d.ct % 1000000000)) ∧ w'.cell? ⟨w.heap.size, 9, none⟩ = some (.int .i64 (d.ct / 1000000000)) ∧ w'.cell? ⟨w.heap.size, 10, none⟩ = some (.pointer none) ∧ w'.cell? ⟨w.heap.size, 11, none⟩ = some (.int .u64 (d.et % 1000000000)) ∧ w'.cell? ⟨w.heap.size, 12, none⟩ = some (.int .i64 (d.et / 1000000000)) ∧ w'.cell? ⟨w.heap.size, 13, none⟩ = some (.pointer none) ∧ w'.cell? ⟨w.heap.size, 3, none⟩ = some (pv) ∧ w'.cell? ⟨w.heap.size, 4, none⟩ = some (rv) ∧ w'.cell? ⟨w.heap.size, 14, none⟩ = some (hv) ∧ w'.cell? ⟨w.heap.size, 5, none⟩ = some (.slice sa d.sl sc) ∧ w'.cell? ⟨w.heap.size, 6, none⟩ = some (.slice na d.nl nc) ∧ w'.cell? ⟨w.heap.size + 1, 8, none⟩ = some (.int .i64 d.ct) ∧ w'.cell? ⟨w.heap.size + 1, 9, none⟩ = some (.int .i64 d.et) ∧ w'.cell? ⟨w.heap.size + 1, 3, none⟩ = some (pv') ∧ w'.cell? ⟨w.heap.size + 1, 4, none⟩ = some (rv') ∧ w'.cell? ⟨w.heap.size + 1, 10, none⟩ = some (hv') ∧ w'.cell? ⟨w.heap.size + 1, 5, none⟩ = some (.slice sa' d.sl sc') ∧ w'.cell? ⟨w.heap.size + 1, 6, none⟩ = some (.slice na' d.nl nc') ∧ Below (w.heap.size + 2) ((w.alloc (.cells #[.string d.acc, .string d.sec, .string d.desc, pv, rv, .slice sa d.sl sc, .slice na d.nl nc, .bool d.loc, .int .u64 (d.ct % 1000000000), .int .i64 (d.ct / 1000000000), .pointer none, .int .u64 (d.et % 1000000000), .int .i64 (d.et / 1000000000), .pointer none, hv, .int .u64 d.ci, .int .u64 d.mi] 45)).alloc (.cells #[.string d.acc, .string d.sec, .string d.desc, pv', rv', .slice sa' d.sl sc', .slice na' d.nl nc', .bool d.loc, .int .i64 d.ct, .int .i64 d.et, hv', .int .u64 d.ci, .int .u64 d.mi] 33)) w') ((w.alloc (.cells #[.string d.acc, .string d.sec, .string d.desc, pv, rv, .slice sa d.sl sc, .slice na d.nl nc, .bool d.loc, .int .u64 (d.ct % 1000000000), .int .i64 (d.ct / 1000000000), .pointer none, .int .u64 (d.et % 1000000000), .int .i64 (d.et / 1000000000), .pointer none, hv, .int .u64 d.ci, .int .u64 d.mi] 45)).alloc (.cells #[.string d.acc, .string d.sec, .string d.desc, pv', rv', .slice sa' d.sl sc', .slice na' d.nl nc', .bool d.loc, .int .i64 d.ct, .int .i64 d.et, hv', .int .u64 d.ci, .int .u64 d.mi] 33)).drew := ⟨by simp [go_sem], by simp [go_sem], by simp [go_sem], by simp [go_sem], by simp [go_sem], by simp [go_sem], by simp [go_sem], by simp [go_sem], by simp [go_sem], by simp [go_sem], by simp [go_sem], by simp [go_sem], by simp [go_sem], by simp [go_sem], by simp [go_sem], by simp [go_sem], by simp [go_sem], by simp [go_sem], (Below.refl _ _).drew⟩
  have HS0 : Hid ((fun w' => w'.cell? ⟨w.heap.size, 8, none⟩ = some (.int .u64 (d.ct % 1000000000)) ∧ w'.cell? ⟨w.heap.size, 9, none⟩ = some (.int .i64 (d.ct / 1000000000)) ∧ w'.cell? ⟨w.heap.size, 10, none⟩ = some (.pointer none) ∧ w'.cell? ⟨w.heap.size, 11, none⟩ = some (.int .u64 (d.et % 1000000000)) ∧ w'.cell? ⟨w.heap.size, 12, none⟩ = some (.int .i64 (d.et / 1000000000)) ∧ w'.cell? ⟨w.heap.size, 13, none⟩ = some (.pointer none) ∧ w'.cell? ⟨w.heap.size, 3, none⟩ = some (pv) ∧ w'.cell? ⟨w.heap.size, 4, none⟩ = some (rv) ∧ w'.cell? ⟨w.heap.size, 14, none⟩ = some (hv) ∧ w'.cell? ⟨w.heap.size, 5, none⟩ = some (.slice sa d.sl sc) ∧ w'.cell? ⟨w.heap.size, 6, none⟩ = some (.slice na d.nl nc) ∧ w'.cell? ⟨w.heap.size + 1, 8, none⟩ = some (.int .i64 d.ct) ∧ w'.cell? ⟨w.heap.size + 1, 9, none⟩ = some (.int .i64 d.et) ∧ w'.cell? ⟨w.heap.size + 1, 3, none⟩ = some (pv') ∧ w'.cell? ⟨w.heap.size + 1, 4, none⟩ = some (rv') ∧ w'.cell? ⟨w.heap.size + 1, 10, none⟩ = some (hv') ∧ w'.cell? ⟨w.heap.size + 1, 5, none⟩ = some (.slice sa' d.sl sc') ∧ w'.cell? ⟨w.heap.size + 1, 6, none⟩ = some (.slice na' d.nl nc') ∧ Below (w.heap.size + 2) ((w.alloc (.cells #[.string d.acc, .string d.sec, .string d.desc, pv, rv, .slice sa d.sl sc, .slice na d.nl nc, .bool d.loc, .int .u64 (d.ct % 1000000000), .int .i64 (d.ct / 1000000000), .pointer none, .int .u64 (d.et % 1000000000), .int .i64 (d.et / 1000000000), .pointer none, hv, .int .u64 d.ci, .int .u64 d.mi] 45)).alloc (.cells #[.string d.acc, .string d.sec, .string d.desc, pv', rv', .slice sa' d.sl sc', .slice na' d.nl nc', .bool d.loc, .int .i64 d.ct, .int .i64 d.et, hv', .int .u64 d.ci, .int .u64 d.mi] 33)) w') ((w.alloc (.cells #[.string d.acc, .string d.sec, .string d.desc, pv, rv, .slice sa d.sl sc, .slice na d.nl nc, .bool d.loc, .int .u64 (d.ct % 1000000000), .int .i64 (d.ct / 1000000000), .pointer none, .int .u64 (d.et % 1000000000), .int .i64 (d.et / 1000000000), .pointer none, hv, .int .u64 d.ci, .int .u64 d.mi] 45)).alloc (.cells #[.string d.acc, .string d.sec, .string d.desc, pv', rv', .slice sa' d.sl sc', .slice na' d.nl nc', .bool d.loc, .int .i64 d.ct, .int .i64 d.et, hv', .int .u64 d.ci, .int .u64 d.mi] 33)).drew) := hS0
  clear hS0
  go_region_held3 (fun w' => w'.cell? ⟨w.heap.size, 8, none⟩ = some (.int .u64 (d.ct % 1000000000)) ∧ w'.cell? ⟨w.heap.size, 9, none⟩ = some (.int .i64 (d.ct / 1000000000)) ∧ w'.cell? ⟨w.heap.size, 10, none⟩ = some (.pointer none) ∧ w'.cell? ⟨w.heap.size, 11, none⟩ = some (.int .u64 (d.et % 1000000000)) ∧ w'.cell? ⟨w.heap.size, 12, none⟩ = some (.int .i64 (d.et / 1000000000)) ∧ w'.cell? ⟨w.heap.size, 13, none⟩ = some (.pointer none) ∧ w'.cell? ⟨w.heap.size, 3, none⟩ = some (pv) ∧ w'.cell? ⟨w.heap.size, 4, none⟩ = some (rv) ∧ w'.cell? ⟨w.heap.size, 14, none⟩ = some (hv) ∧ w'.cell? ⟨w.heap.size, 5, none⟩ = some (.slice sa d.sl sc) ∧ w'.cell? ⟨w.heap.size, 6, none⟩ = some (.slice na d.nl nc) ∧ w'.cell? ⟨w.heap.size + 1, 8, none⟩ = some (.int .i64 d.ct) ∧ w'.cell? ⟨w.heap.size + 1, 9, none⟩ = some (.int .i64 d.et) ∧ w'.cell? ⟨w.heap.size + 1, 3, none⟩ = some (pv') ∧ w'.cell? ⟨w.heap.size + 1, 4, none⟩ = some (rv') ∧ w'.cell? ⟨w.heap.size + 1, 10, none⟩ = some (hv') ∧ w'.cell? ⟨w.heap.size + 1, 5, none⟩ = some (.slice sa' d.sl sc') ∧ w'.cell? ⟨w.heap.size + 1, 6, none⟩ = some (.slice na' d.nl nc') ∧ Below (w.heap.size + 2) ((w.alloc (.cells #[.string d.acc, .string d.sec, .string d.desc, pv, rv, .slice sa d.sl sc, .slice na d.nl nc, .bool d.loc, .int .u64 (d.ct % 1000000000), .int .i64 (d.ct / 1000000000), .pointer none, .int .u64 (d.et % 1000000000), .int .i64 (d.et / 1000000000), .pointer none, hv, .int .u64 d.ci, .int .u64 d.mi] 45)).alloc (.cells #[.string d.acc, .string d.sec, .string d.desc, pv', rv', .slice sa' d.sl sc', .slice na' d.nl nc', .bool d.loc, .int .i64 d.ct, .int .i64 d.et, hv', .int .u64 d.ci, .int .u64 d.mi] 33)) w') ((first | exact HS0.out | (go_split_ands; (repeat' apply And.intro) <;> first | assumption | (refine keepC hB ?_; assumption) | (refine keepB hB ?_ (by simp); assumption)))) ((first | (go_at_call 24; refine (timeAt_any d.ct _ hct hct').mono ?_; rintro _ w2 ⟨rfl, hB⟩; unfold timeV) | (go_at_call 24; refine (timeAt_any d.et _ het het').mono ?_; rintro _ w2 ⟨rfl, hB⟩; unfold timeV)))

  go_split_ands
  have hBm : Below (w.heap.size + 2) ((w.alloc (.cells #[.string d.acc, .string d.sec, .string d.desc, pv, rv, .slice sa d.sl sc, .slice na d.nl nc, .bool d.loc, .int .u64 (d.ct % 1000000000), .int .i64 (d.ct / 1000000000), .pointer none, .int .u64 (d.et % 1000000000), .int .i64 (d.et / 1000000000), .pointer none, hv, .int .u64 d.ci, .int .u64 d.mi] 45)).alloc (.cells #[.string d.acc, .string d.sec, .string d.desc, pv', rv', .slice sa' d.sl sc', .slice na' d.nl nc', .bool d.loc, .int .i64 d.ct, .int .i64 d.et, hv', .int .u64 d.ci, .int .u64 d.mi] 33)) w2 := by assumption
  have HBm : Hid (Below w.heap.size w w2) := HW.out.trans (hBm.mono (by omega))
  have hc0 : w2.cell? ⟨w.heap.size, 3, none⟩ = some (pv) := by assumption
  have hc1 : w2.cell? ⟨w.heap.size, 4, none⟩ = some (rv) := by assumption
  have hc2 : w2.cell? ⟨w.heap.size, 14, none⟩ = some (hv) := by assumption
  have hc3 : w2.cell? ⟨w.heap.size, 5, none⟩ = some (.slice sa d.sl sc) := by assumption
  have hc4 : w2.cell? ⟨w.heap.size, 6, none⟩ = some (.slice na d.nl nc) := by assumption
  have hc5 : w2.cell? ⟨w.heap.size + 1, 3, none⟩ = some (pv') := by assumption
  have hc6 : w2.cell? ⟨w.heap.size + 1, 4, none⟩ = some (rv') := by assumption
  have hc7 : w2.cell? ⟨w.heap.size + 1, 10, none⟩ = some (hv') := by assumption
  have hc8 : w2.cell? ⟨w.heap.size + 1, 5, none⟩ = some (.slice sa' d.sl sc') := by assumption
  have hc9 : w2.cell? ⟨w.heap.size + 1, 6, none⟩ = some (.slice na' d.nl nc') := by assumption
  clear hBm HS0 HW hB
  go_wp2_with fail
  refine (strsMatch_true pv pv' d.pz m d.pl d.pN _ Hd.out.pl Hd.out.pN (HA.out.p.below HBm.out (Nat.le_refl _)) (HB.out.p.below HBm.out (Nat.le_refl _))).mono ?_
  rintro _ w3 ⟨rfl, rfl⟩
  go_wp2_with fail
  refine (strsMatch_true rv rv' d.rz m d.rl d.rN _ Hd.out.rl Hd.out.rN (HA.out.r.below HBm.out (Nat.le_refl _)) (HB.out.r.below HBm.out (Nat.le_refl _))).mono ?_
  rintro _ w4 ⟨rfl, rfl⟩
  go_wp2_with fail
  refine (bytesMatch_true hv hv' d.hz m d.hl d.hN _ Hd.out.hl (HA.out.h.below HBm.out (Nat.le_refl _)) (HB.out.h.below HBm.out (Nat.le_refl _))).mono ?_
  rintro _ w5 ⟨rfl, rfl⟩
  cases q
  · obtain ⟨rfl, rfl⟩ := HQ'.out rfl
    go_wp2_with fail
    go_loopw [11] (fun i wr => ∃ k n : Nat, k ≤ d.sl ∧ i = .int .i64 k ∧ wr = w5.drewN n) (fun i _ => d.sl - (intOf i).toNat)
    case atStart => exact ⟨0, 0, Nat.zero_le _, rfl, rfl⟩
    case round =>
      obtain ⟨k, n, hk, rfl, rfl⟩ := hrel
      by_cases hlt : k < d.sl
      · have hk1 : (k : Int) < (d.sl : Int) := by omega
        have ea := HSa.out (by omega)
        have ea' := HSa'.out (by omega)
        subst ea ea'
        have hx0 : w5.cell? ⟨sb, so + k * 2, none⟩ = some (.string (hashed m (d.sN k))) := keepC HBm.out ((HSc.out (k * 2) (by omega)).trans (by rw [svcV_0]))
        have hx1 : w5.cell? ⟨sb, so + k * 2 + 1, none⟩ = some (dv k) := by rw [Nat.add_assoc]; exact keepC HBm.out ((HSc.out (k * 2 + 1) (by omega)).trans (by rw [svcV_1]))
        have hy0 : w5.cell? ⟨sb', so' + k * 2, none⟩ = some (.string (d.sN k)) := keepC HBm.out ((HSc'.out (k * 2) (by omega)).trans (by rw [svcV_0]))
        have hy1 : w5.cell? ⟨sb', so' + k * 2 + 1, none⟩ = some (dv' k) := by rw [Nat.add_assoc]; exact keepC HBm.out ((HSc'.out (k * 2 + 1) (by omega)).trans (by rw [svcV_1]))
        have hs := Hd.out.sN k hlt
        cases m
        · simp only [hashed, Bool.false_eq_true, if_false] at hx0
          have hcall : Hid (∀ q, Calls Try.prog 27 #[dv k, dv' k, .bool false] (w5.drewN (n + q)) fun e w'' => e = .returned (.bool true) ∧ ∃ r, w'' = w5.drewN (n + r)) := fun q => by
            refine (strsMatch_true (dv k) (dv' k) (d.dz k) false (d.dl k) (d.dN k) (w5.drewN (n + q)) (Hd.out.dl k hlt) (Hd.out.dN k hlt) ((HA.out.ds k hlt).below (below_drewN HBm.out _) (Nat.le_refl _)) ((HB.out.ds k hlt).below (below_drewN HBm.out _) (Nat.le_refl _))).mono ?_
            rintro _ w' ⟨rfl, rfl⟩
            exact ⟨rfl, q, rfl⟩
          go_wp2_with fail
          go_quiet ((go_at_call 27; exact hcall.out _))
          go_wp2_with fail
          go_roundw
          case rel => exact ⟨k + 1, n + nq, by omega, by go_num, rfl⟩
          case measure => simp [intOf]; omega
        · simp only [hashed, if_true] at hx0
          have hcall : Hid (∀ q, Calls Try.prog 27 #[dv k, dv' k, .bool true] (w5.drewN (n + q)) fun e w'' => e = .returned (.bool true) ∧ ∃ r, w'' = w5.drewN (n + r)) := fun q => by
            refine (strsMatch_true (dv k) (dv' k) (d.dz k) true (d.dl k) (d.dN k) (w5.drewN (n + q)) (Hd.out.dl k hlt) (Hd.out.dN k hlt) ((HA.out.ds k hlt).below (below_drewN HBm.out _) (Nat.le_refl _)) ((HB.out.ds k hlt).below (below_drewN HBm.out _) (Nat.le_refl _))).mono ?_
            rintro _ w' ⟨rfl, rfl⟩
            exact ⟨rfl, q, rfl⟩
          go_wp2_with fail
          go_quiet ((go_at_call 27; exact hcall.out _))
          go_wp2_with fail
          go_roundw
          case rel => exact ⟨k + 1, n + nq, by omega, by go_num, rfl⟩
          case measure => simp [intOf]; omega
      have hk1 : decide ((k : Int) < (d.sl : Int)) = false := decide_eq_false (by omega)
      go_wp2_with fail
      go_loopw [13] (fun i wr => ∃ k n : Nat, k ≤ d.nl ∧ i = .int .i64 k ∧ wr = w5.drewN n) (fun i _ => d.nl - (intOf i).toNat)
      case atStart => exact ⟨0, n, Nat.zero_le _, rfl, rfl⟩
      case round =>
        obtain ⟨k2, n2, hk2, rfl, rfl⟩ := hrel
        by_cases hlt2 : k2 < d.nl
        · have hk3 : (k2 : Int) < (d.nl : Int) := by omega
          have ea := HNa.out (by omega)
          have ea' := HNa'.out (by omega)
          subst ea ea'
          have hx0 : w5.cell? ⟨nb, no + k2 * 2, none⟩ = some (.string (hashed m (d.nA k2))) := keepC HBm.out ((HNc.out (k2 * 2) (by omega)).trans (by rw [nodV_0]))
          have hx1 : w5.cell? ⟨nb, no + k2 * 2 + 1, none⟩ = some (.string (hashed m (d.nB k2))) := by rw [Nat.add_assoc]; exact keepC HBm.out ((HNc.out (k2 * 2 + 1) (by omega)).trans (by rw [nodV_1]))
          have hy0 : w5.cell? ⟨nb', no' + k2 * 2, none⟩ = some (.string (d.nA k2)) := keepC HBm.out ((HNc'.out (k2 * 2) (by omega)).trans (by rw [nodV_0]))
          have hy1 : w5.cell? ⟨nb', no' + k2 * 2 + 1, none⟩ = some (.string (d.nB k2)) := by rw [Nat.add_assoc]; exact keepC HBm.out ((HNc'.out (k2 * 2 + 1) (by omega)).trans (by rw [nodV_1]))
          have hs := Hd.out.nA k2 hlt2
          have hs' := Hd.out.nB k2 hlt2
          cases m
          · simp only [hashed, Bool.false_eq_true, if_false] at hx0 hx1
            go_wp2_with fail
            go_roundw
            case rel => exact ⟨k2 + 1, n2, by omega, by go_num, rfl⟩
            case measure => simp [intOf]; omega
          · simp only [hashed, if_true] at hx0 hx1
            go_wp2_with fail
            go_roundw
            case rel => exact ⟨k2 + 1, n2, by omega, by go_num, rfl⟩
            case measure => simp [intOf]; omega
        have hk3 : decide ((k2 : Int) < (d.nl : Int)) = false := decide_eq_false (by omega)
        go_wp2_with fail
        go_ret
        exact ⟨rfl, below_drewN HBm.out _⟩
  · obtain ⟨rfl, rfl⟩ := HQ.out rfl
    go_wp2_with fail
    go_loopw [11] (fun i wr => ∃ k n : Nat, k ≤ d.sl ∧ i = .int .i64 k ∧ wr = w5.drewN n) (fun i _ => d.sl - (intOf i).toNat)
    case atStart => exact ⟨0, 0, Nat.zero_le _, rfl, rfl⟩
    case round =>
      obtain ⟨k, n, hk, rfl, rfl⟩ := hrel
      by_cases hlt : k < d.sl
      · have hk1 : (k : Int) < (d.sl : Int) := by omega
        have ea := HSa.out (by omega)
        have ea' := HSa'.out (by omega)
        subst ea ea'
        have hx0 : w5.cell? ⟨sb, so + k * 2, none⟩ = some (.string (hashed m (d.sN k))) := keepC HBm.out ((HSc.out (k * 2) (by omega)).trans (by rw [svcV_0]))
        have hx1 : w5.cell? ⟨sb, so + k * 2 + 1, none⟩ = some (dv k) := by rw [Nat.add_assoc]; exact keepC HBm.out ((HSc.out (k * 2 + 1) (by omega)).trans (by rw [svcV_1]))
        have hy0 : w5.cell? ⟨sb', so' + k * 2, none⟩ = some (.string (d.sN k)) := keepC HBm.out ((HSc'.out (k * 2) (by omega)).trans (by rw [svcV_0]))
        have hy1 : w5.cell? ⟨sb', so' + k * 2 + 1, none⟩ = some (dv' k) := by rw [Nat.add_assoc]; exact keepC HBm.out ((HSc'.out (k * 2 + 1) (by omega)).trans (by rw [svcV_1]))
        have hs := Hd.out.sN k hlt
        cases m
        · simp only [hashed, Bool.false_eq_true, if_false] at hx0
          have hcall : Hid (∀ q, Calls Try.prog 27 #[dv k, dv' k, .bool false] (w5.drewN (n + q)) fun e w'' => e = .returned (.bool true) ∧ ∃ r, w'' = w5.drewN (n + r)) := fun q => by
            refine (strsMatch_true (dv k) (dv' k) (d.dz k) false (d.dl k) (d.dN k) (w5.drewN (n + q)) (Hd.out.dl k hlt) (Hd.out.dN k hlt) ((HA.out.ds k hlt).below (below_drewN HBm.out _) (Nat.le_refl _)) ((HB.out.ds k hlt).below (below_drewN HBm.out _) (Nat.le_refl _))).mono ?_
            rintro _ w' ⟨rfl, rfl⟩
            exact ⟨rfl, q, rfl⟩
          go_wp2_with fail
          go_quiet ((go_at_call 27; exact hcall.out _))
          go_wp2_with fail
          go_roundw
          case rel => exact ⟨k + 1, n + nq, by omega, by go_num, rfl⟩
          case measure => simp [intOf]; omega
        · simp only [hashed, if_true] at hx0
          have hcall : Hid (∀ q, Calls Try.prog 27 #[dv k, dv' k, .bool true] (w5.drewN (n + q)) fun e w'' => e = .returned (.bool true) ∧ ∃ r, w'' = w5.drewN (n + r)) := fun q => by
            refine (strsMatch_true (dv k) (dv' k) (d.dz k) true (d.dl k) (d.dN k) (w5.drewN (n + q)) (Hd.out.dl k hlt) (Hd.out.dN k hlt) ((HA.out.ds k hlt).below (below_drewN HBm.out _) (Nat.le_refl _)) ((HB.out.ds k hlt).below (below_drewN HBm.out _) (Nat.le_refl _))).mono ?_
            rintro _ w' ⟨rfl, rfl⟩
            exact ⟨rfl, q, rfl⟩
          go_wp2_with fail
          go_quiet ((go_at_call 27; exact hcall.out _))
          go_wp2_with fail
          go_roundw
          case rel => exact ⟨k + 1, n + nq, by omega, by go_num, rfl⟩
          case measure => simp [intOf]; omega
      have hk1 : decide ((k : Int) < (d.sl : Int)) = false := decide_eq_false (by omega)
      go_wp2_with fail
      go_loopw [13] (fun i wr => ∃ k n : Nat, k ≤ d.nl ∧ i = .int .i64 k ∧ wr = w5.drewN n) (fun i _ => d.nl - (intOf i).toNat)
      case atStart => exact ⟨0, n, Nat.zero_le _, rfl, rfl⟩
      case round =>
        obtain ⟨k2, n2, hk2, rfl, rfl⟩ := hrel
        by_cases hlt2 : k2 < d.nl
        · have hk3 : (k2 : Int) < (d.nl : Int) := by omega
          have ea := HNa.out (by omega)
          have ea' := HNa'.out (by omega)
          subst ea ea'
          have hx0 : w5.cell? ⟨nb, no + k2 * 2, none⟩ = some (.string (hashed m (d.nA k2))) := keepC HBm.out ((HNc.out (k2 * 2) (by omega)).trans (by rw [nodV_0]))
          have hx1 : w5.cell? ⟨nb, no + k2 * 2 + 1, none⟩ = some (.string (hashed m (d.nB k2))) := by rw [Nat.add_assoc]; exact keepC HBm.out ((HNc.out (k2 * 2 + 1) (by omega)).trans (by rw [nodV_1]))
          have hy0 : w5.cell? ⟨nb', no' + k2 * 2, none⟩ = some (.string (d.nA k2)) := keepC HBm.out ((HNc'.out (k2 * 2) (by omega)).trans (by rw [nodV_0]))
          have hy1 : w5.cell? ⟨nb', no' + k2 * 2 + 1, none⟩ = some (.string (d.nB k2)) := by rw [Nat.add_assoc]; exact keepC HBm.out ((HNc'.out (k2 * 2 + 1) (by omega)).trans (by rw [nodV_1]))
          have hs := Hd.out.nA k2 hlt2
          have hs' := Hd.out.nB k2 hlt2
          cases m
          · simp only [hashed, Bool.false_eq_true, if_false] at hx0 hx1
            go_wp2_with fail
            go_roundw
            case rel => exact ⟨k2 + 1, n2, by omega, by go_num, rfl⟩
            case measure => simp [intOf]; omega
          · simp only [hashed, if_true] at hx0 hx1
            go_wp2_with fail
            go_roundw
            case rel => exact ⟨k2 + 1, n2, by omega, by go_num, rfl⟩
            case measure => simp [intOf]; omega
        have hk3 : decide ((k2 : Int) < (d.nl : Int)) = false := decide_eq_false (by omega)
        go_wp2_with fail
        go_ret
        exact ⟨rfl, below_drewN HBm.out _⟩
end Go.Proofs.Qxb6609019a
