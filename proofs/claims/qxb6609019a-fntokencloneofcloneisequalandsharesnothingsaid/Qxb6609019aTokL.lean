import Derived.Test.Qxb6609019aTokI
import Derived.Test.Qxb6609019aTokK
import Derived.Laws.Tables
namespace Go.Proofs.Qxb6609019a
open Go.RowKit

/-- What is nil is empty. -/
structure NilOk (d : TD) : Prop where
  p : d.pz = true → d.pl = 0
  r : d.rz = true → d.rl = 0
  h : d.hz = true → d.hl = 0
  ds : ∀ k, k < d.sl → d.dz k = true → d.dl k = 0

/-- How long the slices may be. -/
structure Ln (d : TD) : Prop where
  pl : d.pl ≤ 1048576
  rl : d.rl ≤ 1048576
  sl : d.sl ≤ 1048576
  dl : ∀ i, i < d.sl → d.dl i ≤ 1048576
  nl : d.nl ≤ 1048576
  hl : d.hl ≤ 1048576
theorem Bd.ln {d : TD} (h : Bd d) : Ln d := ⟨h.pl, h.rl, h.sl, h.dl, h.nl, h.hl⟩

/-- A row stored whole, the world behind it by its blocks alone. -/
theorem wpList_store_abs {P : Program} {ops : Array Oper} {rest : List Oper} {o : Oper} {a : Act} {w : World} {Q : Exit → Act → World → Prop} (hgd : o.guard = none) (ty : TypeId) (x y : Operand) (ho : o.op = .store ty x y)
    (g : Nat) (cells : Array Value) (hx : a.eval x = .pointer (some ⟨g, 0, none⟩)) (hy : a.eval y = .agg cells)
    (t : TypeId) (old : Array Value) (hg : w.heap[g]? = some (.cells old t (0, 0))) (hi : (P.info? ty).map (·.size) = some cells.size)
    (hold : old.size = cells.size) (h1 : cells.all (·.oneCell') = true)
    (h : ∀ w', Below g w w' → w'.heap[g]? = some (.cells cells t (0, 0)) → w'.heap.size = w.heap.size → (∀ k, k ≠ g → w'.heap[k]? = w.heap[k]?) → wpList P ops Q rest (a.put o.dst undef) w') : wpList P ops Q (o :: rest) a w :=
  wpList_store_row hgd ty x y ho g cells hx hy t old hg hi hold h1 (h _ (below_setRow (Below.refl _ _) g _ (Nat.le_refl _)) (setRow_heap w g old _ t _ hg) (size_setRow _ _ _) (fun k hk => setRow_other w g k _ hk))

theorem Try.size45 (cs : Array Value) (h : cs.size = 17) : (Try.prog.info? 45).map (·.size) = some cs.size := by rw [h]; kernel_rfl

theorem tC_size (d : TD) (pv rv sv nv hv : Value) : (tC d pv rv sv nv hv).size = 17 := rfl
theorem tC_one (d : TD) (pv rv sv nv hv : Value) (h1 : pv.oneCell' = true) (h2 : rv.oneCell' = true) (h3 : sv.oneCell' = true) (h4 : nv.oneCell' = true) (h5 : hv.oneCell' = true) : (tC d pv rv sv nv hv).all (·.oneCell') = true := by
  simp [tC, h1, h2, h3, h4, h5]
  simp [Value.oneCell']
theorem Arg.one {w : World} {v : Value} {z : Bool} {l n : Nat} {V : Nat → Value} (h : Arg w v z l n V) : v.oneCell' = true := by
  obtain ⟨a, b, o, c, rfl, _⟩ := h
  simp [Value.oneCell']
theorem Slot.one {w : World} {P : Nat → Prop} {v : Value} {z : Bool} {l n : Nat} {V : Nat → Value} (h : Slot w P v z l n V) : v.oneCell' = true := by
  obtain ⟨a, b, c, rfl, _⟩ := h
  simp [Value.oneCell']

def zT : Array Value := #[.string ⟨#[]⟩, .string ⟨#[]⟩, .string ⟨#[]⟩, .slice none 0 0, .slice none 0 0, .slice none 0 0, .slice none 0 0, .bool false, .int .u64 0, .int .i64 0, .pointer none, .int .u64 0, .int .i64 0, .pointer none, .slice none 0 0, .int .u64 0, .int .u64 0]

/-- The worlds inside Token.clone: n: the result's block, n + 1: the copy's. -/
structure CS (w : World) (T1 : Array Value) (wi : World) : Prop where
  be : Below w.heap.size w wi
  t1 : wi.heap[w.heap.size + 1]? = some (.cells T1 45 (0, 0))
  t0 : wi.heap[w.heap.size]? = some (.cells zT 45 (0, 0))
  sz : w.heap.size + 2 ≤ wi.heap.size

theorem CS.call {w : World} {T1 : Array Value} {wi w2 : World} (h : CS w T1 wi) (hb : Below wi.heap.size wi w2) : CS w T1 w2 :=
  ⟨h.be.trans (hb.mono h.be.size), (hb.block _ (lt_of_block h.t1)).trans h.t1, (hb.block _ (lt_of_block h.t0)).trans h.t0, Nat.le_trans h.sz hb.size⟩
theorem CS.set {w : World} {T1 : Array Value} {wi : World} (h : CS w T1 wi) (k : Nat) (v : Value) : CS w (T1.setIfInBounds k v) (wi.setCell ⟨w.heap.size + 1, k, none⟩ v) :=
  ⟨h.be.setCell (p := ⟨w.heap.size + 1, k, none⟩) (by simp) _, heap_setCell_same _ _ _ _ _ _ h.t1, (setCell_block _ _ _ _ _ (by omega)).trans h.t0, by simp [World.setCell]; exact h.sz⟩
theorem CS.cell {w : World} {T1 : Array Value} {wi : World} (h : CS w T1 wi) (k : Nat) : wi.cell? ⟨w.heap.size + 1, k, none⟩ = T1[k]? := cell_of_row _ _ _ _ _ _ h.t1
theorem CS.frozen {w : World} {T1 : Array Value} {wi : World} (h : CS w T1 wi) (k : Nat) : wi.frozen? ⟨w.heap.size + 1, k, none⟩ = false := frozen_of_row _ _ _ _ _ h.t1
theorem CS.old {w : World} {T1 : Array Value} {wi : World} (h : CS w T1 wi) {tb : Nat} {T0 : Array Value} (hT : w.heap[tb]? = some (.cells T0 45 (0, 0))) (k : Nat) : wi.cell? ⟨tb, k, none⟩ = T0[k]? := by
  rw [cell_of_block (h.be.block tb (lt_of_block hT)), cell_of_row _ _ _ _ _ _ hT]

/-- What lies behind the two blocks stays. -/
structure Pres (w wi wj : World) : Prop where
  size : wi.heap.size ≤ wj.heap.size
  block : ∀ b, w.heap.size + 2 ≤ b → b < wi.heap.size → wj.heap[b]? = wi.heap[b]?
theorem Pres.refl (w wi : World) : Pres w wi wi := ⟨Nat.le_refl _, fun _ _ _ => rfl⟩
theorem Pres.call {w wi wj wk : World} (h : Pres w wi wj) (hb : Below wj.heap.size wj wk) : Pres w wi wk :=
  ⟨Nat.le_trans h.size hb.size, fun b h1 h2 => (hb.block b (Nat.lt_of_lt_of_le h2 h.size)).trans (h.block b h1 h2)⟩
theorem Pres.set {w wi wj : World} (h : Pres w wi wj) (g k : Nat) (v : Value) (hg : g < w.heap.size + 2) : Pres w wi (wj.setCell ⟨g, k, none⟩ v) :=
  ⟨by simp [World.setCell]; exact h.size, fun b h1 h2 => (setCell_block _ _ _ _ _ (by omega)).trans (h.block b h1 h2)⟩
theorem Pres.of {w wi wj wk : World} (h : Pres w wi wj) (hs : wk.heap.size = wj.heap.size) (hb : ∀ k, k ≠ w.heap.size → wk.heap[k]? = wj.heap[k]?) : Pres w wi wk :=
  ⟨by rw [hs]; exact h.size, fun b h1 h2 => (hb b (by omega)).trans (h.block b h1 h2)⟩

set_option maxHeartbeats 2000000 in
set_option maxRecDepth 100000 in
theorem clone_any (d : TD) (sz nz : Bool) (pv rv sv nv hv : Value) (dv : Nat → Value) (tb : Nat) (w : World) (hd : Ln d) (hN : NilOk d)
    (hT : w.heap[tb]? = some (.cells (tC d pv rv sv nv hv) 45 (0, 0))) (hA : TArg w false d sz nz pv rv sv nv hv dv) :
    Calls Try.prog 26 #[.pointer (some ⟨tb, 0, none⟩)] w fun e w' => ∃ (pv' rv' sv' nv' hv' : Value) (dv' : Nat → Value) (tg : Nat → Nat), e = .returned (.agg (tC d pv' rv' sv' nv' hv')) ∧ Below w.heap.size w w' ∧
      TSlot w' (fun j b => w.heap.size ≤ b ∧ b < w'.heap.size ∧ tg b = j) d false false pv' rv' sv' nv' hv' dv' := by
  have Hd : Hid (Ln d) := hd
  have HN : Hid (NilOk d) := hN
  have HA : Hid (TArg w false d sz nz pv rv sv nv hv dv) := hA
  have HT : Hid (w.heap[tb]? = some (.cells (tC d pv rv sv nv hv) 45 (0, 0))) := hT
  have htl := lt_of_block hT
  clear hd hN hA hT
  go_enter Try.func26, Try.ntmps26
  go_wp2_with (first | (refine wpList_load_row rfl 45 (.tmp 5) rfl tb rfl 45 (tC d pv rv sv nv hv) (0, 0) _ ((Below.heap_alloc w _ tb htl).trans HT.out) Try.underlying45 rfl (Try.size45 _ rfl) ?_) | (refine wpList_store_abs (by rfl) 45 (.tmp 3) (.tmp 6) (by rfl) (w.heap.size + 1) (tC d pv rv sv nv hv) (by rfl) (by rfl) 45 ?old ?hg (Try.size45 _ rfl) ?hold (tC_one _ _ _ _ _ _ HA.out.p.one HA.out.r.one HA.out.s.one HA.out.n.one HA.out.h.one) ?next))
  case hg => exact (by simpa using Go.Deep.blk_alloc_new (w.alloc (.cells zT 45)) (.cells zT 45) : ((w.alloc (.cells zT 45)).alloc (.cells zT 45)).heap[w.heap.size + 1]? = some (.cells zT 45 (0, 0)))
  case hold => rfl
  case next =>
    intro w1 hB1 hb1 hs1 ho1
    have hC1 : CS w (tC d pv rv sv nv hv) w1 := ⟨(((Below.refl _ _).alloc (Nat.le_refl _) _).alloc (by simp) _).trans (hB1.mono (by omega)), hb1, (ho1 _ (by omega)).trans ((Below.heap_alloc (w.alloc _) _ _ (by simp)).trans (Go.Deep.blk_alloc_new _ _)), by omega⟩
    have c3 : w1.cell? ⟨tb, 3, none⟩ = some pv := (hC1.old HT.out 3).trans rfl
    have HC1 : Hid (CS w (tC d pv rv sv nv hv) w1) := hC1
    clear hB1 hb1 ho1 hC1
    go_wp2_with fail
    refine (cloneStrs_any pv d.pz d.pl d.pN _ Hd.out.pl (HA.out.p.below HC1.out.be (Nat.le_refl _)) HN.out.p).mono ?_
    rintro _ w2 ⟨PV0, rfl, hS1, hB2⟩
    have hS1c := hS1
    obtain ⟨xa1, _, xc1, rfl, _⟩ := hS1c
    have HC2 : Hid (CS w (tC d pv rv sv nv hv) w2) := HC1.out.call hB2
    have HW12 : Hid (w1.heap.size ≤ w2.heap.size) := hB2.size
    have HC2' : Hid (CS w (tC d (.slice xa1 d.pl xc1) rv sv nv hv) (w2.setCell ⟨w.heap.size + 1, 3, none⟩ (.slice xa1 d.pl xc1))) := HC2.out.set 3 (.slice xa1 d.pl xc1)
    have HS1 : Hid (Slot w2 (fun b => w1.heap.size ≤ b) (.slice xa1 d.pl xc1) d.pz d.pl d.pl (fun i => .string (d.pN i))) := hS1
    have o1 := hS1.one
    have c3' : w2.cell? ⟨w.heap.size + 1, 3, none⟩ = some pv := (HC2.out.cell 3).trans rfl
    have f3 := HC2.out.frozen 3
    have c4 : (w2.setCell ⟨w.heap.size + 1, 3, none⟩ (.slice xa1 d.pl xc1)).cell? ⟨tb, 4, none⟩ = some rv := (HC2'.out.old HT.out 4).trans rfl
    clear c3 hS1 hB2
    go_wp2_with fail
    refine (cloneStrs_any rv d.rz d.rl d.rN _ Hd.out.rl (HA.out.r.below HC2'.out.be (Nat.le_refl _)) HN.out.r).mono ?_
    rintro _ w3 ⟨PV0, rfl, hS2, hB3⟩
    have hS2c := hS2
    obtain ⟨xa2, _, xc2, rfl, _⟩ := hS2c
    have HP3 : Hid (Pres w w2 w3) := ((Pres.refl w w2).set _ 3 (.slice xa1 d.pl xc1) (by omega)).call hB3
    have HC3 : Hid (CS w (tC d (.slice xa1 d.pl xc1) rv sv nv hv) w3) := HC2'.out.call hB3
    have HC3' : Hid (CS w (tC d (.slice xa1 d.pl xc1) (.slice xa2 d.rl xc2) sv nv hv) (w3.setCell ⟨w.heap.size + 1, 4, none⟩ (.slice xa2 d.rl xc2))) := HC3.out.set 4 (.slice xa2 d.rl xc2)
    have HS2 : Hid (Slot w3 (fun b => w2.heap.size ≤ b) (.slice xa2 d.rl xc2) d.rz d.rl d.rl (fun i => .string (d.rN i))) := hS2.mono fun b _ hb => ⟨by simpa [World.setCell] using hb, rfl⟩
    have o2 := hS2.one
    have c4' : w3.cell? ⟨w.heap.size + 1, 4, none⟩ = some rv := (HC3.out.cell 4).trans rfl
    have f4 := HC3.out.frozen 4
    have c5 : (w3.setCell ⟨w.heap.size + 1, 4, none⟩ (.slice xa2 d.rl xc2)).cell? ⟨tb, 5, none⟩ = some sv := (HC3'.out.old HT.out 5).trans rfl
    have c6 : (w3.setCell ⟨w.heap.size + 1, 4, none⟩ (.slice xa2 d.rl xc2)).cell? ⟨tb, 6, none⟩ = some nv := (HC3'.out.old HT.out 6).trans rfl
    clear c3' f3 c4 hS2 hB3
    go_wp2_with fail
    refine (ids_clone d.sl d.nl sz nz d.sN d.nA d.nB d.dz d.dl d.dN dv sv nv _ Hd.out.sl Hd.out.nl Hd.out.dl HN.out.ds (HA.out.s.below HC3'.out.be (Nat.le_refl _)) (HA.out.n.below HC3'.out.be (Nat.le_refl _)) (fun k hk => (HA.out.ds k hk).below HC3'.out.be (Nat.le_refl _))).mono ?_
    rintro _ w4 ⟨PV0, PV1, dv', tg, rfl, hB4, hS3, hS4, hS5⟩
    have hS3c := hS3
    obtain ⟨xa3, _, xc3, rfl, _⟩ := hS3c
    have hS4c := hS4
    obtain ⟨xa4, _, xc4, rfl, _⟩ := hS4c
    have HP4 : Hid (Pres w w3 w4) := ((Pres.refl w w3).set _ 4 (.slice xa2 d.rl xc2) (by omega)).call hB4
    have HC4 : Hid (CS w (tC d (.slice xa1 d.pl xc1) (.slice xa2 d.rl xc2) sv nv hv) w4) := HC3'.out.call hB4
    have HC4' : Hid (CS w (tC d (.slice xa1 d.pl xc1) (.slice xa2 d.rl xc2) (.slice xa3 d.sl xc3) (.slice xa4 d.nl xc4) hv) ((w4.setCell ⟨w.heap.size + 1, 5, none⟩ (.slice xa3 d.sl xc3)).setCell ⟨w.heap.size + 1, 6, none⟩ (.slice xa4 d.nl xc4))) := (HC4.out.set 5 (.slice xa3 d.sl xc3)).set 6 (.slice xa4 d.nl xc4)
    have hsz3 : (w3.setCell ⟨w.heap.size + 1, 4, none⟩ (.slice xa2 d.rl xc2)).heap.size = w3.heap.size := by simp [World.setCell]
    rw [hsz3] at hS3 hS4 hS5
    have HS3 : Hid (Slot w4 (fun b => w3.heap.size ≤ b ∧ tg b = 3) (.slice xa3 d.sl xc3) false d.sl (d.sl * 2) (svcV d.sN dv')) := hS3
    have HS4 : Hid (Slot w4 (fun b => w3.heap.size ≤ b ∧ tg b = 4) (.slice xa4 d.nl xc4) false d.nl (d.nl * 2) (nodV d.nA d.nB)) := hS4
    have HS5 : Hid (∀ q, q < d.sl → Slot w4 (fun b => w3.heap.size ≤ b ∧ tg b = 5 + q) (dv' q) (d.dz q) (d.dl q) (d.dl q) (fun i => .string (d.dN q i))) := hS5
    have o3 := hS3.one
    have o4 := hS4.one
    have c5' : w4.cell? ⟨w.heap.size + 1, 5, none⟩ = some sv := (HC4.out.cell 5).trans rfl
    have c6' : w4.cell? ⟨w.heap.size + 1, 6, none⟩ = some nv := (HC4.out.cell 6).trans rfl
    have f5 := HC4.out.frozen 5
    have f6 := HC4.out.frozen 6
    have c14 : ((w4.setCell ⟨w.heap.size + 1, 5, none⟩ (.slice xa3 d.sl xc3)).setCell ⟨w.heap.size + 1, 6, none⟩ (.slice xa4 d.nl xc4)).cell? ⟨tb, 14, none⟩ = some hv := (HC4'.out.old HT.out 14).trans rfl
    clear c4' f4 c5 c6 hS3 hS4 hS5 hB4
    go_wp2_with fail
    refine (cloneBytes_any hv d.hz d.hl d.hN _ Hd.out.hl (HA.out.h.below HC4'.out.be (Nat.le_refl _)) HN.out.h).mono ?_
    rintro _ w5 ⟨PV0, rfl, hS6, hB5⟩
    have hS6c := hS6
    obtain ⟨xa5, _, xc5, rfl, _⟩ := hS6c
    have HP5 : Hid (Pres w w4 w5) := (((Pres.refl w w4).set _ 5 (.slice xa3 d.sl xc3) (by omega)).set _ 6 (.slice xa4 d.nl xc4) (by omega)).call hB5
    have HC5 : Hid (CS w (tC d (.slice xa1 d.pl xc1) (.slice xa2 d.rl xc2) (.slice xa3 d.sl xc3) (.slice xa4 d.nl xc4) hv) w5) := HC4'.out.call hB5
    have HC5' : Hid (CS w (tC d (.slice xa1 d.pl xc1) (.slice xa2 d.rl xc2) (.slice xa3 d.sl xc3) (.slice xa4 d.nl xc4) (.slice xa5 d.hl xc5)) (w5.setCell ⟨w.heap.size + 1, 14, none⟩ (.slice xa5 d.hl xc5))) := HC5.out.set 14 (.slice xa5 d.hl xc5)
    have HS6 : Hid (Slot w5 (fun b => w4.heap.size ≤ b) (.slice xa5 d.hl xc5) d.hz d.hl d.hl (fun i => .int .u8 (d.hN i))) := hS6.mono fun b _ hb => ⟨by simpa [World.setCell] using hb, rfl⟩
    have o5 := hS6.one
    have c14' : w5.cell? ⟨w.heap.size + 1, 14, none⟩ = some hv := (HC5.out.cell 14).trans rfl
    have f14 := HC5.out.frozen 14
    clear c5' c6' f5 f6 c14 hS6 hB5
    go_wp2_with (first | (refine wpList_load_row rfl 45 (.tmp 3) rfl (w.heap.size + 1) rfl 45 (tC d (.slice xa1 d.pl xc1) (.slice xa2 d.rl xc2) (.slice xa3 d.sl xc3) (.slice xa4 d.nl xc4) (.slice xa5 d.hl xc5)) (0, 0) _ HC5'.out.t1 Try.underlying45 rfl (Try.size45 _ rfl) ?_) | (refine wpList_store_abs (by rfl) 45 (.tmp 2) (.tmp 31) (by rfl) w.heap.size (tC d (.slice xa1 d.pl xc1) (.slice xa2 d.rl xc2) (.slice xa3 d.sl xc3) (.slice xa4 d.nl xc4) (.slice xa5 d.hl xc5)) (by rfl) (by rfl) 45 zT HC5'.out.t0 (Try.size45 _ rfl) rfl (tC_one _ _ _ _ _ _ o1 o2 o3 o4 o5) ?next2))
    intro w6 hB6 hb6 hs6 ho6
    have HB6 : Hid (Below w.heap.size w w6) := HC5'.out.be.trans hB6
    have HP6 : Hid (Pres w w5 w6) := ((Pres.refl w w5).set _ 14 (.slice xa5 d.hl xc5) (by omega)).of (by rw [hs6]; simp [World.setCell]) ho6
    clear hB6 ho6 c14' f14
    go_wp2_with fail
    refine bodyPost_ret (v := .agg (tC d (.slice xa1 d.pl xc1) (.slice xa2 d.rl xc2) (.slice xa3 d.sl xc3) (.slice xa4 d.nl xc4) (.slice xa5 d.hl xc5))) (results_cell_row Try.results26 _ _ w.heap.size 45 (tC d (.slice xa1 d.pl xc1) (.slice xa2 d.rl xc2) (.slice xa3 d.sl xc3) (.slice xa4 d.nl xc4) (.slice xa5 d.hl xc5)) (0, 0) _ rfl hb6 Try.underlying45 rfl (Try.size45 _ rfl)) rfl ?_
    have z1 := HC1.out.sz
    have z2 : w1.heap.size ≤ w2.heap.size := HW12.out
    have z3 := HP3.out.size
    have z4 := HP4.out.size
    have z5 := HP5.out.size
    have z6 := HP6.out.size
    refine ⟨_, _, _, _, _, dv', fun b => if b < w2.heap.size then 0 else if b < w3.heap.size then 1 else if b < w4.heap.size then tg b else 2, rfl, HB6.out, ?_⟩
    have k5 : ∀ b, w.heap.size + 2 ≤ b → b < w5.heap.size → w6.heap[b]? = w5.heap[b]? := fun b h1 h2 => HP6.out.block b h1 h2
    have k4 : ∀ b, w.heap.size + 2 ≤ b → b < w4.heap.size → w6.heap[b]? = w4.heap[b]? := fun b h1 h2 => (k5 b h1 (by omega)).trans (HP5.out.block b h1 h2)
    have k3 : ∀ b, w.heap.size + 2 ≤ b → b < w3.heap.size → w6.heap[b]? = w3.heap[b]? := fun b h1 h2 => (k4 b h1 (by omega)).trans (HP4.out.block b h1 h2)
    have k2 : ∀ b, w.heap.size + 2 ≤ b → b < w2.heap.size → w6.heap[b]? = w2.heap[b]? := fun b h1 h2 => (k3 b h1 (by omega)).trans (HP3.out.block b h1 h2)
    refine ⟨HS1.out.mono fun b h1 h2 => ⟨⟨by omega, by omega, if_pos h1⟩, k2 b (by omega) h1⟩, HS2.out.mono fun b h1 h2 => ⟨⟨by omega, by omega, (if_neg (by omega)).trans (if_pos h1)⟩, k3 b (by omega) h1⟩,
      HS6.out.mono fun b h1 h2 => ⟨⟨by omega, by omega, (if_neg (by omega)).trans ((if_neg (by omega)).trans (if_neg (by omega)))⟩, k5 b (by omega) h1⟩,
      HS3.out.mono fun b h1 h2 => ⟨⟨by omega, by omega, (if_neg (by omega)).trans ((if_neg (by omega)).trans ((if_pos h1).trans h2.2))⟩, k4 b (by omega) h1⟩,
      HS4.out.mono fun b h1 h2 => ⟨⟨by omega, by omega, (if_neg (by omega)).trans ((if_neg (by omega)).trans ((if_pos h1).trans h2.2))⟩, k4 b (by omega) h1⟩,
      fun q hq => (HS5.out q hq).mono fun b h1 h2 => ⟨⟨by omega, by omega, (if_neg (by omega)).trans ((if_neg (by omega)).trans ((if_pos h1).trans h2.2))⟩, k4 b (by omega) h1⟩⟩
end Go.Proofs.Qxb6609019a
