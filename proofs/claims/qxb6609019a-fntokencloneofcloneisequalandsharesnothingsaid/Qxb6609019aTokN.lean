import Derived.Test.Qxb6609019aTokM
import Derived.Deep.RegionHeld3
import Derived.Deep.CutRange
namespace Go.Proofs.Qxb6609019a
open Go.RowKit

theorem Try.info61' : (Try.prog.info? 61).map (fun i => (i.zero, i.size, i.bytes)) = some (some (.agg #[.string ByteArray.empty, .slice none 0 0]), 2, 40) := Try.info61

/-- The token while it is built: at tb; its slices by tags. -/
structure BT (W wx : World) (B : Nat) (d : TD) (tb : Nat) (tg : Nat → Nat) (pv rv sv nv hv : Value) : Prop where
  be : Below B W wx
  tok : wx.heap[tb]? = some (.cells (tC d pv rv sv nv hv) 45 (0, 0))
  ge : B ≤ tb
  p : Slot wx (fun b => B ≤ b ∧ b ≠ tb ∧ tg b = 0) pv d.pz d.pl d.pl (fun i => .string (d.pN i))
  r : Slot wx (fun b => B ≤ b ∧ b ≠ tb ∧ tg b = 1) rv d.rz d.rl d.rl (fun i => .string (d.rN i))
  h : Slot wx (fun b => B ≤ b ∧ b ≠ tb ∧ tg b = 2) hv d.hz d.hl d.hl (fun i => .int .u8 (d.hN i))


theorem run_make_rowS {P : Program} (t e : TypeId) (z : Value) (s bytes : Nat) (ht : P.underlying t = some (.slice e)) (hinfo : (P.info? e).map (fun i => (i.zero, i.size, i.bytes)) = some (some z, s, bytes))
    (kl kc : IntKind) (n : Nat) (hbytes : bytes * n ≤ 281474976710656) (h63 : n ≤ 9223372036854775807) (w : World) :
    (Instr.makeSlice t (.int kl (n : Int)) (.int kc (n : Int))).run P w = .ok (.slice (some ⟨w.heap.size, 0, none⟩) n n) (w.alloc (.cells (madeCells z.cells (n * s)) e)) := by
  obtain ⟨i, hi, hzz⟩ := Option.map_eq_some_iff.1 hinfo
  simp only [Prod.mk.injEq] at hzz
  obtain ⟨hz, hs, hb⟩ := hzz
  subst hs hb
  have hb' : (i.bytes : Int) * (n : Int) ≤ 281474976710656 := by
    have h : ((i.bytes * n : Nat) : Int) ≤ 281474976710656 := by omega
    rwa [Int.natCast_mul] at h
  have hr := run_make (P := P) w t e i z ht hi hz kl kc n n (by omega) (Int.le_refl _) hb' (by omega)
  simpa only [Int.toNat_natCast] using hr

theorem BT.grow {W w w' : World} {B : Nat} {d : TD} {tb : Nat} {tg tg' : Nat → Nat} {pv rv sv nv hv : Value} (h : BT W w B d tb tg pv rv sv nv hv) (hb : Below w.heap.size w w') (hB : B ≤ w.heap.size) (ht : ∀ b, b < w.heap.size → tg' b = tg b) : BT W w' B d tb tg' pv rv sv nv hv :=
  ⟨h.be.trans (hb.mono hB), (hb.block _ (lt_of_block h.tok)).trans h.tok, h.ge, h.p.mono fun b h1 h2 => ⟨⟨h2.1, h2.2.1, by rw [ht b h1]; exact h2.2.2⟩, hb.block b h1⟩, h.r.mono fun b h1 h2 => ⟨⟨h2.1, h2.2.1, by rw [ht b h1]; exact h2.2.2⟩, hb.block b h1⟩, h.h.mono fun b h1 h2 => ⟨⟨h2.1, h2.2.1, by rw [ht b h1]; exact h2.2.2⟩, hb.block b h1⟩⟩


/-- The token, its services done. -/
structure BS (W wx : World) (B : Nat) (d : TD) (tb : Nat) (tg : Nat → Nat) (pv rv sv nv hv : Value) (dv : Nat → Value) : Prop where
  bt : BT W wx B d tb tg pv rv sv nv hv
  s : Slot wx (fun b => B ≤ b ∧ b ≠ tb ∧ tg b = 3) sv d.sz d.sl (d.sl * 2) (svcV d.sN dv)
  ds : ∀ k, k < d.sl → Slot wx (fun b => B ≤ b ∧ b ≠ tb ∧ tg b = 5 + k) (dv k) (d.dz k) (d.dl k) (d.dl k) (fun i => .string (d.dN k i))

/-- The token, k services copied into the row at g. -/
structure BK (W wx : World) (B : Nat) (d : TD) (tb g k : Nat) (pv rv hv : Value) : Prop where
  ex : ∃ (tg : Nat → Nat) (dv : Nat → Value) (cur : Array Value), BT W wx B d tb tg pv rv (.slice none 0 0) (.slice none 0 0) hv ∧ wx.heap[g]? = some (.cells cur 61 (0, 0)) ∧ cur.size = d.sl * 2 ∧ (∀ j, j < k * 2 → cur[j]? = some (svcV d.sN dv j)) ∧
    tg g = 3 ∧ B ≤ g ∧ g ≠ tb ∧ ∀ q, q < k → Slot wx (fun b => B ≤ b ∧ b ≠ tb ∧ tg b = 5 + q) (dv q) (d.dz q) (d.dl q) (d.dl q) (fun i => .string (d.dN q i))


theorem cell_two {w : World} {g i j : Nat} {x y : Value} {b o : Nat} {v : Value} (h : w.cell? ⟨b, o, none⟩ = some v) (hne : b ≠ g) : ((w.setCell ⟨g, i, none⟩ x).setCell ⟨g, j, none⟩ y).cell? ⟨b, o, none⟩ = some v := by
  rw [cell_of_block (setCell_block _ g j y b hne), cell_of_block (setCell_block _ g i x b hne)]
  exact h
theorem below_two {B : Nat} {W w : World} (h : Below B W w) (g i j : Nat) (x y : Value) (hg : B ≤ g) : Below B W ((w.setCell ⟨g, i, none⟩ x).setCell ⟨g, j, none⟩ y) :=
  (h.setCell (p := ⟨g, i, none⟩) hg _).setCell (p := ⟨g, j, none⟩) hg _

theorem BT.move {W w w' : World} {B : Nat} {d : TD} {tb : Nat} {tg tg' : Nat → Nat} {pv rv sv nv hv sv' nv' : Value} (h : BT W w B d tb tg pv rv sv nv hv) (be : Below B W w') (htok : w'.heap[tb]? = some (.cells (tC d pv rv sv' nv' hv) 45 (0, 0)))
    (hb : ∀ b, b < w.heap.size → b ≠ tb → tg b ≤ 2 → tg' b = tg b ∧ w'.heap[b]? = w.heap[b]?) : BT W w' B d tb tg' pv rv sv' nv' hv :=
  ⟨be, htok, h.ge, h.p.mono fun b h1 h2 => ⟨⟨h2.1, h2.2.1, by rw [(hb b h1 h2.2.1 (by omega)).1]; exact h2.2.2⟩, (hb b h1 h2.2.1 (by omega)).2⟩, h.r.mono fun b h1 h2 => ⟨⟨h2.1, h2.2.1, by rw [(hb b h1 h2.2.1 (by omega)).1]; exact h2.2.2⟩, (hb b h1 h2.2.1 (by omega)).2⟩, h.h.mono fun b h1 h2 => ⟨⟨h2.1, h2.2.1, by rw [(hb b h1 h2.2.1 (by omega)).1]; exact h2.2.2⟩, (hb b h1 h2.2.1 (by omega)).2⟩⟩

theorem BS.move {W w w' : World} {B : Nat} {d : TD} {tb : Nat} {tg tg' : Nat → Nat} {pv rv sv nv hv nv' : Value} {dv : Nat → Value} (h : BS W w B d tb tg pv rv sv nv hv dv) (be : Below B W w') (htok : w'.heap[tb]? = some (.cells (tC d pv rv sv nv' hv) 45 (0, 0)))
    (hb : ∀ b, b < w.heap.size → b ≠ tb → tg b ≠ 4 → tg' b = tg b ∧ w'.heap[b]? = w.heap[b]?) : BS W w' B d tb tg' pv rv sv nv' hv dv :=
  ⟨h.bt.move be htok fun b h1 h2 h3 => hb b h1 h2 (by omega), h.s.mono fun b h1 h2 => ⟨⟨h2.1, h2.2.1, by rw [(hb b h1 h2.2.1 (by omega)).1]; exact h2.2.2⟩, (hb b h1 h2.2.1 (by omega)).2⟩, fun k hk => (h.ds k hk).mono fun b h1 h2 => ⟨⟨h2.1, h2.2.1, by rw [(hb b h1 h2.2.1 (by omega)).1]; exact h2.2.2⟩, (hb b h1 h2.2.1 (by omega)).2⟩⟩

theorem two_row (cur : Array Value) (k n : Nat) (V V' : Nat → Value) (x y : Value) (hcz : cur.size = n * 2) (hk : k < n) (hcc : ∀ j, j < k * 2 → cur[j]? = some (V j)) (h0 : V' (k * 2) = x) (h1 : V' (k * 2 + 1) = y) (hV : ∀ j, j < k * 2 → V' j = V j) :
    ∀ j, j < (k + 1) * 2 → ((cur.setIfInBounds (k * 2) x).setIfInBounds (k * 2 + 1) y)[j]? = some (V' j) := by
  intro j hj
  by_cases e1 : j = k * 2 + 1
  · subst e1
    rw [Array.getElem?_setIfInBounds, if_pos rfl, if_pos (by simp; omega), h1]
  · rw [Array.getElem?_setIfInBounds, if_neg (by omega)]
    by_cases e0 : j = k * 2
    · subst e0
      rw [Array.getElem?_setIfInBounds, if_pos rfl, if_pos (by omega), h0]
    · rw [Array.getElem?_setIfInBounds, if_neg (by omega), hcc j (by omega), hV j (by omega)]

theorem BK.step {W wr w2 : World} {B : Nat} {d : TD} {tb g k : Nat} {tg : Nat → Nat} {dv : Nat → Value} {cur : Array Value} {pv rv hv xv : Value} (hbt : BT W wr B d tb tg pv rv (.slice none 0 0) (.slice none 0 0) hv) (hg : wr.heap[g]? = some (.cells cur 61 (0, 0))) (hcz : cur.size = d.sl * 2) (hcc : ∀ j, j < k * 2 → cur[j]? = some (svcV d.sN dv j))
    (htg : tg g = 3) (hBg : B ≤ g) (hgt : g ≠ tb) (hds : ∀ q, q < k → Slot wr (fun b => B ≤ b ∧ b ≠ tb ∧ tg b = 5 + q) (dv q) (d.dz q) (d.dl q) (d.dl q) (fun i => .string (d.dN q i)))
    (hBs : B ≤ wr.heap.size) (hB2 : Below wr.heap.size wr w2) (hX : Slot w2 (fun b => wr.heap.size ≤ b) xv (d.dz k) (d.dl k) (d.dl k) (fun i => .string (d.dN k i))) (hk : k < d.sl) :
    BK W ((w2.setCell ⟨g, k * 2, none⟩ (.string (d.sN k))).setCell ⟨g, k * 2 + 1, none⟩ xv) B d tb g (k + 1) pv rv hv := by
  have hgl := lt_of_block hg
  have htl := lt_of_block hbt.tok
  have hsz := hB2.size
  have hw : ∀ b, b ≠ g → ((w2.setCell ⟨g, k * 2, none⟩ (.string (d.sN k))).setCell ⟨g, k * 2 + 1, none⟩ xv).heap[b]? = w2.heap[b]? := fun b hb => (setCell_block _ g _ _ b hb).trans (setCell_block _ g _ _ b hb)
  have hg2 : w2.heap[g]? = some (.cells cur 61 (0, 0)) := (hB2.block _ hgl).trans hg
  refine ⟨fun b => if b < wr.heap.size then tg b else 5 + k, fun q => if q = k then xv else dv q, _, hbt.move (below_two (hbt.be.trans (hB2.mono hBs)) g _ _ _ _ hBg) ((hw tb (by omega)).trans ((hB2.block _ htl).trans hbt.tok)) (fun b h1 h2 h3 => ⟨if_pos h1, (hw b (by intro e; subst e; omega)).trans (hB2.block b h1)⟩), heap_setCell_same _ _ _ _ _ _ (heap_setCell_same _ _ _ _ _ _ hg2), by simp; exact hcz, two_row cur k d.sl _ _ _ _ hcz hk hcc (svcV_0 _ _ _) ?_ ?_, (if_pos hgl).trans htg, hBg, hgt, fun q hq => ?_⟩
  · rw [svcV_1, if_pos rfl]
  · intro j hj
    unfold svcV
    dsimp only
    rw [if_neg (show ¬ (j / 2 = k) by omega)]
  · by_cases e : q = k
    · subst e
      show Slot _ _ (if q = q then xv else dv q) _ _ _ _
      rw [if_pos rfl]
      exact hX.mono fun b h1 h2 => ⟨⟨by omega, by omega, if_neg (by omega)⟩, hw b (by omega)⟩
    · show Slot _ _ (if q = k then xv else dv q) _ _ _ _
      rw [if_neg e]
      exact (hds q (by omega)).mono fun b h1 h2 => ⟨⟨h2.1, h2.2.1, (if_pos h1).trans h2.2.2⟩, (hw b (by intro e; subst e; omega)).trans (hB2.block b h1)⟩

theorem BK.done {W wr : World} {B : Nat} {d : TD} {tb g : Nat} {pv rv hv : Value} (h : BK W wr B d tb g d.sl pv rv hv) (hz : d.sz = false) :
    ∃ (tg : Nat → Nat) (dv : Nat → Value), BS W (wr.setCell ⟨tb, 5, none⟩ (.slice (some ⟨g, 0, none⟩) d.sl d.sl)) B d tb tg pv rv (.slice (some ⟨g, 0, none⟩) d.sl d.sl) (.slice none 0 0) hv dv := by
  obtain ⟨tg, dv, cur, hbt, hg, hcz, hcc, htg, hBg, hgt, hds⟩ := h.ex
  have hw : ∀ b, b ≠ tb → (wr.setCell ⟨tb, 5, none⟩ (.slice (some ⟨g, 0, none⟩) d.sl d.sl)).heap[b]? = wr.heap[b]? := fun b hb => setCell_block _ tb _ _ b hb
  refine ⟨tg, dv, hbt.move (hbt.be.setCell (p := ⟨tb, 5, none⟩) hbt.ge _) (heap_setCell_same _ _ _ _ _ _ hbt.tok) (fun b h1 h2 h3 => ⟨rfl, hw b h2⟩), ⟨_, g, _, rfl, by rw [hz]; rfl, fun _ => ⟨rfl, ⟨hBg, hgt, htg⟩, cur, 61, (hw g hgt).trans hg, by omega, hcc⟩⟩, fun k hk => (hds k hk).mono fun b h1 h2 => ⟨h2, hw b h2.2.1⟩⟩

/-- The token, its services done, k nodes copied into the row at g. -/
structure BN (W wx : World) (B : Nat) (d : TD) (tb g k : Nat) (pv rv sv hv : Value) : Prop where
  ex : ∃ (tg : Nat → Nat) (dv : Nat → Value) (cur : Array Value), BS W wx B d tb tg pv rv sv (.slice none 0 0) hv dv ∧ wx.heap[g]? = some (.cells cur 62 (0, 0)) ∧ cur.size = d.nl * 2 ∧ (∀ j, j < k * 2 → cur[j]? = some (nodV d.nA d.nB j)) ∧
    tg g = 4 ∧ B ≤ g ∧ g ≠ tb

theorem BN.step {W wr : World} {B : Nat} {d : TD} {tb g k : Nat} {tg : Nat → Nat} {dv : Nat → Value} {cur : Array Value} {pv rv sv hv : Value} (hbs : BS W wr B d tb tg pv rv sv (.slice none 0 0) hv dv) (hg : wr.heap[g]? = some (.cells cur 62 (0, 0))) (hcz : cur.size = d.nl * 2) (hcc : ∀ j, j < k * 2 → cur[j]? = some (nodV d.nA d.nB j))
    (htg : tg g = 4) (hBg : B ≤ g) (hgt : g ≠ tb) (hk : k < d.nl) :
    BN W ((wr.drew.setCell ⟨g, k * 2, none⟩ (.string (d.nA k))).setCell ⟨g, k * 2 + 1, none⟩ (.string (d.nB k))) B d tb g (k + 1) pv rv sv hv := by
  have hw : ∀ b, b ≠ g → ((wr.drew.setCell ⟨g, k * 2, none⟩ (.string (d.nA k))).setCell ⟨g, k * 2 + 1, none⟩ (.string (d.nB k))).heap[b]? = wr.heap[b]? := fun b hb => (setCell_block _ g _ _ b hb).trans (setCell_block _ g _ _ b hb)
  refine ⟨tg, dv, _, hbs.move (below_two hbs.bt.be.drew g _ _ _ _ hBg) ((hw tb (by omega)).trans hbs.bt.tok) (fun b h1 h2 h3 => ⟨rfl, hw b (by intro e; subst e; omega)⟩), heap_setCell_same _ _ _ _ _ _ (heap_setCell_same _ _ _ _ _ _ hg), by simp; exact hcz, two_row cur k d.nl _ _ _ _ hcz hk hcc (nodV_0 _ _ _) (nodV_1 _ _ _) (fun _ _ => rfl), htg, hBg, hgt⟩

/-- The token whole. -/
structure BF (W wx : World) (B : Nat) (d : TD) (tb : Nat) (tg : Nat → Nat) (pv rv sv nv hv : Value) (dv : Nat → Value) : Prop where
  bs : BS W wx B d tb tg pv rv sv nv hv dv
  n : Slot wx (fun b => B ≤ b ∧ b ≠ tb ∧ tg b = 4) nv d.nz d.nl (d.nl * 2) (nodV d.nA d.nB)

theorem BN.done {W wr : World} {B : Nat} {d : TD} {tb g : Nat} {pv rv sv hv : Value} (h : BN W wr B d tb g d.nl pv rv sv hv) (hz : d.nz = false) :
    ∃ (tg : Nat → Nat) (dv : Nat → Value), BF W (wr.setCell ⟨tb, 6, none⟩ (.slice (some ⟨g, 0, none⟩) d.nl d.nl)) B d tb tg pv rv sv (.slice (some ⟨g, 0, none⟩) d.nl d.nl) hv dv := by
  obtain ⟨tg, dv, cur, hbs, hg, hcz, hcc, htg, hBg, hgt⟩ := h.ex
  have hw : ∀ b, b ≠ tb → (wr.setCell ⟨tb, 6, none⟩ (.slice (some ⟨g, 0, none⟩) d.nl d.nl)).heap[b]? = wr.heap[b]? := fun b hb => setCell_block _ tb _ _ b hb
  exact ⟨tg, dv, hbs.move (hbs.bt.be.setCell (p := ⟨tb, 6, none⟩) hbs.bt.ge _) (heap_setCell_same _ _ _ _ _ _ hbs.bt.tok) (fun b h1 h2 h3 => ⟨rfl, hw b h2⟩), ⟨_, g, _, rfl, by rw [hz]; rfl, fun _ => ⟨rfl, ⟨hBg, hgt, htg⟩, cur, 62, (hw g hgt).trans hg, by omega, hcc⟩⟩⟩

theorem BF.tslot {W w : World} {B : Nat} {d : TD} {tb : Nat} {tg : Nat → Nat} {pv rv sv nv hv : Value} {dv : Nat → Value} (h : BF W w B d tb tg pv rv sv nv hv dv) (L : Nat) (hL : L ≤ B) :
    TSlot w (fun j b => L ≤ b ∧ b < w.heap.size ∧ b ≠ tb ∧ tg b = j) d d.sz d.nz pv rv sv nv hv dv := by
  have key : ∀ (j : Nat) {v : Value} {z : Bool} {l n : Nat} {V : Nat → Value}, Slot w (fun b => B ≤ b ∧ b ≠ tb ∧ tg b = j) v z l n V → Slot w (fun b => L ≤ b ∧ b < w.heap.size ∧ b ≠ tb ∧ tg b = j) v z l n V := fun j {_ _ _ _ _} h => h.mono fun b h1 h2 => ⟨⟨by omega, h1, h2.2.1, h2.2.2⟩, rfl⟩
  exact ⟨key 0 h.bs.bt.p, key 1 h.bs.bt.r, key 2 h.bs.bt.h, key 3 h.bs.s, key 4 h.n, fun k hk => key (5 + k) (h.bs.ds k hk)⟩
end Go.Proofs.Qxb6609019a
