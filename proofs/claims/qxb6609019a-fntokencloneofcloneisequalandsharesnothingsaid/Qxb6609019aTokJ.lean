import Derived.Test.Qxb6609019aTokG
import Derived.Test.Qxb6609019aTokI
import Derived.Deep.RegionHeld3
import Derived.Deep.CutRange
namespace Go.Proofs.Qxb6609019a
open Go.RowKit

theorem Try.info61 : (Try.prog.info? 61).map (fun i => (i.zero, i.size, i.bytes)) = some (some (.agg #[.string ByteArray.empty, .slice none 0 0]), 2, 40) := by kernel_rfl
theorem Try.info62 : (Try.prog.info? 62).map (fun i => (i.zero, i.size, i.bytes)) = some (some (.agg #[.string ByteArray.empty, .string ByteArray.empty]), 2, 32) := by kernel_rfl

theorem run_make_cap {P : Program} (t e : TypeId) (z : Value) (s bytes : Nat) (ht : P.underlying t = some (.slice e)) (hinfo : (P.info? e).map (fun i => (i.zero, i.size, i.bytes)) = some (some z, s, bytes))
    (kl kc : IntKind) (n : Nat) (hbytes : bytes * n ≤ 281474976710656) (h63 : n ≤ 9223372036854775807) (w : World) :
    (Instr.makeSlice t (.int kl 0) (.int kc (n : Int))).run P w = .ok (.slice (some ⟨w.heap.size, 0, none⟩) 0 n) (w.alloc (.cells (madeCells z.cells (n * s)) e)) := by
  obtain ⟨i, hi, hzz⟩ := Option.map_eq_some_iff.1 hinfo
  simp only [Prod.mk.injEq] at hzz
  obtain ⟨hz, hs, hb⟩ := hzz
  subst hs hb
  have hb' : (i.bytes : Int) * (n : Int) ≤ 281474976710656 := by
    have h : ((i.bytes * n : Nat) : Int) ≤ 281474976710656 := by omega
    rwa [Int.natCast_mul] at h
  have hr := run_make (P := P) w t e i z ht hi hz kl kc 0 n (by omega) (by omega) hb' (by omega)
  simpa only [Int.toNat_natCast, Int.toNat_zero] using hr

/-- append of all cells into a row that was made for them. -/
theorem wp_append_all {o : Oper} {a : Act} {K : Act → World → Prop} {Q : Exit → Act → World → Prop} (w : World) (s x : Operand)
    (ho : o.op = .call { callee := .builtin .append, args := #[s, x], argTypes := #[38, 38] })
    (g l c : Nat) (hs : a.eval s = .slice (some ⟨g, 0, none⟩) 0 l) (xa : Addr) (hx : a.eval x = .slice (some xa) l c) (cur : Array Value) (hg : w.heap[g]? = some (.cells cur 62 (0, 0))) (hcur : cur.size = l * 2)
    (news : List Value) (hl : news.length = l * 2) (hnews : ∀ j u, news[j]? = some u → w.cell? (xa.add j) = some u) (h1 : ∀ u ∈ news, u.oneCell' = true)
    (h : K (a.put o.dst (.slice (some ⟨g, 0, none⟩) l l)) (w.setRow g news.toArray)) : o.wp Try.prog a w K Q := by
  obtain ⟨i, hi, hzz⟩ := Option.map_eq_some_iff.1 Try.info62
  simp only [Prod.mk.injEq] at hzz
  obtain ⟨_, hsz, _⟩ := hzz
  have hr := run_append_room (P := Try.prog) w 38 o.type 62 i Try.underlying38 hi g 0 l cur hg xa l c news (by rw [hsz]; exact hl) hnews h1 (by omega) (by rw [hsz]; omega)
  have e1 : (cur.toList.take (0 * i.size) ++ news ++ cur.toList.drop (0 * i.size + news.length)).toArray = news.toArray := by
    rw [hsz, Nat.zero_mul, List.take_zero, List.nil_append, Nat.zero_add, List.drop_of_length_le (by simp; omega), List.append_nil]
  rw [e1, Nat.zero_add] at hr
  unfold Oper.wp execOp
  simp only [ho, resolve, invoke, builtin, Sem.run_bind, Sem.run_pure, Result.andThen_ok, List.map_toArray, List.map_cons, List.map_nil, hs, hx, hr]
  exact h

/-- Behind the first statement of Identities.clone. -/
structure R1 (W wx : World) (B sl nl : Nat) (A N : Nat → ByteArray) (cb g1 g2 : Nat) : Prop where
  hcb : wx.heap[cb]? = some (.cells #[.slice (some ⟨g1, 0, none⟩) 0 sl, .slice (some ⟨g2, 0, none⟩) nl nl] 40 (0, 0))
  hg1 : ∃ cur : Array Value, wx.heap[g1]? = some (.cells cur 61 (0, 0)) ∧ cur.size = sl * 2
  hg2 : Own wx g2 (nl * 2) (nodV A N)
  ne : cb ≠ g1 ∧ cb ≠ g2 ∧ g1 ≠ g2
  ge : B ≤ cb ∧ B ≤ g1 ∧ B ≤ g2
  below : Below B W wx

theorem below_setRow {B : Nat} {a w : World} (h : Below B a w) (g : Nat) (cs : Array Value) (hg : B ≤ g) : Below B a (w.setRow g cs) :=
  ⟨h.os, h.tape, h.output, by rw [size_setRow]; exact h.size, fun k hk => (setRow_other w g k cs (by omega)).trans (h.block k hk)⟩

/-- An invariant over what has come up carries a region through every order. -/
theorem wpAny_inv {P : Program} {ops : Array Oper} {Q : Exit → Act → World → Prop} {md : Region.Mode} (I : (Nat → Bool) → Act → World → Prop)
    (step : ∀ L a w, I L a w → ∀ i o, ops[i]? = some o → L i = false → (∀ e ∈ o.after, Region.binds md e = true → L e.on = true) → wpOp P ops Q i (fun a' w' => I (fun j => if j = i then true else L j) a' w') a w)
    (fin : ∀ L a w, I L a w → (∀ i o, ops[i]? = some o → L i = false → ∃ e ∈ o.after, Region.binds md e = true ∧ L e.on = false) → Q .normal a w) :
    ∀ fuel listed a w L, listed.size = ops.size → (∀ j, listed.getD j false = L j) → I L a w → listed.toList.countP (fun b => !b) ≤ fuel → wpAny P md ops Q fuel listed a w := by
  have hnone : ∀ (listed : Array Bool) (L : Nat → Bool), listed.size = ops.size → (∀ j, listed.getD j false = L j) → Region.ready md ops listed = [] → (∀ i o, ops[i]? = some o → L i = false → ∃ e ∈ o.after, Region.binds md e = true ∧ L e.on = false) := by
    intro listed L hs hL hr i o ho hi
    refine Classical.byContradiction fun hno => ?_
    have hlt : i < listed.size := by rw [hs]; exact (Array.getElem?_eq_some_iff.1 ho).1
    have hm : i ∈ Region.ready md ops listed := mem_ready.2 ⟨by
      have := hL i
      rw [hi] at this
      simpa [Array.getD, hlt] using this, o, ho, fun e he hb => by
      rw [hL]
      cases h : L e.on
      · exact absurd ⟨e, he, hb, h⟩ hno
      · rfl⟩
    rw [hr] at hm
    cases hm
  intro fuel
  induction fuel with
  | zero =>
    intro listed a w L hs hL hI hc
    have hr : Region.ready md ops listed = [] := by
      refine List.eq_nil_iff_forall_not_mem.2 fun i hi => ?_
      obtain ⟨h0, o, ho, _⟩ := mem_ready.1 hi
      have hlt : i < listed.size := by rw [hs]; exact (Array.getElem?_eq_some_iff.1 ho).1
      have hm : listed[i] ∈ listed.toList := by simp
      have hz := List.countP_eq_zero.1 (Nat.le_zero.1 hc) _ hm
      have : listed[i] = false := by simpa [Array.getD, hlt] using h0
      simp [this] at hz
    exact ⟨hr, fin L a w hI (hnone listed L hs hL hr)⟩
  | succ fuel ih =>
    intro listed a w L hs hL hI hc
    refine ⟨fun hr => fin L a w hI (hnone listed L hs hL hr), fun i hi => ?_⟩
    obtain ⟨h0, o, ho, hall⟩ := mem_ready.1 hi
    have hlt : i < listed.size := by rw [hs]; exact (Array.getElem?_eq_some_iff.1 ho).1
    have hf : listed[i] = false := by simpa [Array.getD, hlt] using h0
    have hLi : L i = false := by rw [← hL]; simp [Array.getD, hlt, hf]
    refine wpOp_mono (fun a' w' h' => ih (listed.setIfInBounds i true) a' w' _ (by simpa using hs) (fun j => ?_) h' ?_) (step L a w hI i o ho hLi (fun e he hb => by rw [← hL]; exact hall e he hb))
    · by_cases e : j = i
      · subst e; simp [Array.getD, hlt]
      · rw [if_neg e, ← hL]
        exact getD_set_ne false (fun h => e h.symm)
    · have hset : (listed.setIfInBounds i true).toList = listed.toList.set i true := by simp
      rw [hset, List.countP_set (by simpa using hlt)]
      simp [hf] at hc ⊢
      omega

theorem lt_of_block {w : World} {g : Nat} {o : Obj} (h : w.heap[g]? = some o) : g < w.heap.size := (Array.getElem?_eq_some_iff.1 h).1

/-- Identities.clone's first statement, while it is under way: L: what has come up; s: the slots. -/
structure St (W : World) (B n sl nl : Nat) (sa na : Option Addr) (sc nc : Nat) (A N : Nat → ByteArray) (L : Nat → Bool) (s : Nat → Value) (w : World) : Prop where
  c0 : w.cell? ⟨n, 0, none⟩ = some (.slice sa sl sc)
  c1 : w.cell? ⟨n, 1, none⟩ = some (.slice na nl nc)
  be : Below B W w
  h0 : L 0 = true → s 6 = .pointer (some ⟨n, 0, none⟩)
  h1 : L 1 = true → s 7 = .slice sa sl sc
  h2 : L 2 = true → s 8 = .int .i64 sl
  h3 : L 3 = true → ∃ (g : Nat) (cur : Array Value), s 9 = .slice (some ⟨g, 0, none⟩) 0 sl ∧ w.heap[g]? = some (.cells cur 61 (0, 0)) ∧ cur.size = sl * 2 ∧ B ≤ g
  h4 : L 4 = true → s 10 = .pointer (some ⟨n, 1, none⟩)
  h5 : L 5 = true → s 11 = .slice na nl nc
  h6 : L 6 = true → s 12 = .int .i64 nl
  h7 : L 7 = true → L 10 = false → ∃ (g : Nat) (cur : Array Value), s 13 = .slice (some ⟨g, 0, none⟩) 0 nl ∧ w.heap[g]? = some (.cells cur 62 (0, 0)) ∧ cur.size = nl * 2 ∧ B ≤ g
  h8 : L 8 = true → s 14 = .pointer (some ⟨n, 1, none⟩)
  h9 : L 9 = true → s 15 = .slice na nl nc
  h10 : L 10 = true → L 7 = true ∧ ∃ (g : Nat) (cur : Array Value), s 16 = .slice (some ⟨g, 0, none⟩) nl nl ∧ w.heap[g]? = some (.cells cur 62 (0, 0)) ∧ nl * 2 ≤ cur.size ∧ (∀ i, i < nl * 2 → cur[i]? = some (nodV A N i)) ∧ B ≤ g
  h11 : L 11 = true → L 3 = true ∧ L 10 = true ∧ s 17 = .agg #[s 9, s 16]
  h12 : L 12 = true → ∃ (g : Nat) (cs : Array Value), s 3 = .pointer (some ⟨g, 0, none⟩) ∧ w.heap[g]? = some (.cells cs 40 (0, 0)) ∧ cs.size = 2 ∧ B ≤ g ∧ (L 13 = true → cs = #[s 9, s 16])
  h13 : L 13 = true → L 11 = true ∧ L 12 = true

theorem St.alloc {W w : World} {B n sl nl : Nat} {sa na : Option Addr} {sc nc : Nat} {A N : Nat → ByteArray} {L : Nat → Bool} {s : Nat → Value} (h : St W B n sl nl sa na sc nc A N L s w) (hB : B ≤ W.heap.size) (o : Obj) : St W B n sl nl sa na sc nc A N L s (w.alloc o) := by
  have hk : ∀ {k : Nat} {x : Obj}, w.heap[k]? = some x → (w.alloc o).heap[k]? = some x := fun h => (Below.heap_alloc w o _ (lt_of_block h)).trans h
  have hc : ∀ {a : Addr} {v : Value}, w.cell? a = some v → (w.alloc o).cell? a = some v := fun h => keepC ((Below.refl _ _).alloc (Nat.le_refl _) _) h
  refine ⟨hc h.c0, hc h.c1, h.be.alloc (Nat.le_trans hB h.be.size) o, h.h0, h.h1, h.h2, fun hl => ?_, h.h4, h.h5, h.h6, fun hl hl' => ?_, h.h8, h.h9, fun hl => ?_, h.h11, fun hl => ?_, h.h13⟩
  · obtain ⟨g, cur, e1, e2, e3⟩ := h.h3 hl
    exact ⟨g, cur, e1, hk e2, e3⟩
  · obtain ⟨g, cur, e1, e2, e3⟩ := h.h7 hl hl'
    exact ⟨g, cur, e1, hk e2, e3⟩
  · obtain ⟨e0, g, cur, e1, e2, e3⟩ := h.h10 hl
    exact ⟨e0, g, cur, e1, hk e2, e3⟩
  · obtain ⟨g, cur, e1, e2, e3⟩ := h.h12 hl
    exact ⟨g, cur, e1, hk e2, e3⟩

theorem keepC' {W w : World} {B : Nat} (h : Below B W w) {a : Addr} {v : Value} (ha : a.block < B) (hc : W.cell? a = some v) : w.cell? a = some v := (h.cell ha).trans hc

theorem getD_repl (m j : Nat) : (Array.replicate m false).getD j false = false := by
  simp only [Array.getD]
  split
  · simp
  · rfl

abbrev upS (s : Nat → Value) (k : Nat) (v : Value) : Nat → Value := fun j => if j = k then v else s j
abbrev actS (v0 : Value) (n : Nat) (s : Nat → Value) : Act := { tmps := #[v0, .pointer (some ⟨n, 0, none⟩), .pointer (some ⟨n + 1, 0, none⟩), s 3, undef, undef, s 6, s 7, s 8, s 9, s 10, s 11, s 12, s 13, s 14, s 15, s 16, s 17, undef, undef, undef, undef, undef, undef, undef, undef, undef, undef, undef, undef, undef, undef, undef, undef, undef, undef, undef, undef], defers := [] }


/-- append of one service into a row with room. -/
theorem wp_append_one {o : Oper} {a : Act} {K : Act → World → Prop} {Q : Exit → Act → World → Prop} (w : World) (s x : Operand)
    (ho : o.op = .call { callee := .builtin .append, args := #[s, x], argTypes := #[37, 37] })
    (g k l : Nat) (hk : k < l) (hs : a.eval s = .slice (some ⟨g, 0, none⟩) k l) (gx : Nat) (hx : a.eval x = .slice (some ⟨gx, 0, none⟩) 1 1) (cur : Array Value) (hg : w.heap[g]? = some (.cells cur 61 (0, 0))) (hcur : cur.size = l * 2)
    (x0 x1 : Value) (hgx : w.heap[gx]? = some (.cells #[x0, x1] 61 (0, 0))) (h1 : x0.oneCell' = true) (h2 : x1.oneCell' = true)
    (h : ∀ cur' : Array Value, cur'.size = cur.size → (∀ j, j < k * 2 → cur'[j]? = cur[j]?) → cur'[k * 2]? = some x0 → cur'[k * 2 + 1]? = some x1 → K (a.put o.dst (.slice (some ⟨g, 0, none⟩) (k + 1) l)) (w.setRow g cur')) : o.wp Try.prog a w K Q := by
  obtain ⟨i, hi, hzz⟩ := Option.map_eq_some_iff.1 Try.info61
  simp only [Prod.mk.injEq] at hzz
  obtain ⟨_, hsz, _⟩ := hzz
  have hnews : ∀ (j : Nat) (u : Value), [x0, x1][j]? = some u → w.cell? ((⟨gx, 0, none⟩ : Addr).add j) = some u := fun j u hj => by
    rw [show (⟨gx, 0, none⟩ : Addr).add j = ⟨gx, j, none⟩ by unfold Addr.add; split <;> simp_all, cell_of_row _ _ _ _ _ _ hgx]
    simpa using hj
  have hr := run_append_room (P := Try.prog) w 37 o.type 61 i Try.underlying37 hi g k l cur hg ⟨gx, 0, none⟩ 1 1 [x0, x1] (by rw [hsz]; rfl) hnews (by intro u hu; simp at hu; rcases hu with rfl | rfl <;> assumption) (by omega) (by rw [hsz]; simp; omega)
  rw [hsz] at hr
  unfold Oper.wp execOp
  simp only [ho, resolve, invoke, builtin, Sem.run_bind, Sem.run_pure, Result.andThen_ok, List.map_toArray, List.map_cons, List.map_nil, hs, hx, hr]
  refine h _ ?_ ?_ ?_ ?_
  · simp; omega
  · intro j hj
    simp only [List.getElem?_toArray]
    rw [List.append_assoc, List.getElem?_append_left (by simp; omega), List.getElem?_take_of_lt hj]
    simp
  · simp only [List.getElem?_toArray]
    rw [List.append_assoc, List.getElem?_append_right (by simp; omega)]
    simp [show min (k * 2) cur.size = k * 2 by omega]
  · simp only [List.getElem?_toArray]
    rw [List.append_assoc, List.getElem?_append_right (by simp; omega)]
    simp [show min (k * 2) cur.size = k * 2 by omega]

/-- Identities.clone's append, while it is under way. -/
structure S5 (w0 : World) (B H si cb g1 k sl : Nat) (nv2 : Value) (cur0 : Array Value) (nm : ByteArray) (dvk : Value) (z : Bool) (dlk : Nat) (dNk : Nat → ByteArray) (L : Nat → Bool) (s : Nat → Value) (w : World) : Prop where
  fr : ∀ b, b < H → b ≠ g1 → b ≠ cb → w.heap[b]? = w0.heap[b]?
  be : Below B w0 w
  sz : H ≤ w.heap.size
  a1 : L 9 = false → w.heap[g1]? = some (.cells cur0 61 (0, 0))
  a2 : L 9 = true → ∃ cur : Array Value, w.heap[g1]? = some (.cells cur 61 (0, 0)) ∧ cur.size = cur0.size ∧ (∀ j, j < k * 2 → cur[j]? = cur0[j]?) ∧ cur[k * 2]? = some (.string nm) ∧ cur[k * 2 + 1]? = some (s 31)
  a3 : L 11 = false → w.heap[cb]? = some (.cells #[.slice (some ⟨g1, 0, none⟩) k sl, nv2] 40 (0, 0))
  a4 : L 11 = true → w.heap[cb]? = some (.cells #[.slice (some ⟨g1, 0, none⟩) (k + 1) sl, nv2] 40 (0, 0))
  h0 : L 0 = true → s 25 = .pointer (some ⟨cb, 0, none⟩)
  h1 : L 1 = true → s 26 = .slice (some ⟨g1, 0, none⟩) k sl
  h2 : L 2 = true → s 27 = .pointer (some ⟨si, 0, none⟩)
  h3 : L 3 = true → s 28 = .string nm
  h4 : L 4 = true → s 29 = .pointer (some ⟨si, 1, none⟩)
  h5 : L 5 = true → s 30 = dvk
  h6 : L 6 = true → Slot w (fun b => H ≤ b) (s 31) z dlk dlk (fun i => .string (dNk i))
  h7 : L 7 = true → L 6 = true ∧ s 32 = .agg #[.string nm, s 31]
  h8 : L 8 = true → L 7 = true ∧ ∃ g : Nat, s 33 = .slice (some ⟨g, 0, none⟩) 1 1 ∧ w.heap[g]? = some (.cells #[.string nm, s 31] 61 (0, 0)) ∧ H ≤ g
  h9 : L 9 = true → L 8 = true ∧ s 34 = .slice (some ⟨g1, 0, none⟩) (k + 1) sl ∧ L 1 = true
  h10 : L 10 = true → s 35 = .pointer (some ⟨cb, 0, none⟩)
  h11 : L 11 = true → L 9 = true ∧ L 1 = true

/-- A world that has only grown. -/
theorem S5.grow {w0 w w' : World} {B H si cb g1 k sl : Nat} {nv2 : Value} {cur0 : Array Value} {nm : ByteArray} {dvk : Value} {z : Bool} {dlk : Nat} {dNk : Nat → ByteArray} {L : Nat → Bool} {s : Nat → Value} (h : S5 w0 B H si cb g1 k sl nv2 cur0 nm dvk z dlk dNk L s w)
    (hb : Below w.heap.size w w') (hB : B ≤ w.heap.size) : S5 w0 B H si cb g1 k sl nv2 cur0 nm dvk z dlk dNk L s w' := by
  have hk : ∀ {k : Nat} {x : Obj}, w.heap[k]? = some x → w'.heap[k]? = some x := fun h => (hb.block _ (lt_of_block h)).trans h
  refine ⟨fun b h1 h2 h3 => (hb.block b (by have := h.sz; omega)).trans (h.fr b h1 h2 h3), h.be.trans (hb.mono hB), Nat.le_trans h.sz hb.size, fun hl => hk (h.a1 hl), fun hl => ?_, fun hl => hk (h.a3 hl), fun hl => hk (h.a4 hl), h.h0, h.h1, h.h2, h.h3, h.h4, h.h5, fun hl => ?_, h.h7, fun hl => ?_, h.h9, h.h10, h.h11⟩
  · obtain ⟨cur, e1, e2⟩ := h.a2 hl
    exact ⟨cur, hk e1, e2⟩
  · exact (h.h6 hl).mono fun b hb1 hb2 => ⟨hb2, hb.block b hb1⟩
  · obtain ⟨e0, g, e1, e2, e3⟩ := h.h8 hl
    exact ⟨e0, g, e1, hk e2, e3⟩

/-- Identities.clone's loop, k services done. -/
structure LI (W wr : World) (B sl nl : Nat) (N A Bn : Nat → ByteArray) (dz : Nat → Bool) (dl : Nat → Nat) (dN : Nat → Nat → ByteArray) (cb g1 g2 k : Nat) : Prop where
  hcb : wr.heap[cb]? = some (.cells #[.slice (some ⟨g1, 0, none⟩) k sl, .slice (some ⟨g2, 0, none⟩) nl nl] 40 (0, 0))
  hg1 : ∃ (cur : Array Value) (tg : Nat → Nat) (dv' : Nat → Value), wr.heap[g1]? = some (.cells cur 61 (0, 0)) ∧ cur.size = sl * 2 ∧ (∀ j, j < k * 2 → cur[j]? = some (svcV N dv' j)) ∧
    ∀ q, q < k → Slot wr (fun b => B ≤ b ∧ b ≠ g1 ∧ b ≠ g2 ∧ b ≠ cb ∧ tg b = q) (dv' q) (dz q) (dl q) (dl q) (fun i => .string (dN q i))
  hg2 : Own wr g2 (nl * 2) (nodV A Bn)
  ne : cb ≠ g1 ∧ cb ≠ g2 ∧ g1 ≠ g2
  ge : B ≤ cb ∧ B ≤ g1 ∧ B ≤ g2
  below : Below B W wr

end Go.Proofs.Qxb6609019a
