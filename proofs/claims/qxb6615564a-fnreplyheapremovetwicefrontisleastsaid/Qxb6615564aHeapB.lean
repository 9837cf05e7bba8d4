import Derived.Test.Qxb6615564aHeapA
import Derived.Test.Qxb6615564aHeapPlain
namespace Go.Proofs.Qxb6615564a
open Go.RowKit

set_option maxHeartbeats 1000000 in
theorem pop_any (hb ab m c r : Nat) (k : Value) (w : World) (hm : m < 1048576) (hr : r ≠ ab) (hr' : r ≠ hb) (hab : ab ≠ hb)
    (ch : w.cell? ⟨hb, 0, none⟩ = some (.slice (some ⟨ab, 0, none⟩) (m + 1) c)) (fh : w.frozen? ⟨hb, 0, none⟩ = false) (hc : m + 1 ≤ c)
    (ci : w.cell? ⟨ab, m, none⟩ = some (.pointer (some ⟨r, 0, none⟩))) (fi : w.frozen? ⟨ab, m, none⟩ = false) (xi : w.cell? ⟨r, 16, none⟩ = some k) (gi : w.frozen? ⟨r, 16, none⟩ = false) :
    Calls Try.prog 60 #[.pointer (some ⟨hb, 0, none⟩)] w fun e w' => e = .returned (.iface 30 (.pointer (some ⟨r, 0, none⟩))) ∧
      w' = ((w.setCell ⟨ab, m, none⟩ (.pointer none)).setCell ⟨hb, 0, none⟩ (.slice (some ⟨ab, 0, none⟩) m c)).setCell ⟨r, 16, none⟩ (.int .i64 (-1)) := by
  have h1 : ¬ r = ab := hr
  have h2 : ¬ ab = r := fun h => hr h.symm
  have h3 : ¬ r = hb := hr'
  have h4 : ¬ hb = r := fun h => hr' h.symm
  have h5 : ¬ ab = hb := hab
  have h6 : ¬ hb = ab := fun h => hab h.symm
  go_enter Try.func60, Try.ntmps60
  go_wp2
  go_ret
  exact ⟨rfl, rfl⟩

theorem m_pop (a : Addr) (w : World) : (method 308 27 (.pointer (some a)) "Pop").run Try.prog w = .ok (60, .pointer (some a)) w := by kernel_rfl

theorem load57 (a : Option Addr) (b m c : Nat) (w : World) (h : w.cell? ⟨b, 0, none⟩ = some (.slice a m c)) : (loadVar 57 ⟨b, 0, none⟩).run Try.prog w = .ok (.slice a m c) w := by
  simp [go_sem, h]


def mRow (name : String) (fn : FuncId) : Prop := (Try.prog.info? 27).bind (fun i => (i.methods.find? (·.name == name)).map (fun m => (m.path.isEmpty, m.func))) = some (true, some (fn, false))
theorem mLen : mRow "Len" 58 := by unfold mRow; kernel_rfl
theorem mLess : mRow "Less" 59 := by unfold mRow; kernel_rfl
theorem mSwap : mRow "Swap" 61 := by unfold mRow; kernel_rfl

theorem wrapnil (a : Addr) (x y : ByteArray) (w : World) : (Builtin.ssaWrapNilChk_ #[27] 27 #[.pointer (some a), .string x, .string y]).run Try.prog w = .ok (.pointer (some a)) w := rfl

theorem m_val (name : String) (fn : FuncId) (h : mRow name fn) (a : Option Addr) (hb m c : Nat) (w : World) (hc : w.cell? ⟨hb, 0, none⟩ = some (.slice a m c)) :
    (method 308 27 (.pointer (some ⟨hb, 0, none⟩)) name).run Try.prog w = .ok (fn, .slice a m c) w := by
  unfold mRow at h
  obtain ⟨i, hi, h⟩ := Option.bind_eq_some_iff.1 h
  obtain ⟨r, hr, h⟩ := Option.map_eq_some_iff.1 h
  simp only [Prod.mk.injEq] at h
  obtain ⟨hp, hf⟩ := h
  have hp' : r.path = #[] := by simpa using hp
  have hpr : Sem.run Try.prog program w = .ok Try.prog w := rfl
  have hun : Sem.run Try.prog (underlying 27) w = .ok (.pointer 57) w := run_underlying Try.underlying27 w
  rw [method]
  generalize (name.splitOn ".").getLastD name = nm'
  simp only [Sem.run_bind, typeInfo, hpr, Result.andThen, hi, hr, hf, hp', Sem.run_pure, follow, receiverAt, hun, Place.get, Array.isEmpty_empty, if_true, strVal, wrapnil, asAddr, load57 a hb m c w hc]

/-- Where the heap's own blocks lie: apart from one another. -/
structure Geo (hb ab n : Nat) (R : Nat → Nat) : Prop where
  ne : ab ≠ hb
  ra : ∀ j, j < n → R j ≠ ab
  rh : ∀ j, j < n → R j ≠ hb
  inj : ∀ i j, i < n → j < n → R i = R j → i = j

/-- The heap in memory: position i holds reply A i, whose keepIndex is i. -/
structure St (w : World) (hb ab n m : Nat) (R : Nat → Nat) (due : Nat → Int) (A : Nat → Nat) : Prop where
  cell : w.cell? ⟨hb, 0, none⟩ = some (.slice (some ⟨ab, 0, none⟩) m n)
  cellf : w.frozen? ⟨hb, 0, none⟩ = false
  arr : ∀ i, i < m → w.cell? ⟨ab, i, none⟩ = some (.pointer (some ⟨R (A i), 0, none⟩))
  arrf : ∀ i, i < m → w.frozen? ⟨ab, i, none⟩ = false
  rep : ∀ i, i < m → Rep w (R (A i)) (due (A i)) i

/-- All that is none of the heap's own blocks is as it was. -/
structure Kept (hb ab n : Nat) (R : Nat → Nat) (w w' : World) : Prop where
  os : w'.os = w.os
  tape : w'.tape = w.tape
  output : w'.output = w.output
  size : w.heap.size ≤ w'.heap.size
  block : ∀ b, b < w.heap.size → b ≠ ab → b ≠ hb → (∀ j, j < n → b ≠ R j) → w'.heap[b]? = w.heap[b]?

theorem Kept.refl (hb ab n : Nat) (R : Nat → Nat) (w : World) : Kept hb ab n R w w := ⟨rfl, rfl, rfl, Nat.le_refl _, fun _ _ _ _ _ => rfl⟩
theorem Kept.trans {hb ab n : Nat} {R : Nat → Nat} {a b c : World} (h : Kept hb ab n R a b) (k : Kept hb ab n R b c) : Kept hb ab n R a c :=
  ⟨k.os.trans h.os, k.tape.trans h.tape, k.output.trans h.output, Nat.le_trans h.size k.size, fun i hi h1 h2 h3 => (k.block i (Nat.lt_of_lt_of_le hi h.size) h1 h2 h3).trans (h.block i hi h1 h2 h3)⟩
theorem Kept.of_below {hb ab n : Nat} {R : Nat → Nat} {w w' : World} (h : Below w.heap.size w w') : Kept hb ab n R w w' := ⟨h.os, h.tape, h.output, h.size, fun b hb _ _ _ => h.block b hb⟩
theorem Kept.set {hb ab n : Nat} {R : Nat → Nat} {a w : World} (h : Kept hb ab n R a w) {p : Addr} (hp : p.block = ab ∨ p.block = hb ∨ ∃ j, j < n ∧ p.block = R j) (v : Value) : Kept hb ab n R a (w.setCell p v) :=
  h.trans ⟨rfl, rfl, rfl, by simp, fun b _ h1 h2 h3 => Go.Deep.blk_setCell_other _ _ _ _ (fun e => by
    rcases hp with hp | hp | ⟨j, hj, hp⟩
    · exact h1 (e.trans hp)
    · exact h2 (e.trans hp)
    · exact h3 j hj (e.trans hp))⟩
theorem Kept.below {hb ab n B : Nat} {R : Nat → Nat} {w0 w w' : World} (h : Kept hb ab n R w w') (h0 : Below B w0 w) (hB : B ≤ w.heap.size) (h1 : B ≤ ab) (h2 : B ≤ hb) (h3 : ∀ j, j < n → B ≤ R j) : Below B w0 w' :=
  h0.trans ⟨h.os, h.tape, h.output, h.size, fun k hk => h.block k (by omega) (by omega) (by omega) (fun j hj => by have := h3 j hj; omega)⟩
theorem Kept.cell {hb ab n : Nat} {R : Nat → Nat} {w w' : World} (h : Kept hb ab n R w w') {p : Addr} {v : Value} (hc : w.cell? p = some v) (h1 : p.block ≠ ab) (h2 : p.block ≠ hb) (h3 : ∀ j, j < n → p.block ≠ R j) : w'.cell? p = some v :=
  (World.cell?_of_block (w := w) (h.block p.block (lt_of_cell hc) h1 h2 h3)).trans hc

theorem Rep.below {w w' : World} {r : Nat} {d k : Int} (h : Rep w r d k) (hb : Below w.heap.size w w') : Rep w' r d k where
  wall := (hb.cell (lt_of_cell h.wall)).trans h.wall
  ext := (hb.cell (lt_of_cell h.ext)).trans h.ext
  loc := (hb.cell (lt_of_cell h.loc)).trans h.loc
  idx := (hb.cell (lt_of_cell h.idx)).trans h.idx
  fz := (hb.frozen (lt_of_cell h.idx)).trans h.fz
  blk := by obtain ⟨c, t, e⟩ := h.blk; exact ⟨c, t, (hb.block r (lt_of_cell h.idx)).trans e⟩

theorem St.below {w w' : World} {hb ab n m : Nat} {R : Nat → Nat} {due : Nat → Int} {A : Nat → Nat} (h : St w hb ab n m R due A) (hbl : Below w.heap.size w w') : St w' hb ab n m R due A where
  cell := (hbl.cell (lt_of_cell h.cell)).trans h.cell
  cellf := (hbl.frozen (lt_of_cell h.cell)).trans h.cellf
  arr i hi := (hbl.cell (lt_of_cell (h.arr i hi))).trans (h.arr i hi)
  arrf i hi := (hbl.frozen (lt_of_cell (h.arr i hi))).trans (h.arrf i hi)
  rep i hi := (h.rep i hi).below hbl

theorem set_ne (w : World) (v : Value) {b o b' o' : Nat} (h : b ≠ b' ∨ o ≠ o') : (w.setCell ⟨b, o, none⟩ v).cell? ⟨b', o', none⟩ = w.cell? ⟨b', o', none⟩ :=
  World.cell?_setCell_other w _ _ _ (by
    intro e
    simp only [Addr.mk.injEq] at e
    rcases h with h | h
    · exact h e.1
    · exact h e.2.1)

theorem swap_st {w : World} {hb ab n m : Nat} {R : Nat → Nat} {due : Nat → Int} {A : Nat → Nat} (G : Geo hb ab n R) (B : Bij n A) (hmn : m ≤ n) (h : St w hb ab n m R due A) {i j : Nat} (hi : i < m) (hj : j < m) (hij : i ≠ j) (q : Nat) :
    St (((((w.setCell ⟨ab, i, none⟩ (.pointer (some ⟨R (A j), 0, none⟩))).setCell ⟨ab, j, none⟩ (.pointer (some ⟨R (A i), 0, none⟩))).setCell ⟨R (A j), 16, none⟩ (.int .i64 i)).setCell ⟨R (A i), 16, none⟩ (.int .i64 j)).drewN q) hb ab n m R due (swapA A i j) := by
  have rne : ∀ s t, s < m → t < m → s ≠ t → R (A s) ≠ R (A t) := fun s t hs ht hst e => hst (B.inj s t (by omega) (by omega) (G.inj _ _ (B.lt s (by omega)) (B.lt t (by omega)) e))
  have ra : ∀ s, s < m → R (A s) ≠ ab := fun s hs => G.ra _ (B.lt s (by omega))
  have rh : ∀ s, s < m → R (A s) ≠ hb := fun s hs => G.rh _ (B.lt s (by omega))
  have raj := ra j hj
  have rai := ra i hi
  have rhj := rh j hj
  have rhi := rh i hi
  have rij := rne i j hi hj hij
  have gne := G.ne
  constructor
  · show World.cell? _ _ = _
    rw [World.cell?_drewN, set_ne _ _ (.inl rhi), set_ne _ _ (.inl rhj), set_ne _ _ (.inl gne), set_ne _ _ (.inl gne)]
    exact h.cell
  · simp [h.cellf]
  · intro t ht
    rw [World.cell?_drewN, set_ne _ _ (.inl rai), set_ne _ _ (.inl raj)]
    by_cases e2 : t = j
    · subst e2
      rw [World.cell?_setCell_same _ _ _ ((set_ne _ _ (.inr hij)).trans (h.arr t ht)), swapA_r]
    · rw [set_ne _ _ (.inr (fun e => e2 e.symm))]
      by_cases e1 : t = i
      · subst e1
        rw [World.cell?_setCell_same _ _ _ (h.arr t ht), swapA_l]
      · rw [set_ne _ _ (.inr (fun e => e1 e.symm)), swapA_o e1 e2]
        exact h.arr t ht
  · intro t ht
    simp [h.arrf t ht]
  · intro t ht
    have key : ∀ s, s < m → ∀ o, o ≠ 16 → (((((w.setCell ⟨ab, i, none⟩ (.pointer (some ⟨R (A j), 0, none⟩))).setCell ⟨ab, j, none⟩ (.pointer (some ⟨R (A i), 0, none⟩))).setCell ⟨R (A j), 16, none⟩ (.int .i64 i)).setCell ⟨R (A i), 16, none⟩ (.int .i64 j)).drewN q).cell? ⟨R (A s), o, none⟩ = w.cell? ⟨R (A s), o, none⟩ := fun s hs o ho => by
      have := ra s hs
      rw [World.cell?_drewN, set_ne _ _ (.inr (fun e => ho e.symm)), set_ne _ _ (.inr (fun e => ho e.symm)), set_ne _ _ (.inl (fun e => this e.symm)), set_ne _ _ (.inl (fun e => this e.symm))]
    have fr : ∀ x, (((((w.setCell ⟨ab, i, none⟩ (.pointer (some ⟨R (A j), 0, none⟩))).setCell ⟨ab, j, none⟩ (.pointer (some ⟨R (A i), 0, none⟩))).setCell ⟨R (A j), 16, none⟩ (.int .i64 i)).setCell ⟨R (A i), 16, none⟩ (.int .i64 j)).drewN q).frozen? x = w.frozen? x := fun x => by simp
    have bk : ∀ s, s < m → Blk (((((w.setCell ⟨ab, i, none⟩ (.pointer (some ⟨R (A j), 0, none⟩))).setCell ⟨ab, j, none⟩ (.pointer (some ⟨R (A i), 0, none⟩))).setCell ⟨R (A j), 16, none⟩ (.int .i64 i)).setCell ⟨R (A i), 16, none⟩ (.int .i64 j)).drewN q) (R (A s)) := fun s hs => ((((h.rep s hs).blk.set _ _).set _ _).set _ _).set _ _
    by_cases e1 : t = i
    · subst e1
      rw [swapA_l]
      exact ⟨(key j hj 13 (by decide)).trans (h.rep j hj).wall, (key j hj 14 (by decide)).trans (h.rep j hj).ext, (key j hj 15 (by decide)).trans (h.rep j hj).loc,
        by rw [World.cell?_drewN, set_ne _ _ (.inl rij), World.cell?_setCell_same _ _ _ (((set_ne _ _ (.inl (fun e => raj e.symm))).trans (set_ne _ _ (.inl (fun e => raj e.symm)))).trans (h.rep j hj).idx)], (fr _).trans (h.rep j hj).fz, bk j hj⟩
    · by_cases e2 : t = j
      · subst e2
        rw [swapA_r]
        exact ⟨(key i hi 13 (by decide)).trans (h.rep i hi).wall, (key i hi 14 (by decide)).trans (h.rep i hi).ext, (key i hi 15 (by decide)).trans (h.rep i hi).loc,
          by rw [World.cell?_drewN, World.cell?_setCell_same _ _ _ (((set_ne _ _ (.inl (fun e => rij e.symm))).trans ((set_ne _ _ (.inl (fun e => rai e.symm))).trans (set_ne _ _ (.inl (fun e => rai e.symm))))).trans (h.rep i hi).idx)], (fr _).trans (h.rep i hi).fz, bk i hi⟩
      · rw [swapA_o e1 e2]
        have n1 := rne t i ht hi e1
        have n2 := rne t j ht hj e2
        have n3 := ra t ht
        exact ⟨(key t ht 13 (by decide)).trans (h.rep t ht).wall, (key t ht 14 (by decide)).trans (h.rep t ht).ext, (key t ht 15 (by decide)).trans (h.rep t ht).loc,
          by rw [World.cell?_drewN, set_ne _ _ (.inl (fun e => n1 e.symm)), set_ne _ _ (.inl (fun e => n2 e.symm)), set_ne _ _ (.inl (fun e => n3 e.symm)), set_ne _ _ (.inl (fun e => n3 e.symm))]; exact (h.rep t ht).idx, (fr _).trans (h.rep t ht).fz, bk t ht⟩

theorem swap_call {w : World} {hb ab n m : Nat} {R : Nat → Nat} {due : Nat → Int} {A : Nat → Nat} (G : Geo hb ab n R) (B : Bij n A) (hmn : m ≤ n) (h : St w hb ab n m R due A) (i j : Nat) (hi : i < m) (hj : j < m) (hij : i ≠ j) :
    Calls Try.prog 61 #[.slice (some ⟨ab, 0, none⟩) m n, .int .i64 i, .int .i64 j] w fun e w' => e = .returned (.tuple #[]) ∧ St w' hb ab n m R due (swapA A i j) ∧ Kept hb ab n R w w' := by
  have hAi := B.lt i (by omega)
  have hAj := B.lt j (by omega)
  refine (swap_any ab m n i j (R (A i)) (R (A j)) _ _ w hi hj hij (fun e => hij (B.inj i j (by omega) (by omega) (G.inj _ _ hAi hAj e))) (fun e => G.ra _ hAi e.symm) (fun e => G.ra _ hAj e.symm) (h.arr i hi) (h.arr j hj) (h.arrf i hi) (h.arrf j hj) (h.rep i hi).idx (h.rep j hj).idx (h.rep i hi).fz (h.rep j hj).fz).mono ?_
  rintro e w' ⟨rfl, q, rfl⟩
  refine ⟨rfl, swap_st G B hmn h hi hj hij q, ?_⟩
  have k := ((((Kept.refl hb ab n R w).set (p := ⟨ab, i, none⟩) (.inl rfl) (.pointer (some ⟨R (A j), 0, none⟩))).set (p := ⟨ab, j, none⟩) (.inl rfl) (.pointer (some ⟨R (A i), 0, none⟩))).set (p := ⟨R (A j), 16, none⟩) (.inr (.inr ⟨_, hAj, rfl⟩)) (.int .i64 i)).set (p := ⟨R (A i), 16, none⟩) (.inr (.inr ⟨_, hAi, rfl⟩)) (.int .i64 j)
  exact ⟨k.os, k.tape, k.output, k.size, k.block⟩

theorem less_call {w : World} {hb ab n m : Nat} {R : Nat → Nat} {due : Nat → Int} {A : Nat → Nat} (h : St w hb ab n m R due A) (i j : Nat) (hi : i < m) (hj : j < m) :
    Calls Try.prog 59 #[.slice (some ⟨ab, 0, none⟩) m n, .int .i64 i, .int .i64 j] w fun e w' => e = .returned (.bool (decide (due (A i) < due (A j)))) ∧ St w' hb ab n m R due A ∧ Kept hb ab n R w w' := by
  refine (less_any ab m n i j _ _ _ _ _ _ w hi hj (h.arr i hi) (h.arr j hj) (h.rep i hi) (h.rep j hj)).mono ?_
  rintro e w' ⟨rfl, hb⟩
  exact ⟨rfl, h.below hb, Kept.of_below hb⟩
end Go.Proofs.Qxb6615564a
