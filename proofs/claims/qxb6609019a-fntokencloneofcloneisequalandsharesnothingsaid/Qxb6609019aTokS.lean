import Derived.Test.Qxb6609019aTokP
import Derived.ProofKit
import Derived.OpenShut
import Derived.ShutString
import Derived.ChangeOld
import Derived.SliceStrings
import Derived.Deep.SlicePairs
namespace Go.Proofs.Qxb6609019a
open Go.ChangeShapes Go.WideShapes Go.ChangeAt Go.RowKit

theorem Try.cells33 : Try.prog.cellsOf 33 = 13 := by kernel_rfl
theorem Try.cells9 : Try.prog.cellsOf 9 = 1 := by kernel_rfl
theorem Try.cells28 : Try.prog.cellsOf 28 = 1 := by kernel_rfl
theorem Try.cells29 : Try.prog.cellsOf 29 = 1 := by kernel_rfl
theorem Try.cells30 : Try.prog.cellsOf 30 = 1 := by kernel_rfl
theorem Try.cells4 : Try.prog.cellsOf 4 = 1 := by kernel_rfl
theorem Try.cells2 : Try.prog.cellsOf 2 = 1 := by kernel_rfl
theorem Try.cells25 : Try.prog.cellsOf 25 = 1 := by kernel_rfl
theorem Try.cells31 : Try.prog.cellsOf 31 = 1 := by kernel_rfl
theorem Try.cells51 : Try.prog.cellsOf 51 = 2 := by kernel_rfl
theorem Try.cells53 : Try.prog.cellsOf 53 = 2 := by kernel_rfl
theorem Try.cells5 : Try.prog.cellsOf 5 = 1 := by kernel_rfl

theorem addr_of_cell {w : World} {x : Addr} {v : Value} (h : w.cell? (x.add 0) = some v) : x = ⟨x.block, x.off, none⟩ := by
  have := World.cell?_spot h
  simp [Addr.add] at this
  cases x; simp_all

/-- A slice of length l at address x, its n cells V as they lie. -/
theorem arg_of_cells {W : World} {x : Addr} {l c n : Nat} {V : Nat → Value} (hn : 0 < l → 0 < n) (h : ∀ i, i < n → W.cell? (x.add i) = some (V i)) : Arg W (.slice (some x) l c) false l n V := by
  refine ⟨some x, x.block, x.off, c, rfl, rfl, fun hl => ?_, fun i hi => ?_⟩
  · rw [← addr_of_cell (h 0 (hn hl))]
  · have hx := addr_of_cell (h 0 (by omega))
    have := h i hi
    rw [hx, add_plain] at this
    exact this
theorem arg_nil {W : World} {V : Nat → Value} : Arg W (.slice none 0 0) true 0 0 V := ⟨none, 0, 0, 0, rfl, rfl, fun h => absurd h (by omega), fun i hi => absurd hi (by omega)⟩

section
variable {H : Type} {enc : TypeId × Value → H} {W : World} {v : Value} {fuel : Nat} {x : DataW H × List MemPlace}

theorem open_strs (h : DataW.trod enc Try.prog W 0 (fun _ => true) true fuel 28 [v] = some x) :
    ∃ q : Bool × Nat × (Nat → ByteArray), Arg W v q.1 q.2.1 q.2.1 (fun i => .string (q.2.2 i)) ∧ (q.1 = true → q.2.1 = 0) := by
  rcases open_strings Try.underlying28 Try.underlying9 Try.cells9 h with ⟨hcs, _⟩ | ⟨a, l, c, zs, hcs, _, hl, hm, hz, _, hcell, hwz⟩
  · obtain rfl : v = .slice none 0 0 := by simpa using hcs
    exact ⟨(true, 0, fun _ => ByteArray.empty), arg_nil, fun _ => rfl⟩
  · obtain rfl : v = .slice (some a) l c := by simpa using hcs
    simp only [if_true] at hz
    exact ⟨(false, l, fun i => zs.getD i ByteArray.empty), arg_of_cells (fun h => h) (fun i (hi : i < l) => hcell i (by omega)), fun h => by cases h⟩

theorem open_bytes (h : DataW.trod enc Try.prog W 0 (fun _ => true) true fuel 25 [v] = some x) :
    ∃ q : Bool × Nat × (Nat → Int), Arg W v q.1 q.2.1 q.2.1 (fun i => .int .u8 (q.2.2 i)) ∧ (q.1 = true → q.2.1 = 0) := by
  rcases open_ints Try.underlying25 Try.underlying5 Try.cells5 h with ⟨hcs, _⟩ | ⟨a, l, c, zs, hcs, _, hl, hm, hz, _, hcell, hwz⟩
  · obtain rfl : v = .slice none 0 0 := by simpa using hcs
    exact ⟨(true, 0, fun _ => 0), arg_nil, fun _ => rfl⟩
  · obtain rfl : v = .slice (some a) l c := by simpa using hcs
    simp only [if_true] at hz
    exact ⟨(false, l, fun i => zs.getD i 0), arg_of_cells (fun h => h) (fun i (hi : i < l) => hcell i (by omega)), fun h => by cases h⟩

def strV : Value → ByteArray
  | .string s => s
  | _ => ByteArray.empty

theorem open_nodes (h : DataW.trod enc Try.prog W 0 (fun _ => true) true fuel 30 [v] = some x) :
    ∃ (z : Bool) (l : Nat) (A B : Nat → ByteArray), Arg W v z l (l * 2) (nodV A B) ∧ (z = true → l = 0) := by
  rcases Go.Deep.open_slice_pairs Try.underlying30 Try.underlying53 Try.cells53 rfl rfl Try.cells9 Try.cells9 h with ⟨hcs, _⟩ | ⟨a, l, c, m, n, V0, V1, D0, D1, P0, P1, hcs, _, hl, hm, hmm, _, hcell⟩
  · obtain rfl : v = .slice none 0 0 := by simpa using hcs
    exact ⟨true, 0, fun _ => ByteArray.empty, fun _ => ByteArray.empty, arg_nil, fun _ => rfl⟩
  · obtain rfl : v = .slice (some a) l c := by simpa using hcs
    simp only [if_true] at hmm
    refine ⟨false, l, fun i => strV (V0 i), fun i => strV (V1 i), arg_of_cells (by omega) (fun i hi => ?_), fun h => by cases h⟩
    obtain ⟨c0, c1, t0, t1⟩ := hcell (i / 2) (by omega)
    obtain ⟨s0, e0, _⟩ := DataW.trod_string Try.underlying9 t0
    obtain ⟨s1, e1, _⟩ := DataW.trod_string Try.underlying9 t1
    have e0' : V0 (i / 2) = .string s0 := by simpa using e0
    have e1' : V1 (i / 2) = .string s1 := by simpa using e1
    unfold nodV
    split
    · rw [e0', show i / 2 * 2 = i by omega] at c0
      dsimp only
      rw [e0']
      exact c0
    · rw [e1', show i / 2 * 2 + 1 = i by omega] at c1
      dsimp only
      rw [e1']
      exact c1

theorem open_svcs (h : DataW.trod enc Try.prog W 0 (fun _ => true) true fuel 29 [v] = some x) :
    ∃ (z : Bool) (l : Nat) (N : Nat → ByteArray) (dv : Nat → Value) (q : Nat → Bool × Nat × (Nat → ByteArray)), Arg W v z l (l * 2) (svcV N dv) ∧ (z = true → l = 0) ∧
      ∀ k, k < l → Arg W (dv k) (q k).1 (q k).2.1 (q k).2.1 (fun i => .string ((q k).2.2 i)) ∧ ((q k).1 = true → (q k).2.1 = 0) := by
  rcases Go.Deep.open_slice_pairs Try.underlying29 Try.underlying51 Try.cells51 rfl rfl Try.cells9 Try.cells28 h with ⟨hcs, _⟩ | ⟨a, l, c, m, n, V0, V1, D0, D1, P0, P1, hcs, _, hl, hm, hmm, _, hcell⟩
  · obtain rfl : v = .slice none 0 0 := by simpa using hcs
    exact ⟨true, 0, fun _ => ByteArray.empty, fun _ => undef, fun _ => (true, 0, fun _ => ByteArray.empty), arg_nil, fun _ => rfl, fun k hk => absurd hk (by omega)⟩
  · obtain rfl : v = .slice (some a) l c := by simpa using hcs
    simp only [if_true] at hmm
    obtain ⟨q, hq⟩ := Go.Deep.choose_lt (n := l) (p := fun k (q : Bool × Nat × (Nat → ByteArray)) => Arg W (V1 k) q.1 q.2.1 q.2.1 (fun i => .string (q.2.2 i)) ∧ (q.1 = true → q.2.1 = 0)) (fun k hk => open_strs (hcell k (by omega)).2.2.2)
    refine ⟨false, l, fun i => strV (V0 i), V1, q, arg_of_cells (by omega) (fun i hi => ?_), (fun h => by cases h), hq⟩
    obtain ⟨c0, c1, t0, t1⟩ := hcell (i / 2) (by omega)
    obtain ⟨s0, e0, _⟩ := DataW.trod_string Try.underlying9 t0
    have e0' : V0 (i / 2) = .string s0 := by simpa using e0
    unfold svcV
    split
    · rw [e0', show i / 2 * 2 = i by omega] at c0
      dsimp only
      rw [e0']
      exact c0
    · rw [show i / 2 * 2 + 1 = i by omega] at c1
      exact c1

end

theorem wf_i64 {x : Int} (h : (Lit.int .i64 x).wf = true) : -9223372036854775808 ≤ x ∧ x ≤ 9223372036854775807 := by
  simp [Lit.wf, IntKind.min, IntKind.max, IntKind.signed, IntKind.bits] at h
  exact h

theorem open_tok {H : Type} {enc : TypeId × Value → H} {W : World} {r : Reach} {b0 : Nat} {v : Value} {dd : DataW H} {ps : List MemPlace} (hval : Value.okWide Try.prog W r b0 33 v) (h : DataW.Trod enc Try.prog W 0 (fun _ => true) true 33 v dd ps) :
    ∃ (d : TD) (pv rv sv nv hv : Value) (dv : Nat → Value), v = .agg (fC d pv rv sv nv hv) ∧ FArg W d pv rv sv nv hv dv ∧ NilOk d ∧ (-9223372036854775808 ≤ d.ct ∧ d.ct ≤ 9223372036854775807 ∧ -9223372036854775808 ≤ d.et ∧ d.et ≤ 9223372036854775807) ∧ (d.sz = true → d.sl = 0) ∧ (d.nz = true → d.nl = 0) := by
  obtain ⟨cs, rfl, hsz⟩ := okWide_struct Try.underlying33 hval
  obtain ⟨fuel, hf⟩ := h
  obtain ⟨xs, n, _, _, hl, hxl, hfs⟩ := DataW.trod_struct Try.underlying33 hf
  rw [Try.cells33] at hsz hl
  obtain ⟨L⟩ := cs
  match L, hsz with
  | [c0, c1, c2, c3, c4, c5, c6, c7, c8, c9, c10, c11, c12], _ =>
  match xs, hxl with
  | [y0, y1, y2, y3, y4, y5, y6, y7, y8, y9, y10, y11, y12], _ =>
  have g0 := hfs 0 _ rfl
  have g1 := hfs 1 _ rfl
  have g2 := hfs 2 _ rfl
  have g3 := hfs 3 _ rfl
  have g4 := hfs 4 _ rfl
  have g5 := hfs 5 _ rfl
  have g6 := hfs 6 _ rfl
  have g7 := hfs 7 _ rfl
  have g8 := hfs 8 _ rfl
  have g9 := hfs 9 _ rfl
  have g10 := hfs 10 _ rfl
  have g11 := hfs 11 _ rfl
  have g12 := hfs 12 _ rfl
  clear hfs hf
  simp [Value.cells, Try.cells9, Try.cells28, Try.cells29, Try.cells30, Try.cells4, Try.cells2, Try.cells25, Try.cells31] at g0 g1 g2 g3 g4 g5 g6 g7 g8 g9 g10 g11 g12
  obtain ⟨a0, e0, _⟩ := DataW.trod_string Try.underlying9 g0
  obtain ⟨a1, e1, _⟩ := DataW.trod_string Try.underlying9 g1
  obtain ⟨a2, e2, _⟩ := DataW.trod_string Try.underlying9 g2
  obtain ⟨q3, h3, z3⟩ := open_strs g3
  obtain ⟨q4, h4, z4⟩ := open_strs g4
  obtain ⟨z5, l5, N5, dv, q5, h5, hz5, hd5⟩ := open_svcs g5
  obtain ⟨z6, l6, A6, B6, h6, hz6⟩ := open_nodes g6
  obtain ⟨a7, e7, _⟩ := DataW.trod_bool Try.underlying4 g7
  obtain ⟨a8, e8, _, w8⟩ := DataW.trod_int Try.underlying2 g8
  obtain ⟨a9, e9, _, w9⟩ := DataW.trod_int Try.underlying2 g9
  obtain ⟨q10, h10, z10⟩ := open_bytes g10
  obtain ⟨a11, e11, _⟩ := DataW.trod_int Try.underlying31 g11
  obtain ⟨a12, e12, _⟩ := DataW.trod_int Try.underlying31 g12
  simp only [List.cons.injEq, and_true] at e0 e1 e2 e7 e8 e9 e11 e12
  subst e0 e1 e2 e7 e8 e9 e11 e12
  have b8 := wf_i64 w8
  have b9 := wf_i64 w9
  refine ⟨{ acc := a0, sec := a1, desc := a2, pz := q3.1, pl := q3.2.1, pN := q3.2.2, rz := q4.1, rl := q4.2.1, rN := q4.2.2, sz := z5, sl := l5, sN := N5, dz := (fun k => (q5 k).1), dl := (fun k => (q5 k).2.1), dN := (fun k => (q5 k).2.2), nz := z6, nl := l6, nA := A6, nB := B6, loc := a7, ct := a8, et := a9, hz := q10.1, hl := q10.2.1, hN := q10.2.2, ci := a11, mi := a12 }, c3, c4, c5, c6, c10, dv, rfl, ⟨h3, h4, h10, h5, fun k hk => (hd5 k hk).1, h6⟩, ⟨z3, z4, z10, fun k hk => (hd5 k hk).2⟩, ⟨b8.1, b8.2, b9.1, b9.2⟩, hz5, hz6⟩
end Go.Proofs.Qxb6609019a
