import Derived.Test.Qxb6609019aTokE
import Derived.Test.Qxb6609019aTokF
import Derived.Test.Qxb6609019aTokH
import Derived.Test.Qxb6609019aTokO
namespace Go.Proofs.Qxb6609019a
open Go.RowKit

theorem Arg.congr {w : World} {v : Value} {z : Bool} {l n : Nat} {V U : Nat → Value} (h : Arg w v z l n V) (e : ∀ i, i < n → V i = U i) : Arg w v z l n U := by
  obtain ⟨a, b, o, c, h1, h2, h3, h4⟩ := h
  exact ⟨a, b, o, c, h1, h2, h3, fun i hi => by rw [h4 i hi, e i hi]⟩

section
variable {w w' : World} {P P' : Nat → Nat → Prop} {d : TD} {sz nz : Bool} {pv rv sv nv hv : Value} {dv : Nat → Value}
theorem TSlot.mono (h : TSlot w P d sz nz pv rv sv nv hv dv) (hp : ∀ j b, b < w.heap.size → P j b → P' j b ∧ w'.heap[b]? = w.heap[b]?) : TSlot w' P' d sz nz pv rv sv nv hv dv :=
  ⟨h.p.mono (hp 0), h.r.mono (hp 1), h.h.mono (hp 2), h.s.mono (hp 3), h.n.mono (hp 4), fun k hk => (h.ds k hk).mono (hp (5 + k))⟩
theorem TSlot.below (h : TSlot w P d sz nz pv rv sv nv hv dv) (hb : Below w.heap.size w w') : TSlot w' P d sz nz pv rv sv nv hv dv :=
  h.mono fun _ b h1 h2 => ⟨h2, hb.block b h1⟩

theorem TSlot.arg (h : TSlot w P d sz nz pv rv sv nv hv dv) : TArg w false d sz nz pv rv sv nv hv dv :=
  ⟨h.p.arg (fun h => h), h.r.arg (fun h => h), h.h.arg (fun h => h), h.s.arg (fun h => by omega), fun k hk => (h.ds k hk).arg (fun h => h), h.n.arg (fun h => by omega)⟩

theorem TSlot.argM (h : TSlot w P (mutD d) sz nz pv rv sv nv hv dv) : TArg w true d sz nz pv rv sv nv hv dv := by
  refine ⟨(h.p.arg (fun h => h)).congr fun i hi => ?_, (h.r.arg (fun h => h)).congr fun i hi => ?_, (h.h.arg (fun h => h)).congr fun i hi => ?_, (h.s.arg (fun h => by omega)).congr fun i hi => ?_, fun k hk => ((h.ds k hk).arg (fun h => h)).congr fun i hi => ?_, (h.n.arg (fun h => by omega)).congr fun i hi => ?_⟩
  · show Value.string (upTo d.pl (hsh d.pN) d.pN i) = _
    rw [upTo_in _ _ (show i < d.pl from hi)]; rfl
  · show Value.string (upTo d.rl (hsh d.rN) d.rN i) = _
    rw [upTo_in _ _ (show i < d.rl from hi)]; rfl
  · show Value.int .u8 (upTo d.hl (flp d.hN) d.hN i) = _
    rw [upTo_in _ _ (show i < d.hl from hi)]; rfl
  · show svcV (upTo d.sl (hsh d.sN) d.sN) dv i = _
    have hi' : i < d.sl * 2 := hi
    unfold svcV
    rw [upTo_in _ _ (show i / 2 < d.sl by omega)]; rfl
  · show Value.string (dUp d.dl d.sl 0 (hsh2 d.dN) d.dN k i) = _
    rw [dUp_in d.dl _ _ hk hi]; rfl
  · show nodV (upTo d.nl (hsh d.nA) d.nA) (upTo d.nl (hsh d.nB) d.nB) i = _
    have hi' : i < d.nl * 2 := hi
    unfold nodV
    rw [upTo_in _ _ (show i / 2 < d.nl by omega), upTo_in _ _ (show i / 2 < d.nl by omega)]; rfl
end

theorem mutD_ln {d : TD} (h : Ln d) : Ln (mutD d) := ⟨h.pl, h.rl, h.sl, h.dl, h.nl, h.hl⟩
theorem mutD_nil {d : TD} (h : NilOk d) : NilOk (mutD d) := ⟨h.p, h.r, h.h, h.ds⟩

theorem below_fr {B : Nat} {W w w' : World} {P : Nat → Nat → Prop} (h : Below B W w) (f : Fr P w w') (hp : ∀ j b, P j b → B ≤ b) : Below B W w' :=
  ⟨f.os.trans h.os, f.tape.trans h.tape, f.output.trans h.output, by rw [f.size]; exact h.size, fun k hk => (f.block k (fun j hj => by have := hp j k hj; omega)).trans (h.block k hk)⟩

/-- The law's argument, boxed. -/
structure LS (w : World) (F : Array Value) (wx : World) : Prop where
  be : Below w.heap.size w wx
  box : wx.heap[w.heap.size]? = some (.cells F 33 (0, 0))
theorem LS.call {w wx w' : World} {F : Array Value} (h : LS w F wx) (hb : Below wx.heap.size wx w') : LS w F w' :=
  ⟨h.be.trans (hb.mono h.be.size), (hb.block _ (lt_of_block h.box)).trans h.box⟩
theorem LS.lt {w wx : World} {F : Array Value} (h : LS w F wx) : w.heap.size < wx.heap.size := lt_of_block h.box
theorem LS.fr {w wx w' : World} {F : Array Value} {P : Nat → Nat → Prop} (h : LS w F wx) (f : Fr P wx w') (hp : ∀ j b, P j b → w.heap.size < b) : LS w F w' :=
  ⟨below_fr h.be f (fun j b hj => Nat.le_of_lt (hp j b hj)), (f.block _ (fun j hj => by have := hp j _ hj; omega)).trans h.box⟩

theorem Try.size33 (cs : Array Value) (h : cs.size = 13) : (Try.prog.info? 33).map (·.size) = some cs.size := by rw [h]; kernel_rfl

/-- A row is loaded by an operation whose guard has come up as it wants. -/
theorem wpList_load_row_w {P : Program} {ops : Array Oper} {rest : List Oper} {o : Oper} {a : Act} {w : World} {Q : Exit → Act → World → Prop} (hw : Region.wanted o (yielded ops a.tmps) = true) (ty : TypeId) (x : Operand) (ho : o.op = .load ty x)
    (g : Nat) (hx : a.eval x = .pointer (some ⟨g, 0, none⟩)) (t : TypeId) (cs : Array Value) (fr : Nat × Nat) (d : TypeDesc) (hg : w.heap[g]? = some (.cells cs t fr))
    (hu : P.underlying ty = some d) (hd : (match d with | .struct _ | .array _ _ => true | _ => false) = true) (hi : (P.info? ty).map (·.size) = some cs.size)
    (h : wpList P ops Q rest (a.put o.dst (.agg cs)) w) : wpList P ops Q (o :: rest) a w :=
  wpList_step fun _ hK => by rw [if_pos hw]; exact wp_load_row ty x ho g hx t cs fr d hg hu hd hi (hK _ _ h)

/-- A block laid and stored into. -/
theorem laid {w w' : World} {o : Obj} (hb : Below w.heap.size (w.alloc o) w') : Below w.heap.size w w' :=
  ((Below.refl _ _).alloc (Nat.le_refl _) _).trans hb

end Go.Proofs.Qxb6609019a
