import Derived.Test.Qxb6609019aTokD
namespace Go.Proofs.Qxb6609019a
open Go.RowKit

/-- The token's cells. -/
def tC (d : TD) (pv rv sv nv hv : Value) : Array Value :=
  #[.string d.acc, .string d.sec, .string d.desc, pv, rv, sv, nv, .bool d.loc, .int .u64 (d.ct % 1000000000), .int .i64 (d.ct / 1000000000), .pointer none,
    .int .u64 (d.et % 1000000000), .int .i64 (d.et / 1000000000), .pointer none, hv, .int .u64 d.ci, .int .u64 d.mi]

/-- The slices of a token: each at blocks of its own. -/
structure TSlot (w : World) (P : Nat → Nat → Prop) (d : TD) (sz nz : Bool) (pv rv sv nv hv : Value) (dv : Nat → Value) : Prop where
  p : Slot w (P 0) pv d.pz d.pl d.pl (fun i => .string (d.pN i))
  r : Slot w (P 1) rv d.rz d.rl d.rl (fun i => .string (d.rN i))
  h : Slot w (P 2) hv d.hz d.hl d.hl (fun i => .int .u8 (d.hN i))
  s : Slot w (P 3) sv sz d.sl (d.sl * 2) (svcV d.sN dv)
  n : Slot w (P 4) nv nz d.nl (d.nl * 2) (nodV d.nA d.nB)
  ds : ∀ k, k < d.sl → Slot w (P (5 + k)) (dv k) (d.dz k) (d.dl k) (d.dl k) (fun i => .string (d.dN k i))

/-- Only blocks of P are written. -/
structure Fr (P : Nat → Nat → Prop) (w w' : World) : Prop where
  os : w'.os = w.os
  tape : w'.tape = w.tape
  output : w'.output = w.output
  size : w'.heap.size = w.heap.size
  block : ∀ b, (∀ j, ¬ P j b) → w'.heap[b]? = w.heap[b]?

theorem Fr.refl (P : Nat → Nat → Prop) (w : World) : Fr P w w := ⟨rfl, rfl, rfl, rfl, fun _ _ => rfl⟩
theorem Fr.trans {P : Nat → Nat → Prop} {a b c : World} (h : Fr P a b) (k : Fr P b c) : Fr P a c :=
  ⟨k.os.trans h.os, k.tape.trans h.tape, k.output.trans h.output, k.size.trans h.size, fun i hi => (k.block i hi).trans (h.block i hi)⟩
theorem Fr.set {P : Nat → Nat → Prop} {a w : World} (h : Fr P a w) {j b : Nat} (hb : P j b) (k : Nat) (x : Value) : Fr P a (w.setCell ⟨b, k, none⟩ x) :=
  ⟨h.os, h.tape, h.output, by rw [← h.size]; simp [World.setCell], fun i hi => (setCell_block w b k x i (fun e => hi j (e ▸ hb))).trans (h.block i hi)⟩
theorem Fr.drew {P : Nat → Nat → Prop} {a w : World} (h : Fr P a w) : Fr P a w.drew := ⟨h.os, h.tape, h.output, h.size, h.block⟩

theorem Slot.other {w : World} {P : Nat → Nat → Prop} {i j b k : Nat} {x v : Value} {z : Bool} {l n : Nat} {V : Nat → Value} (h : Slot w (P j) v z l n V) (hsep : ∀ i j b, P i b → P j b → i = j) (hb : P i b) (hij : i ≠ j) :
    Slot (w.setCell ⟨b, k, none⟩ x) (P j) v z l n V :=
  h.mono fun b' _ hb' => ⟨hb', setCell_block w b k x b' (fun e => hij (hsep i j b' (e ▸ hb) hb'))⟩

theorem Slot.upd {w : World} {Q : Nat → Prop} {b k c : Nat} {x : Value} {z : Bool} {l n : Nat} {V U : Nat → Value} (h : Slot w Q (.slice (some ⟨b, 0, none⟩) l c) z l n V) (hU : ∀ i, i < n → U i = if i = k then x else V i) :
    Slot (w.setCell ⟨b, k, none⟩ x) Q (.slice (some ⟨b, 0, none⟩) l c) z l n U := by
  obtain ⟨a, b', c', hv, hz, h⟩ := h
  simp only [Value.slice.injEq] at hv
  obtain ⟨rfl, _, rfl⟩ := hv
  refine ⟨_, b', _, rfl, hz, fun hl => ?_⟩
  obtain ⟨h1, h2, h3⟩ := h hl
  simp only [Option.some.injEq, Addr.mk.injEq, and_true] at h1
  subst h1
  exact ⟨rfl, h2, (h3.set k x).congr (fun i hi => (hU i hi).symm)⟩

section
variable {w : World} {P : Nat → Nat → Prop} {d : TD} {sz nz : Bool} {pv rv sv nv hv : Value} {dv : Nat → Value} {b c : Nat}
theorem TSlot.setP (hsep : ∀ i j b, P i b → P j b → i = j) (h : TSlot w P d sz nz (.slice (some ⟨b, 0, none⟩) d.pl c) rv sv nv hv dv) (hb : P 0 b) (k : Nat) (x : ByteArray) :
    TSlot (w.setCell ⟨b, k, none⟩ (.string x)) P { d with pN := fun i => if i = k then x else d.pN i } sz nz (.slice (some ⟨b, 0, none⟩) d.pl c) rv sv nv hv dv :=
  ⟨h.p.upd (fun i _ => by dsimp only; split <;> rfl), h.r.other hsep hb (by omega), h.h.other hsep hb (by omega), h.s.other hsep hb (by omega), h.n.other hsep hb (by omega), fun j hj => (h.ds j hj).other hsep hb (by omega)⟩
theorem TSlot.setR (hsep : ∀ i j b, P i b → P j b → i = j) (h : TSlot w P d sz nz pv (.slice (some ⟨b, 0, none⟩) d.rl c) sv nv hv dv) (hb : P 1 b) (k : Nat) (x : ByteArray) :
    TSlot (w.setCell ⟨b, k, none⟩ (.string x)) P { d with rN := fun i => if i = k then x else d.rN i } sz nz pv (.slice (some ⟨b, 0, none⟩) d.rl c) sv nv hv dv :=
  ⟨h.p.other hsep hb (by omega), h.r.upd (fun i _ => by dsimp only; split <;> rfl), h.h.other hsep hb (by omega), h.s.other hsep hb (by omega), h.n.other hsep hb (by omega), fun j hj => (h.ds j hj).other hsep hb (by omega)⟩
theorem TSlot.setH (hsep : ∀ i j b, P i b → P j b → i = j) (h : TSlot w P d sz nz pv rv sv nv (.slice (some ⟨b, 0, none⟩) d.hl c) dv) (hb : P 2 b) (k : Nat) (x : Int) :
    TSlot (w.setCell ⟨b, k, none⟩ (.int .u8 x)) P { d with hN := fun i => if i = k then x else d.hN i } sz nz pv rv sv nv (.slice (some ⟨b, 0, none⟩) d.hl c) dv :=
  ⟨h.p.other hsep hb (by omega), h.r.other hsep hb (by omega), h.h.upd (fun i _ => by dsimp only; split <;> rfl), h.s.other hsep hb (by omega), h.n.other hsep hb (by omega), fun j hj => (h.ds j hj).other hsep hb (by omega)⟩
theorem TSlot.setS (hsep : ∀ i j b, P i b → P j b → i = j) (h : TSlot w P d sz nz pv rv (.slice (some ⟨b, 0, none⟩) d.sl c) nv hv dv) (hb : P 3 b) (k : Nat) (x : ByteArray) :
    TSlot (w.setCell ⟨b, k * 2, none⟩ (.string x)) P { d with sN := fun i => if i = k then x else d.sN i } sz nz pv rv (.slice (some ⟨b, 0, none⟩) d.sl c) nv hv dv :=
  ⟨h.p.other hsep hb (by omega), h.r.other hsep hb (by omega), h.h.other hsep hb (by omega), h.s.upd (fun i _ => by
    unfold svcV
    dsimp only
    by_cases e : i = k * 2
    · subst e; rw [if_pos (by omega), if_pos rfl, show k * 2 / 2 = k by omega, if_pos rfl]
    · rw [if_neg e]
      by_cases e2 : i % 2 = 0
      · rw [if_pos e2, if_pos e2, if_neg (by omega)]
      · rw [if_neg e2, if_neg e2]), h.n.other hsep hb (by omega), fun j hj => (h.ds j hj).other hsep hb (by omega)⟩
theorem TSlot.setNA (hsep : ∀ i j b, P i b → P j b → i = j) (h : TSlot w P d sz nz pv rv sv (.slice (some ⟨b, 0, none⟩) d.nl c) hv dv) (hb : P 4 b) (k : Nat) (x : ByteArray) :
    TSlot (w.setCell ⟨b, k * 2, none⟩ (.string x)) P { d with nA := fun i => if i = k then x else d.nA i } sz nz pv rv sv (.slice (some ⟨b, 0, none⟩) d.nl c) hv dv :=
  ⟨h.p.other hsep hb (by omega), h.r.other hsep hb (by omega), h.h.other hsep hb (by omega), h.s.other hsep hb (by omega), h.n.upd (fun i _ => by
    unfold nodV
    dsimp only
    by_cases e : i = k * 2
    · subst e; rw [if_pos (by omega), if_pos rfl, show k * 2 / 2 = k by omega, if_pos rfl]
    · rw [if_neg e]
      by_cases e2 : i % 2 = 0
      · rw [if_pos e2, if_pos e2, if_neg (by omega)]
      · rw [if_neg e2, if_neg e2]), fun j hj => (h.ds j hj).other hsep hb (by omega)⟩
theorem TSlot.setNB (hsep : ∀ i j b, P i b → P j b → i = j) (h : TSlot w P d sz nz pv rv sv (.slice (some ⟨b, 0, none⟩) d.nl c) hv dv) (hb : P 4 b) (k : Nat) (x : ByteArray) :
    TSlot (w.setCell ⟨b, k * 2 + 1, none⟩ (.string x)) P { d with nB := fun i => if i = k then x else d.nB i } sz nz pv rv sv (.slice (some ⟨b, 0, none⟩) d.nl c) hv dv :=
  ⟨h.p.other hsep hb (by omega), h.r.other hsep hb (by omega), h.h.other hsep hb (by omega), h.s.other hsep hb (by omega), h.n.upd (fun i _ => by
    unfold nodV
    dsimp only
    by_cases e : i = k * 2 + 1
    · subst e; rw [if_neg (by omega), if_pos rfl, show (k * 2 + 1) / 2 = k by omega, if_pos rfl]
    · rw [if_neg e]
      by_cases e2 : i % 2 = 0
      · rw [if_pos e2, if_pos e2]
      · rw [if_neg e2, if_neg e2, if_neg (by omega)]), fun j hj => (h.ds j hj).other hsep hb (by omega)⟩
theorem TSlot.setD (hsep : ∀ i j b, P i b → P j b → i = j) (h : TSlot w P d sz nz pv rv sv nv hv dv) (q : Nat) (hq : dv q = .slice (some ⟨b, 0, none⟩) (d.dl q) c) (hb : P (5 + q) b) (k : Nat) (x : ByteArray) :
    TSlot (w.setCell ⟨b, k, none⟩ (.string x)) P { d with dN := fun i j => if i = q ∧ j = k then x else d.dN i j } sz nz pv rv sv nv hv dv :=
  ⟨h.p.other hsep hb (by omega), h.r.other hsep hb (by omega), h.h.other hsep hb (by omega), h.s.other hsep hb (by omega), h.n.other hsep hb (by omega), fun j hj => by
    by_cases e : j = q
    · subst e
      have := h.ds j hj
      dsimp only
      rw [hq] at this ⊢
      exact this.upd (fun i _ => by
        by_cases e : i = k
        · rw [if_pos e, if_pos ⟨rfl, e⟩]
        · rw [if_neg e, if_neg (fun h => e h.2)])
    · have := (h.ds j hj).other (i := 5 + q) (k := k) (x := .string x) hsep hb (by omega)
      have e2 : (fun i => Value.string (if j = q ∧ i = k then x else d.dN j i)) = fun i => .string (d.dN j i) := by
        funext i; rw [if_neg (fun h => e h.1)]
      dsimp only
      rw [e2]
      exact this⟩
end

/-- The first k are M's, the rest N's. -/
def upTo {α : Type} (k : Nat) (M N : Nat → α) (i : Nat) : α := if i < k then M i else N i
theorem upTo_zero {α : Type} (M N : Nat → α) : upTo 0 M N = N := by
  funext i; unfold upTo; rw [if_neg (by omega)]
theorem upTo_step {α : Type} (k : Nat) (M N : Nat → α) : (fun i => if i = k then M k else upTo k M N i) = upTo (k + 1) M N := by
  funext i; unfold upTo
  by_cases e : i = k
  · subst e; rw [if_pos rfl, if_pos (by omega)]
  · rw [if_neg e]
    by_cases e2 : i < k
    · rw [if_pos e2, if_pos (by omega)]
    · rw [if_neg e2, if_neg (by omega)]
theorem upTo_at {α : Type} (k : Nat) (M N : Nat → α) : upTo k M N k = N k := by unfold upTo; rw [if_neg (by omega)]
theorem upTo_in {α : Type} {k i : Nat} (M N : Nat → α) (h : i < k) : upTo k M N i = M i := by unfold upTo; rw [if_pos h]

/-- The datacenters while the q-th service's first k are done. -/
def dUp (dl : Nat → Nat) (q k : Nat) (M N : Nat → Nat → ByteArray) (i : Nat) : Nat → ByteArray := upTo (if i < q then dl i else if i = q then k else 0) (M i) (N i)
theorem dUp_zero (dl : Nat → Nat) (M N : Nat → Nat → ByteArray) : dUp dl 0 0 M N = N := by
  funext i; unfold dUp
  rw [if_neg (by omega)]
  split <;> exact upTo_zero _ _
theorem dUp_step (dl : Nat → Nat) (q k : Nat) (M N : Nat → Nat → ByteArray) : (fun i j => if i = q ∧ j = k then M q k else dUp dl q k M N i j) = dUp dl q (k + 1) M N := by
  funext i j; unfold dUp
  by_cases e : i = q
  · subst e
    simp only [Nat.lt_irrefl, if_false, if_true, true_and]
    exact congrFun (upTo_step k (M i) (N i)) j
  · rw [if_neg (fun h => e h.1), if_neg e, if_neg e]
theorem dUp_next (dl : Nat → Nat) (q : Nat) (M N : Nat → Nat → ByteArray) : dUp dl q (dl q) M N = dUp dl (q + 1) 0 M N := by
  funext i; unfold dUp
  by_cases e : i = q
  · subst e; rw [if_neg (by omega), if_pos rfl, if_pos (by omega)]
  · by_cases e2 : i < q
    · rw [if_pos e2, if_pos (by omega)]
    · rw [if_neg e2, if_neg e, if_neg (by omega)]; split <;> rfl
theorem dUp_at (dl : Nat → Nat) (q k : Nat) (M N : Nat → Nat → ByteArray) : dUp dl q k M N q k = N q k := by
  unfold dUp; rw [if_neg (by omega), if_pos rfl]; exact upTo_at _ _ _
theorem dUp_in (dl : Nat → Nat) {q i j : Nat} (M N : Nat → Nat → ByteArray) (h : i < q) (hj : j < dl i) : dUp dl q 0 M N i j = M i j := by
  unfold dUp; rw [if_pos h]; exact upTo_in _ _ hj

def hsh (N : Nat → ByteArray) (i : Nat) : ByteArray := N i ++ ⟨#[35]⟩
def hsh2 (N : Nat → Nat → ByteArray) (i j : Nat) : ByteArray := N i j ++ ⟨#[35]⟩
def flp (N : Nat → Int) (i : Nat) : Int := bits .xor .u8 (N i) 255

/-- The data in the midst of the mutation. -/
def mutAt (p r h s q k n : Nat) (d : TD) : TD := { d with
  pN := upTo p (hsh d.pN) d.pN, rN := upTo r (hsh d.rN) d.rN, hN := upTo h (flp d.hN) d.hN, sN := upTo s (hsh d.sN) d.sN,
  dN := dUp d.dl q k (hsh2 d.dN) d.dN, nA := upTo n (hsh d.nA) d.nA, nB := upTo n (hsh d.nB) d.nB }
theorem mutAt_zero (d : TD) : mutAt 0 0 0 0 0 0 0 d = d := by
  unfold mutAt; simp only [upTo_zero, dUp_zero]
/-- The data behind the mutation. -/
def mutD (d : TD) : TD := mutAt d.pl d.rl d.hl d.sl d.sl 0 d.nl d
end Go.Proofs.Qxb6609019a
