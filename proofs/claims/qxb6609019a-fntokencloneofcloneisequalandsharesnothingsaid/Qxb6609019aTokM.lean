import Derived.Test.Qxb6609019aTokL
namespace Go.Proofs.Qxb6609019a
open Go.RowKit

theorem zclone_any (d : TD) (sz nz : Bool) (pv rv sv nv hv : Value) (dv : Nat → Value) (tb : Nat) (w : World) (hd : Ln d) (hN : NilOk d)
    (hT : w.heap[tb]? = some (.cells (tC d pv rv sv nv hv) 45 (0, 0))) (hA : TArg w false d sz nz pv rv sv nv hv dv) :
    Calls Try.prog 15 #[.pointer (some ⟨tb, 0, none⟩)] w fun e w' => ∃ (pv' rv' sv' nv' hv' : Value) (dv' : Nat → Value) (tg : Nat → Nat), e = .returned (.agg (tC d pv' rv' sv' nv' hv')) ∧ Below w.heap.size w w' ∧
      TSlot w' (fun j b => w.heap.size ≤ b ∧ b < w'.heap.size ∧ tg b = j) d false false pv' rv' sv' nv' hv' dv' := by
  have htl := lt_of_block hT
  have HBz : Hid (Below w.heap.size w (w.alloc (.cells zT 45))) := (Below.refl _ _).alloc (Nat.le_refl _) _
  have HT : Hid ((w.alloc (.cells zT 45)).heap[tb]? = some (.cells (tC d pv rv sv nv hv) 45 (0, 0))) := (Below.heap_alloc w _ tb htl).trans hT
  have HA : Hid (TArg (w.alloc (.cells zT 45)) false d sz nz pv rv sv nv hv dv) := hA.below HBz.out (Nat.le_refl _)
  clear hT hA
  go_enter Try.func15, Try.ntmps15
  go_wp2_with fail
  refine (clone_any d sz nz pv rv sv nv hv dv tb (w.alloc (.cells zT 45)) hd hN HT.out HA.out).mono ?_
  rintro _ w2 ⟨pv', rv', sv', nv', hv', dv', tg, rfl, hB, hS⟩
  have ht0 : w2.heap[w.heap.size]? = some (.cells zT 45 (0, 0)) := (hB.block _ (by simp)).trans (Go.Deep.blk_alloc_new _ _)
  have HB : Hid (Below w.heap.size w w2) := HBz.out.trans (hB.mono (by simp))
  have hsz : (w.alloc (.cells zT 45)).heap.size = w.heap.size + 1 := by simp
  rw [hsz] at hS
  have HS : Hid (TSlot w2 (fun j b => w.heap.size + 1 ≤ b ∧ b < w2.heap.size ∧ tg b = j) d false false pv' rv' sv' nv' hv' dv') := hS
  clear hB hS hsz
  go_wp2_with (refine wpList_store_abs (by rfl) 45 (.tmp 2) (.tmp 4) (by rfl) w.heap.size (tC d pv' rv' sv' nv' hv') (by rfl) (by rfl) 45 zT ht0 (Try.size45 _ rfl) rfl (tC_one _ _ _ _ _ _ HS.out.p.one HS.out.r.one HS.out.s.one HS.out.n.one HS.out.h.one) ?next2)
  intro w6 hB6 hb6 hs6 ho6
  have HB6 : Hid (Below w.heap.size w w6) := HB.out.trans hB6
  have HO : Hid (∀ k, k ≠ w.heap.size → w6.heap[k]? = w2.heap[k]?) := ho6
  clear hB6 ho6
  go_wp2_with fail
  refine bodyPost_ret (v := .agg (tC d pv' rv' sv' nv' hv')) (results_cell_row Try.results15 _ _ w.heap.size 45 (tC d pv' rv' sv' nv' hv') (0, 0) _ rfl hb6 Try.underlying45 rfl (Try.size45 _ rfl)) rfl ?_
  have kk : ∀ (j b : Nat), b < w2.heap.size → (w.heap.size + 1 ≤ b ∧ b < w2.heap.size ∧ tg b = j) → (w.heap.size ≤ b ∧ b < w6.heap.size ∧ tg b = j) ∧ w6.heap[b]? = w2.heap[b]? := fun j b _ h2 => ⟨⟨by omega, by omega, h2.2.2⟩, HO.out b (by omega)⟩
  exact ⟨_, _, _, _, _, dv', tg, rfl, HB6.out, ⟨HS.out.p.mono (kk 0), HS.out.r.mono (kk 1), HS.out.h.mono (kk 2), HS.out.s.mono (kk 3), HS.out.n.mono (kk 4), fun q hq => (HS.out.ds q hq).mono (kk (5 + q))⟩⟩

theorem keepB' {w W wx : World} (h : Below w.heap.size w W) (hb : Below (w.heap.size + 1) W wx) : Below w.heap.size w wx := h.trans (hb.mono (by omega))

end Go.Proofs.Qxb6609019a
