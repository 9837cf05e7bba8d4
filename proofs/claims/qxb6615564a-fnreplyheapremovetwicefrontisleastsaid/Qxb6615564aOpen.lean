import Derived.Test.Qxb6615564aRows
import Derived.Test.Qxb6615564aLaw5
import Derived.ProofKit
import Derived.OpenShut
import Derived.ShutString
import Derived.ChangeOld
import Derived.SliceStrings
namespace Go.Proofs.Qxb6615564a
open Go.ChangeShapes Go.WideShapes Go.ChangeAt Go.RowKit
open Go.ChangeMaps (open_string shut_string)

theorem own : ownKnob Try.prog.godebug = none := by kernel_rfl
theorem laidOut : laidOutB Try.prog = true := by kernel_rfl

theorem addr_of_cell {w : World} {x : Addr} {v : Value} (h : w.cell? (x.add 0) = some v) : x = ⟨x.block, x.off, none⟩ := by
  have := World.cell?_spot h
  simp [Addr.add] at this
  cases x; simp_all

theorem open_row {H : Type} {enc : TypeId × Value → H} {W : World} {t e : TypeId} {k : IntKind} {d : DataW H} {ps : List MemPlace} {a : Option Addr} {len cap : Nat} (ht : Try.prog.underlying t = some (.slice e)) (he : Try.prog.underlying e = some (.int k)) (hc : Try.prog.cellsOf e = 1)
    (h : DataW.Trod enc Try.prog W 0 (fun _ => true) true t (.slice a len cap) d ps) :
    ∃ (b o : Nat) (Z : Nat → Int), (a = none → len = 0 ∧ cap = 0) ∧ len ≤ cap ∧ cap ≤ 9223372036854775807 ∧ (0 < len → a = some ⟨b, o, none⟩) ∧ (∀ i, i < len → W.cell? ⟨b, o + i, none⟩ = some (.int k (Z i))) ∧ (∀ i, i < len → (Lit.int k (Z i)).wf = true) := by
  obtain ⟨fuel, hf⟩ := h
  rcases open_ints ht he hc hf with ⟨hcs, _⟩ | ⟨x, l, c, zs, hcs, _, hl, hm, hz, _, hcell, hwz⟩
  · simp [Value.cells] at hcs
    obtain ⟨rfl, rfl, rfl⟩ := hcs
    exact ⟨0, 0, fun _ => 0, fun _ => ⟨rfl, rfl⟩, Nat.le_refl _, by omega, fun h => absurd h (by omega), fun i hi => absurd hi (by omega), fun i hi => absurd hi (by omega)⟩
  · simp [Value.cells] at hcs
    obtain ⟨rfl, rfl, rfl⟩ := hcs
    simp only [if_true] at hz
    unfold maxLen at hm
    refine ⟨x.block, x.off, fun i => zs.getD i 0, (fun h => by cases h), hl, hm, fun h => ?_, fun i hi => ?_, fun i hi => ?_⟩
    · rw [← addr_of_cell (hcell 0 (by omega))]
    · have hx := addr_of_cell (hcell 0 (by omega))
      have := hcell i (by omega)
      rw [hx, add_plain] at this
      exact this
    · refine hwz _ ?_
      simp [List.getD, List.getElem?_eq_getElem (show i < zs.length by omega)]

theorem open_srow {H : Type} {enc : TypeId × Value → H} {W : World} {t e : TypeId} {d : DataW H} {ps : List MemPlace} {a : Option Addr} {len cap : Nat} (ht : Try.prog.underlying t = some (.slice e)) (he : Try.prog.underlying e = some .string) (hc : Try.prog.cellsOf e = 1)
    (h : DataW.Trod enc Try.prog W 0 (fun _ => true) true t (.slice a len cap) d ps) :
    ∃ (b o : Nat) (N : Nat → ByteArray), ArgS W a len b o N := by
  obtain ⟨fuel, hf⟩ := h
  rcases open_strings ht he hc hf with ⟨hcs, _⟩ | ⟨x, l, c, zs, hcs, _, hl, hm, hz, _, hcell, hwz⟩
  · simp [Value.cells] at hcs
    obtain ⟨rfl, rfl, rfl⟩ := hcs
    exact ⟨0, 0, fun _ => ByteArray.empty, by omega, fun h => absurd h (by omega), fun i hi => absurd hi (by omega), fun i hi => absurd hi (by omega)⟩
  · simp [Value.cells] at hcs
    obtain ⟨rfl, rfl, rfl⟩ := hcs
    simp only [if_true] at hz
    unfold maxLen at hm hwz
    refine ⟨x.block, x.off, fun i => zs.getD i ByteArray.empty, by omega, fun h => ?_, fun i hi => ?_, fun i hi => ?_⟩
    · rw [← addr_of_cell (hcell 0 (by omega))]
    · have hx := addr_of_cell (hcell 0 (by omega))
      have := hcell i (by omega)
      rw [hx, add_plain] at this
      exact this
    · refine hwz _ ?_
      simp [List.getD, List.getElem?_eq_getElem (show i < zs.length by omega)]
end Go.Proofs.Qxb6615564a
