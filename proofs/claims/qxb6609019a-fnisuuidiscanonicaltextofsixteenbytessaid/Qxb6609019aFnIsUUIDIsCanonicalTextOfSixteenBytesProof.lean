import Derived.Test.Qxb6609019aRows
import Derived.Test.Qxb6609019aUuidPlain
import Derived.WalkKit
import Derived.ProofKit
import Derived.OpenShut
import Derived.ShutString
namespace Go.Proofs.Qxb6609019a.fnIsUUIDIsCanonicalTextOfSixteenBytes
open Go.ChangeShapes Go.WideShapes Go.ChangeAt Go.RowKit
open Go.ChangeMaps (open_string shut_string)
set_option linter.unusedVariables false

theorem own : ownKnob Try.prog.godebug = none := by kernel_rfl

theorem bytes7 (s : ByteArray) (hs : s.size ≤ 9223372036854775807) (w : World) : Calls Try.prog 7 #[.string s] w fun e w' => (e = .returned (.bool true) ∨ e = .returned (.bool false)) ∧ w = w' := by
  by_cases e0 : (1048576 : Int) < (s.size : Int)
  · go_enter Try.func7, Try.ntmps7
    go_wp2
    go_ret
    exact ⟨.inr rfl, rfl⟩
  · go_enter Try.func7, Try.ntmps7
    go_wp2
    go_ret
    exact ⟨.inl rfl, rfl⟩

theorem walk (a0 : ByteArray) (w0 : a0.size ≤ maxLen) (w : World) :
    Calls Try.prog 3 #[.string a0] w fun e w' => e = .returned (.bool true) ∧ Below w.heap.size w w' := by
  unfold maxLen at w0
  go_enter Try.func3, Try.ntmps3
  go_wp2_with fail
  refine (bytes7 a0 w0 w).mono ?_
  rintro e w' ⟨rfl | rfl, rfl⟩
  rotate_left
  · go_wp2
    go_ret
    exact ⟨rfl, Below.refl _ _⟩
  by_cases e0 : (1048576 : Int) < (a0.size : Int)
  · go_wp2
    go_ret
    exact ⟨rfl, Below.refl _ _⟩
  go_wp2_with fail
  refine (zzisU_any a0 w).mono ?_
  rintro e w1 ⟨⟨rfl, h⟩ | ⟨rfl, h⟩, hb1⟩
  · have H := hide h
    have HB1 := hide hb1
    clear h hb1
    go_wp2_with fail
    refine (canon_any a0 w1 (by omega)).mono ?_
    rintro e w2 ⟨⟨rfl, h2⟩ | ⟨rfl, h2⟩, hb2⟩
    · have HB2 : Hid (Below w.heap.size w w2) := (unhide HB1).trans (hb2.mono (unhide HB1).size)
      clear h2 hb2
      go_wp2
      go_ret
      exact ⟨rfl, HB2.out⟩
    · exact absurd ((uuid_law a0).1 (unhide H)) h2
  · have H := hide h
    have HB1 := hide hb1
    clear h hb1
    go_wp2_with fail
    refine (canon_any a0 w1 (by omega)).mono ?_
    rintro e w2 ⟨⟨rfl, h2⟩ | ⟨rfl, h2⟩, hb2⟩
    · exact absurd ((uuid_law a0).2 h2) (unhide H)
    · have HB2 : Hid (Below w.heap.size w w2) := (unhide HB1).trans (hb2.mono (unhide HB1).size)
      clear h2 hb2
      go_wp2
      go_ret
      exact ⟨rfl, HB2.out⟩

set_option maxRecDepth 100000 in
theorem lifted (os : Os) (started : os.Started) (H : Type) (enc : TypeId × Value → H) :
    ReturnsInHanded {} Try.checked os 3 .any (Rows.fnIsUUIDIsCanonicalTextOfSixteenBytesSpec.pre6 enc Try.prog Try.f3 Rows.fnIsUUIDIsCanonicalTextOfSixteenBytesRow.domain false) (Rows.fnIsUUIDIsCanonicalTextOfSixteenBytesSpec.post enc Try.prog Try.f3 false true false false) := by
  refine returnsInHanded_of_change (C := Try.checked) own started (by kernel_rfl) Try.func3
    (ChangeSpec.witness6 (enc := enc) (C := Try.checked) false ⟨#[], #[.string ByteArray.empty], []⟩ 8 (by kernel_rfl) (by kernel_rfl) (by kernel_rfl) (by kernel_rfl)) ?_
  intro W base args ds gs before hval0 hW hcnd _
  have hval : ∀ (j : Nat) t v, Try.f3.params[j]? = some t → args[j]? = some v → Value.okWide Try.prog W .any base t v := hval0
  have hW' := hW
  obtain ⟨p, q, hA0, hV, rfl, hfz, hnd⟩ := hW
  have hA : DataW.TrodAll enc Try.prog W 0 (fun _ => true) true Try.f3.params.toList args.toList ds p := hA0
  rw [Try.params3] at hA hval
  obtain ⟨v0, vs0, d0, ds0, p0, q0, hargs, rfl, rfl, h0, r0⟩ := trodAll_cons hA
  obtain ⟨rfl, rfl, rfl⟩ := trodAll_nil r0
  obtain rfl : args = #[v0] := by cases args; simp_all
  obtain ⟨rfl, rfl⟩ := trodVars_none hV
  obtain ⟨a0, rfl, rfl, rfl, w0⟩ := open_string Try.underlying9 (hval 0 9 v0 rfl rfl) h0
  clear hA0 hval0
  simp only [List.append_nil] at hW'
  refine (walk a0 w0 W).mono fun e W' ⟨he, hg⟩ => ?_
  subst he
  exact ⟨_, rfl, _, _, _, [], _, [], hW', trodAll_mk1 (shut_bool Try.underlying4 _), (trodAll_cons_mk (shut_string Try.underlying9 w0) trodAll_mk0), rfl, hg.frame _, fun h => by cases h⟩

theorem over : Rows.fnIsUUIDIsCanonicalTextOfSixteenBytesRow.holds Try.pinned (OpenSpec.ofChange Rows.fnIsUUIDIsCanonicalTextOfSixteenBytesSpec) :=
  OpenClaim.holds_of_wide 3 Try.f3 rfl rfl rfl rfl rfl rfl rfl ⟨rfl, rfl, rfl, rfl, rfl⟩ rfl rfl rfl rfl rfl (by kernel_rfl) Try.func3 (by kernel_rfl)
    (of_decide_eq_true (by kernel_rfl)) (by unfold Func.isWrapper; first | (rw [if_pos (by decide +kernel)]; kernel_rfl) | (rw [if_neg (by decide +kernel)]; exact ⟨rfl, rfl⟩))
    (fun os started H enc _ => lifted os started H enc)

/-- ████ THE STATEMENT ████ -/
theorem proved : Rows.FnIsUUIDIsCanonicalTextOfSixteenBytesSaid :=
  over
end Go.Proofs.Qxb6609019a.fnIsUUIDIsCanonicalTextOfSixteenBytes
