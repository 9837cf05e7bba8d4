import Derived.Test.Qxb6613758aFmtFacts
import Derived.Test.Qxb6613758aFmtRows
import Derived.WalkKit
import Derived.WalkSpells
import Derived.WalkLawsBesides
namespace Go.Proofs.Qxb6613758aFmt
open Go.RowKit Go.Extern.Stop Go.Stop Go.Extern

set_option maxHeartbeats 400000 in
theorem errorf_any (F : Interp) (v0 v1 v2 v3 : ByteArray) (b : Nat) (w : World) (hF : F.answers w.tape)
    (ha : w.cell? ⟨b, 0, none⟩ = some (.iface 9 (.string v0))) (ha1 : w.cell? ⟨b, 1, none⟩ = some (.iface 9 (.string v1)))
    (ha2 : w.cell? ⟨b, 2, none⟩ = some (.iface 23 (.string v2))) (ha3 : w.cell? ⟨b, 3, none⟩ = some (.iface 23 (.string v3))) :
    Calls Tryf.prog 8 #[.string ⟨#[37, 115, 32, 37, 113, 32, 105, 115, 32, 110, 101, 105, 116, 104, 101, 114, 32, 37, 115, 32, 110, 111, 114, 32, 37, 115]⟩, .slice (some ⟨b, 0, none⟩) 4 4] w fun e w' => (∃ p, e = .returned (.iface 33 (.pointer (some p)))) ∧ Below w.heap.size w w' := by
  unfold Interp.answers at hF
  go_enter Tryf.func8, Tryf.ntmps8
  go_wp2
  go_ret
  exact ⟨⟨_, rfl⟩, (Below.alloc (Below.refl _ _) (Nat.le_refl _) _).drew⟩

abbrev sFull : ByteArray := ⟨#[102, 117, 108, 108]⟩
abbrev sDefer : ByteArray := ⟨#[100, 101, 102, 101, 114]⟩
abbrev sNone : ByteArray := ⟨#[]⟩
abbrev sWhat : ByteArray := ⟨#[108, 97, 114, 103, 101, 32, 114, 101, 100, 101, 109, 112, 116, 105, 111, 110]⟩

/-- what is none of the three names. -/
structure NoName (s : ByteArray) : Prop where
  a : s.toList.isEmpty = false
  b : (s.toList == [102, 117, 108, 108]) = false
  c : (s.toList == [100, 101, 102, 101, 114]) = false

theorem names (s : ByteArray) : s = ⟨#[]⟩ ∨ s = ⟨#[102, 117, 108, 108]⟩ ∨ s = ⟨#[100, 101, 102, 101, 114]⟩ ∨ NoName s := by
  have key : ∀ l : List UInt8, s.toList = l → s = ⟨l.toArray⟩ := by
    intro l h
    apply WideShapes.bytes_inj
    rw [ByteArray.toList_eq] at h
    rw [h]
  by_cases h1 : s.toList = []
  · exact Or.inl (key _ h1)
  by_cases h2 : s.toList = [102, 117, 108, 108]
  · exact Or.inr (Or.inl (key _ h2))
  by_cases h3 : s.toList = [100, 101, 102, 101, 114]
  · exact Or.inr (Or.inr (Or.inl (key _ h3)))
  exact Or.inr (Or.inr (Or.inr ⟨by simpa using h1, by simpa using h2, by simpa using h3⟩))

set_option maxHeartbeats 400000 in
theorem choice_none (w : World) :
    Calls Tryf.prog 7 #[.string sWhat, .string ⟨#[]⟩, .string sFull, .string sDefer] w fun e w' => e = .returned (.tuple #[.string sFull, .nilIface]) ∧ w' = w := by
  go_enter Tryf.func7, Tryf.ntmps7
  go_wp2
  go_ret2
  exact ⟨rfl, rfl⟩

set_option maxHeartbeats 400000 in
theorem choice_full (w : World) :
    Calls Tryf.prog 7 #[.string sWhat, .string sFull, .string sFull, .string sDefer] w fun e w' => e = .returned (.tuple #[.string sFull, .nilIface]) ∧ w' = w := by
  go_enter Tryf.func7, Tryf.ntmps7
  go_wp2
  go_ret2
  exact ⟨rfl, rfl⟩

set_option maxHeartbeats 400000 in
theorem choice_defer (w : World) :
    Calls Tryf.prog 7 #[.string sWhat, .string sDefer, .string sFull, .string sDefer] w fun e w' => e = .returned (.tuple #[.string sDefer, .nilIface]) ∧ w' = w := by
  go_enter Tryf.func7, Tryf.ntmps7
  go_wp2
  go_ret2
  exact ⟨rfl, rfl⟩

set_option maxHeartbeats 400000 in
theorem choice_other (F : Interp) (s : ByteArray) (h : NoName s) (w : World) (hF : F.answers w.tape) :
    Calls Tryf.prog 7 #[.string sWhat, .string s, .string sFull, .string sDefer] w fun e w' => (∃ p, e = .returned (.tuple #[.string ⟨#[]⟩, .iface 33 (.pointer (some p))])) ∧ Below w.heap.size w w' := by
  obtain ⟨h1, h2, h3⟩ := h
  go_enter Tryf.func7, Tryf.ntmps7
  go_wp2_with fail
  refine (errorf_any F sWhat s sFull sDefer w.heap.size (w.alloc (.cells #[.iface 9 (.string sWhat), .iface 9 (.string s), .iface 23 (.string sFull), .iface 23 (.string sDefer)] 20)) hF (by simp [go_sem]) (by simp [go_sem]) (by simp [go_sem]) (by simp [go_sem])).mono ?_
  rintro _ w2 ⟨⟨p, rfl⟩, hB⟩
  go_wp2
  go_ret2
  refine ⟨⟨_, rfl⟩, ?_⟩
  have h0 := Below.alloc (Below.refl w.heap.size w) (Nat.le_refl _) (.cells #[.iface 9 (.string sWhat), .iface 9 (.string s), .iface 23 (.string sFull), .iface 23 (.string sDefer)] 20)
  exact h0.trans (hB.mono (by simp [go_sem]))

theorem pay_name (s o : ByteArray) (hs : (s = ⟨#[]⟩ ∧ o = sFull) ∨ (s = sFull ∧ o = sFull) ∨ (s = sDefer ∧ o = sDefer)) (w : World) :
    Calls Tryf.prog 5 #[.string s] w fun e w' => e = .returned (.tuple #[.string o, .nilIface]) ∧ w' = w := by
  have key : Calls Tryf.prog 7 #[.string sWhat, .string s, .string sFull, .string sDefer] w fun e w' => e = .returned (.tuple #[.string o, .nilIface]) ∧ w' = w := by
    rcases hs with ⟨rfl, rfl⟩ | ⟨rfl, rfl⟩ | ⟨rfl, rfl⟩
    · exact choice_none w
    · exact choice_full w
    · exact choice_defer w
  go_enter Tryf.func5, Tryf.ntmps5
  go_wp2_with fail
  refine key.mono ?_
  rintro _ w2 ⟨rfl, rfl⟩
  go_wp2
  go_ret2
  exact ⟨rfl, rfl⟩

theorem pay_other (F : Interp) (s : ByteArray) (h : NoName s) (w : World) (hF : F.answers w.tape) :
    Calls Tryf.prog 5 #[.string s] w fun e w' => (∃ p, e = .returned (.tuple #[.string ⟨#[]⟩, .iface 33 (.pointer (some p))])) ∧ Below w.heap.size w w' := by
  go_enter Tryf.func5, Tryf.ntmps5
  go_wp2_with fail
  refine (choice_other F s h w hF).mono ?_
  rintro _ w2 ⟨⟨p, rfl⟩, hB⟩
  go_wp2
  go_ret2
  exact ⟨⟨_, rfl⟩, hB⟩

theorem bytes_any (s : ByteArray) (w : World) : Calls Tryf.prog 4 #[.string s] w fun e w' => e = .returned (.bool (!decide ((s.size : Int) > 1048576))) ∧ w' = w := by
  go_enter Tryf.func4, Tryf.ntmps4
  by_cases h : (s.size : Int) > 1048576
  · have h' : decide ((s.size : Int) > 1048576) = true := by simpa using h
    go_wp2
    go_ret
    exact ⟨by simp [h'], rfl⟩
  · have h' : decide ((s.size : Int) > 1048576) = false := by simpa using h
    go_wp2
    all_goals go_ret
    all_goals exact ⟨by simp, rfl⟩

theorem name_yes (s : ByteArray) (hs : s = ⟨#[]⟩ ∨ s = sFull ∨ s = sDefer) (w : World) :
    Calls Tryf.prog 6 #[.string s] w fun e w' => e = .returned (.bool true) ∧ w' = w := by
  rcases hs with rfl | rfl | rfl
  all_goals go_enter Tryf.func6, Tryf.ntmps6
  all_goals go_wp2
  all_goals go_ret
  all_goals exact ⟨rfl, rfl⟩

theorem name_no (s : ByteArray) (h : NoName s) (w : World) :
    Calls Tryf.prog 6 #[.string s] w fun e w' => e = .returned (.bool false) ∧ w' = w := by
  obtain ⟨h1, h2, h3⟩ := h
  go_enter Tryf.func6, Tryf.ntmps6
  go_wp2
  go_ret
  exact ⟨rfl, rfl⟩

set_option maxHeartbeats 1000000 in
theorem law_any (F : Interp) (s : ByteArray) (w : World) (hF : F.answers w.tape) :
    Calls Tryf.prog 3 #[.string s] w fun e w' => e = .returned (.bool true) ∧ Below w.heap.size w w' := by
  have hb := bytes_any s w
  generalize hr : (!decide ((s.size : Int) > 1048576)) = r at hb
  by_cases h65 : (s.size : Int) > 65536
  · have h65' : decide ((s.size : Int) > 65536) = true := by simpa using h65
    go_enter Tryf.func3, Tryf.ntmps3
    go_wp2_with fail
    refine hb.mono ?_
    rintro _ w2 ⟨rfl, rfl⟩
    cases r
    · go_wp2_with fail
      go_ret
      exact ⟨rfl, Below.refl _ _⟩
    · go_wp2_with fail
      go_ret
      exact ⟨rfl, Below.refl _ _⟩
  have h65' : decide ((s.size : Int) > 65536) = false := by simpa using h65
  have hrt : r = true := by subst hr; simp; omega
  subst hrt
  clear hr
  rcases names s with rfl | rfl | rfl | hn
  · go_enter Tryf.func3, Tryf.ntmps3
    go_wp2_with fail
    refine hb.mono ?_
    rintro _ w2 ⟨rfl, rfl⟩
    go_wp2_with fail
    refine (pay_name _ sFull (Or.inl ⟨rfl, rfl⟩) _).mono ?_
    rintro _ w3 ⟨rfl, rfl⟩
    go_wp2_with fail
    refine (name_yes _ (Or.inl rfl) _).mono ?_
    rintro _ w4 ⟨rfl, rfl⟩
    go_wp2_with fail
    refine (pay_name _ sFull (Or.inr (Or.inl ⟨rfl, rfl⟩)) _).mono ?_
    rintro _ w5 ⟨rfl, rfl⟩
    go_wp2_with fail
    go_ret
    exact ⟨rfl, Below.refl _ _⟩
  · go_enter Tryf.func3, Tryf.ntmps3
    go_wp2_with fail
    refine hb.mono ?_
    rintro _ w2 ⟨rfl, rfl⟩
    go_wp2_with fail
    refine (pay_name _ sFull (Or.inr (Or.inl ⟨rfl, rfl⟩)) _).mono ?_
    rintro _ w3 ⟨rfl, rfl⟩
    go_wp2_with fail
    refine (name_yes _ (Or.inr (Or.inl rfl)) _).mono ?_
    rintro _ w4 ⟨rfl, rfl⟩
    go_wp2_with fail
    refine (pay_name _ sFull (Or.inr (Or.inl ⟨rfl, rfl⟩)) _).mono ?_
    rintro _ w5 ⟨rfl, rfl⟩
    go_wp2_with fail
    go_ret
    exact ⟨rfl, Below.refl _ _⟩
  · go_enter Tryf.func3, Tryf.ntmps3
    go_wp2_with fail
    refine hb.mono ?_
    rintro _ w2 ⟨rfl, rfl⟩
    go_wp2_with fail
    refine (pay_name _ sDefer (Or.inr (Or.inr ⟨rfl, rfl⟩)) _).mono ?_
    rintro _ w3 ⟨rfl, rfl⟩
    go_wp2_with fail
    refine (name_yes _ (Or.inr (Or.inr rfl)) _).mono ?_
    rintro _ w4 ⟨rfl, rfl⟩
    go_wp2_with fail
    refine (pay_name _ sDefer (Or.inr (Or.inr ⟨rfl, rfl⟩)) _).mono ?_
    rintro _ w5 ⟨rfl, rfl⟩
    go_wp2_with fail
    go_ret
    exact ⟨rfl, Below.refl _ _⟩
  · go_enter Tryf.func3, Tryf.ntmps3
    go_wp2_with fail
    refine hb.mono ?_
    rintro _ w2 ⟨rfl, rfl⟩
    go_wp2_with fail
    refine (pay_other F s hn _ hF).mono ?_
    rintro _ w3 ⟨⟨p, rfl⟩, hB⟩
    go_wp2_with fail
    refine (name_no s hn _).mono ?_
    rintro _ w4 ⟨rfl, rfl⟩
    go_wp2_with fail
    go_ret
    exact ⟨rfl, hB⟩

end Go.Proofs.Qxb6613758aFmt
