import Derived.Test.Qxb6609019aProg
import Derived.WalkKit
import Derived.WalkSpells
import Derived.WalkLawsBesides
import Derived.Deep.OwnRows
import Derived.Deep.QuietTactic
import Derived.BigQuiet
namespace Go.Proofs.Qxb6609019a
open Go.RowKit

/-- The value of c as a lower-case hex digit, or -1. -/
def hexI (c : Int) : Int := if 48 ≤ c ∧ c ≤ 57 then c - 48 else if 97 ≤ c ∧ c ≤ 102 then c - 87 else -1
def tab (i : Int) : Int := if i < 10 then 48 + i else 87 + i

theorem hexD (k : Nat) (hk : k < 16) (h : k < (⟨#[48, 49, 50, 51, 52, 53, 54, 55, 56, 57, 97, 98, 99, 100, 101, 102]⟩ : ByteArray).size) : (((⟨#[48, 49, 50, 51, 52, 53, 54, 55, 56, 57, 97, 98, 99, 100, 101, 102]⟩ : ByteArray)[k]'h).toNat : Int) = tab k := by
  rcases (show k = 0 ∨ k = 1 ∨ k = 2 ∨ k = 3 ∨ k = 4 ∨ k = 5 ∨ k = 6 ∨ k = 7 ∨ k = 8 ∨ k = 9 ∨ k = 10 ∨ k = 11 ∨ k = 12 ∨ k = 13 ∨ k = 14 ∨ k = 15 by omega) with rfl | rfl | rfl | rfl | rfl | rfl | rfl | rfl | rfl | rfl | rfl | rfl | rfl | rfl | rfl | rfl <;> rfl

theorem hexI_tab (k : Int) (h0 : 0 ≤ k) (h1 : k < 16) : hexI (tab k) = k := by
  unfold hexI tab
  split <;> split <;> (try split) <;> omega
theorem tab_hexI (c : Int) (h : hexI c ≠ -1) : 0 ≤ hexI c ∧ hexI c < 16 ∧ tab (hexI c) = c := by
  unfold hexI at *
  split
  · unfold tab; split <;> omega
  · split
    · unfold tab; split <;> omega
    · rename_i h1 h2; rw [if_neg h1, if_neg h2] at h; exact absurd rfl h

theorem ret_int {k : IntKind} {a b : Int} (h : a = b) : Ending.returned (.int k a) = .returned (.int k b) := by rw [h]
theorem ret_bool {a b : Bool} (h : a = b) : Ending.returned (.bool a) = .returned (.bool b) := by rw [h]

theorem hexval_any (c : Int) (w : World) : Calls Try.prog 11 #[.int .u8 c] w fun e w' => e = .returned (.int .i64 (hexI c)) ∧ w = w' := by
  go_enter Try.func11, Try.ntmps11
  go_wp2
  go_loop [3] (fun i => ∃ k : Nat, k ≤ 16 ∧ i = .int .i64 k ∧ Hid (∀ t : Int, 0 ≤ t → t < k → tab t ≠ c)) (fun i => 16 - (intOf i).toNat)
  case atStart => exact ⟨0, by omega, rfl, fun t h0 h1 => absurd h1 (by simp; omega)⟩
  case round =>
    obtain ⟨k, hk, rfl, hno⟩ := hrel
    by_cases hlt : k < 16
    · have hT := hexD k hlt hlt
      by_cases hq : tab k = c
      · have hq' : (tab k == c) = true := by rw [beq_iff_eq]; exact hq
        have HQ : Hid (tab k = c) := hq
        clear hq
        go_wp2
        go_ret
        exact ⟨ret_int (by rw [← HQ.out, hexI_tab k (by omega) (by omega)]), rfl⟩
      · have hq' : (tab k == c) = false := by rw [beq_eq_false_iff_ne]; exact hq
        go_wp2
        go_round
        case rel =>
          refine ⟨k + 1, by omega, by go_num, fun t h0 h1 => ?_⟩
          by_cases e : t = k
          · subst e; exact hq
          · exact hno.out t h0 (by omega)
        case measure => simp [intOf]; omega
    · obtain rfl : k = 16 := by omega
      go_wp2
      go_ret
      refine ⟨ret_int ?_, rfl⟩
      by_cases hx : hexI c = -1
      · rw [hx]
      · obtain ⟨t0, t1, t2⟩ := tab_hexI c hx
        exact absurd t2 (hno.out (hexI c) t0 t1)

/-- Byte i of a string, as a number. -/
def cs (s : ByteArray) (i : Nat) : Int := ((s.data.toList.getD i 0).toNat : Int)
def okC (i : Nat) (c : Int) : Prop := if i = 8 ∨ i = 13 ∨ i = 18 ∨ i = 23 then c = 45 else (48 ≤ c ∧ c ≤ 57) ∨ (97 ≤ c ∧ c ≤ 102)
def isU (s : ByteArray) : Prop := s.size = 36 ∧ ∀ i, i < 36 → okC i (cs s i)

theorem bytes_cell (s : ByteArray) (w : World) (cap : Nat) (i : Nat) (hi : i < s.size) : (w.drew.alloc (.cells (bytesRow s cap) 5 ((bytesRow s cap).size, (bytesRow s cap).size + 1))).cell? ⟨w.heap.size, i, none⟩ = some (.int .u8 (cs s i)) := by
  have hi' : i < s.data.size := hi
  have hh : (w.drew.alloc (.cells (bytesRow s cap) 5 ((bytesRow s cap).size, (bytesRow s cap).size + 1))).heap[w.heap.size]? = some (.cells (bytesRow s cap) 5 ((bytesRow s cap).size, (bytesRow s cap).size + 1)) := Go.Deep.blk_alloc_new w.drew _
  unfold World.cell?
  simp only [hh]
  simp [bytesRow, cs, Array.getElem?_append, List.getD]
  rw [if_pos hi, Array.getElem?_eq_getElem hi']
  simp

theorem hide {p : Prop} (h : p) : Hid p := h
theorem unhide {p : Prop} (h : Hid p) : p := h
theorem all_succ {p : Nat → Prop} {k : Nat} (h : ∀ i, i < k → p i) (hk : p k) : ∀ i, i < k + 1 → p i := fun i hi => by
  by_cases e : i = k
  · rw [e]; exact hk
  · exact h i (by omega)

theorem isU_any (s : ByteArray) (w : World) : Calls Try.prog 19 #[.string s] w fun e w' => ((e = .returned (.bool true) ∧ isU s) ∨ (e = .returned (.bool false) ∧ ¬ isU s)) ∧ Below w.heap.size w w' := by
  by_cases h36 : s.size = 36
  · have hcv := run_bytes_of_string (P := Try.prog) w 9 25 5 s Try.underlying9 Try.underlying25 Try.underlying5
    obtain ⟨cap, hcap⟩ : ∃ cap, grownCap w s.size 0 5 = cap := ⟨_, rfl⟩
    rw [hcap] at hcv
    obtain ⟨W1, hW1⟩ : ∃ W1, w.drew.alloc (.cells (bytesRow s cap) 5 ((bytesRow s cap).size, (bytesRow s cap).size + 1)) = W1 := ⟨_, rfl⟩
    rw [hW1] at hcv
    have Hc : Hid (∀ i, i < 36 → W1.cell? ⟨w.heap.size, i, none⟩ = some (.int .u8 (cs s i))) := fun i hi => by rw [← hW1]; exact bytes_cell s w cap i (by omega)
    have HB : Hid (Below w.heap.size w W1) := by rw [← hW1]; exact (Below.refl _ _).drew.alloc (Nat.le_refl _) _
    clear hW1 hcap
    rw [h36] at hcv
    have hsz : (s.size : Int) = 36 := by omega
    have H36 : Hid (s.size = 36) := h36
    clear h36
    go_enter Try.func19, Try.ntmps19
    go_wp2
    go_loop [11] (fun i => ∃ k : Nat, k ≤ 36 ∧ i = .int .i64 k ∧ Hid (∀ i, i < k → okC i (cs s i))) (fun i => 36 - (intOf i).toNat)
    case atStart => exact ⟨0, by omega, rfl, fun i hi => absurd hi (by omega)⟩
    case round =>
      obtain ⟨k, hk, rfl, hok⟩ := hrel
      by_cases hlt : k < 36
      · have hx := Hc.out k hlt
        have hki : (k : Int) < 36 := by omega
        have HU : Hid (isU s → okC k (cs s k)) := fun hU => hU.2 k hlt
        by_cases hsp : k = 8 ∨ k = 13 ∨ k = 18 ∨ k = 23
        · by_cases h45 : cs s k = 45
          · have h45' : (cs s k != 45) = false := by simp [h45]
            have HD : Hid (okC k (cs s k)) := by unfold Hid okC; rw [if_pos hsp]; exact h45
            clear h45
            rcases hsp with rfl | rfl | rfl | rfl
            all_goals
              go_wp2
              go_round
              case rel => exact ⟨_, by omega, by go_num, all_succ hok.out HD.out⟩
              case measure => simp [intOf]
          · have h45' : (cs s k != 45) = true := by rw [bne_iff_ne]; exact h45
            have HD : Hid (¬ okC k (cs s k)) := by unfold Hid okC; rw [if_pos hsp]; exact h45
            clear h45
            rcases hsp with rfl | rfl | rfl | rfl
            all_goals
              go_wp2
              go_ret
              exact ⟨.inr ⟨rfl, fun hU => HD.out (HU.out hU)⟩, HB.out⟩
        · have k1 : ((k : Int) == 8) = false := by rw [beq_eq_false_iff_ne]; omega
          have k2 : ((k : Int) == 13) = false := by rw [beq_eq_false_iff_ne]; omega
          have k3 : ((k : Int) == 18) = false := by rw [beq_eq_false_iff_ne]; omega
          have k4 : ((k : Int) == 23) = false := by rw [beq_eq_false_iff_ne]; omega
          obtain ⟨c, hc⟩ : ∃ c, cs s k = c := ⟨_, rfl⟩
          have HC : Hid (cs s k = c) := hc
          rw [hc] at hx
          have HD : Hid (okC k c ↔ ((48 ≤ c ∧ c ≤ 57) ∨ (97 ≤ c ∧ c ≤ 102))) := by unfold Hid okC; rw [if_neg hsp]
          clear hc hsp
          by_cases c1 : 48 ≤ c
          · by_cases c2 : c ≤ 57
            · go_wp2
              go_round
              case rel => exact ⟨k + 1, by omega, by go_num, all_succ hok.out (by rw [HC.out]; exact HD.out.2 (.inl ⟨c1, c2⟩))⟩
              case measure => simp [intOf]; omega
            · have d2 : decide (c ≤ 57) = false := decide_eq_false c2
              by_cases c3 : 97 ≤ c
              · by_cases c4 : c ≤ 102
                · go_wp2
                  go_round
                  case rel => exact ⟨k + 1, by omega, by go_num, all_succ hok.out (by rw [HC.out]; exact HD.out.2 (.inr ⟨c3, c4⟩))⟩
                  case measure => simp [intOf]; omega
                · have d4 : decide (c ≤ 102) = false := decide_eq_false c4
                  go_wp2
                  go_ret
                  exact ⟨.inr ⟨rfl, fun hU => by have := HU.out hU; rw [HC.out] at this; have := HD.out.1 this; omega⟩, HB.out⟩
              · have d3 : decide (97 ≤ c) = false := decide_eq_false c3
                go_wp2
                go_ret
                exact ⟨.inr ⟨rfl, fun hU => by have := HU.out hU; rw [HC.out] at this; have := HD.out.1 this; omega⟩, HB.out⟩
          · have d1 : decide (48 ≤ c) = false := decide_eq_false c1
            have d3 : decide (97 ≤ c) = false := decide_eq_false (by omega)
            go_wp2
            go_ret
            exact ⟨.inr ⟨rfl, fun hU => by have := HU.out hU; rw [HC.out] at this; have := HD.out.1 this; omega⟩, HB.out⟩
      · obtain rfl : k = 36 := by omega
        go_wp2
        go_ret
        exact ⟨.inl ⟨rfl, H36.out, hok.out⟩, HB.out⟩
  · have hne : ((s.size : Int) != 36) = true := by rw [bne_iff_ne]; omega
    have H36 : Hid (¬ isU s) := fun h => h36 h.1
    clear h36
    go_enter Try.func19, Try.ntmps19
    go_wp2
    go_ret
    exact ⟨.inr ⟨rfl, H36.out⟩, Below.refl _ _⟩

theorem zzisU_any (s : ByteArray) (w : World) : Calls Try.prog 8 #[.string s] w fun e w' => ((e = .returned (.bool true) ∧ isU s) ∨ (e = .returned (.bool false) ∧ ¬ isU s)) ∧ Below w.heap.size w w' := by
  go_enter Try.func8, Try.ntmps8
  go_wp2_with fail
  refine (isU_any s w).mono ?_
  rintro e w' ⟨⟨rfl, h⟩ | ⟨rfl, h⟩, hb⟩
  · have H := hide h
    clear h
    go_wp2
    go_ret
    exact ⟨.inl ⟨rfl, unhide H⟩, hb⟩
  · have H := hide h
    clear h
    go_wp2
    go_ret
    exact ⟨.inr ⟨rfl, unhide H⟩, hb⟩
end Go.Proofs.Qxb6609019a
