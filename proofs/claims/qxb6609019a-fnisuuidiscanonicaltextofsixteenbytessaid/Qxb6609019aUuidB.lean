import Derived.Test.Qxb6609019aUuidA
import Derived.Laws.BytesArg
import Derived.Laws.BitsLemmas
namespace Go.Proofs.Qxb6609019a
open Go.RowKit

def isD (k : Nat) : Prop := k = 4 ∨ k = 6 ∨ k = 8 ∨ k = 10
def grp (b : Nat → Int) (k : Nat) : List Int := (if k = 4 ∨ k = 6 ∨ k = 8 ∨ k = 10 then [45] else []) ++ [tab (b k / 16), tab (b k % 16)]
def outP (b : Nat → Int) : Nat → List Int
  | 0 => []
  | k + 1 => outP b k ++ grp b k
def lenP (k : Nat) : Nat := 2 * k + (if 4 < k then 1 else 0) + (if 6 < k then 1 else 0) + (if 8 < k then 1 else 0) + (if 10 < k then 1 else 0)
theorem outP_len (b : Nat → Int) : ∀ k, (outP b k).length = lenP k
  | 0 => rfl
  | k + 1 => by
    simp only [outP, List.length_append, outP_len b k, grp, lenP]
    by_cases h : k = 4 ∨ k = 6 ∨ k = 8 ∨ k = 10
    · rw [if_pos h]; simp; split <;> split <;> split <;> split <;> split <;> split <;> split <;> split <;> omega
    · rw [if_neg h]; simp; split <;> split <;> split <;> split <;> split <;> split <;> split <;> split <;> omega

theorem Try.info5 : (Try.prog.info? 5).map (fun i => (i.zero, i.size, i.bytes)) = some (some (.int .u8 0), 1, 1) := by kernel_rfl

theorem hexD' (x : Int) (h0 : 0 ≤ x) (h1 : x < 16) (h : x.toNat < (⟨#[48, 49, 50, 51, 52, 53, 54, 55, 56, 57, 97, 98, 99, 100, 101, 102]⟩ : ByteArray).size) : (((⟨#[48, 49, 50, 51, 52, 53, 54, 55, 56, 57, 97, 98, 99, 100, 101, 102]⟩ : ByteArray)[x.toNat]'h).toNat : Int) = tab x := by
  rw [hexD x.toNat (by omega) h]
  rw [Int.toNat_of_nonneg h0]

theorem lenP_le (k : Nat) (h : k < 16) : lenP k ≤ 34 := by
  unfold lenP; split <;> split <;> split <;> split <;> omega
theorem lenP_step (k : Nat) (h : ¬ (k = 4 ∨ k = 6 ∨ k = 8 ∨ k = 10)) : lenP (k + 1) = lenP k + 1 + 1 := by
  unfold lenP; split <;> split <;> split <;> split <;> split <;> split <;> split <;> split <;> omega
theorem cell_past (w : World) (o : Obj) {a : Addr} {v : Value} (h : w.cell? a = some v) : (w.alloc o).cell? a = w.cell? a := by
  refine ((Below.refl w.heap.size w).alloc (Nat.le_refl _) o).cell ?_
  unfold World.cell? at h
  by_cases hb : a.block < w.heap.size
  · exact hb
  · rw [Array.getElem?_eq_none (by omega)] at h
    simp at h

theorem own_cell {w : World} {base g n cap : Nat} {l : List Int} (h : w.ownsRow base 5 1 (.slice (some ⟨g, 0, none⟩) n cap) n (l.map (Value.int .u8))) (i : Nat) (hi : i < n) : w.cell? ⟨g, i, none⟩ = some (.int .u8 (l.getD i 0)) := by
  obtain ⟨hl, h⟩ := h
  rcases h with ⟨h, _⟩ | ⟨g', cap', cur, hv, _, hh, hnc, _, hcs, ht⟩
  · cases h
  · cases hv
    simp only [Nat.mul_one, List.length_map] at hl ht hcs
    have hcur : cur[i]? = some (.int .u8 (l.getD i 0)) := by
      have e : (cur.toList.take n)[i]? = (l.map (Value.int .u8))[i]? := by rw [ht]
      rw [List.getElem?_take_of_lt hi] at e
      rw [← Array.getElem?_toList, e]
      simp [List.getD, List.getElem?_eq_getElem (show i < l.length by omega)]
    simp [World.cell?, hh, hcur]

set_option maxHeartbeats 1000000 in
set_option maxRecDepth 100000 in
theorem format_any (xs : Array Value) (b : Nat → Int) (w : World) (hx : Hid (∀ k, k < 16 → xs[k]? = some (.int .u8 (b k)))) (hb : Hid (∀ k, k < 16 → 0 ≤ b k ∧ b k ≤ 255)) :
    Calls Try.prog 10 #[.agg xs] w fun e w' => e = .returned (.string (strOfNums (outP b 16))) ∧ Below w.heap.size w w' := by
  obtain ⟨i0, hi, hz0, hz1, hz2⟩ := info_parts Try.info5
  go_enter Try.func10, Try.ntmps10
  go_wp2_with (at_make; refine wpList_make_own _ rfl _ _ 25 rfl (w.heap.size + 1) 5 i0 (.int .u8 0) 1 Try.underlying25 hi hz0 hz1 .i64 .i64 36 36 rfl rfl rfl ?b2 ?b3 ?b4 ?mk)
  case b2 => rw [hz2]; omega
  case b3 => unfold maxLen; omega
  case b4 => simp
  case mk =>
    intro w1 hown1 hg1
    have HO1 : Hid (w1.ownsRow (w.heap.size + 1) 5 1 (.slice (some ⟨w.heap.size + 1, 0, none⟩) 0 36) 0 []) := by unfold Hid; simpa using hown1
    have HA1 : Hid (∀ k, k < 16 → w1.cell? ⟨w.heap.size, k, none⟩ = some (.int .u8 (b k))) := fun t ht => hg1.cell (by simp [hx.out t ht]) (by simp)
    have HB1 : Hid (Below w.heap.size w w1) := ((Below.refl _ _).alloc (Nat.le_refl _) _).grown hg1 (by simp) (fun t h => by simp at h)
    clear hown1 hg1
    go_wp2_with fail
    go_loopw [3, 4] (fun v i wr => ∃ k : Nat, k ≤ 16 ∧ i = .int .i64 k ∧ v = .slice (some ⟨w.heap.size + 1, 0, none⟩) (lenP k) 36 ∧ Hid (wr.ownsRow (w.heap.size + 1) 5 1 (.slice (some ⟨w.heap.size + 1, 0, none⟩) (lenP k) 36) (lenP k) ((outP b k).map (Value.int .u8))) ∧ Hid (∀ k, k < 16 → wr.cell? ⟨w.heap.size, k, none⟩ = some (.int .u8 (b k))) ∧ Hid (Below w.heap.size w wr)) (fun _ i _ => 16 - (intOf i).toNat)
    case atStart => exact ⟨0, by omega, rfl, rfl, HO1, HA1, HB1⟩
    case round =>
      clear HO1 HA1 HB1
      obtain ⟨k, hk, rfl, rfl, HOwr, HAwr, HBwr⟩ := hrel
      by_cases hlt : k < 16
      · have hld := HAwr.out k hlt
        obtain ⟨x0, x1⟩ := hb.out k hlt
        have hki : (k : Int) < 16 := by omega
        have hand : bits .and .u8 (b k) 15 = b k % 16 := u8_and15 _ x0 (by omega)
        have hT1 := hexD' (b k / 16) (by omega) (by omega)
        have hT2 := hexD' (b k % 16) (by omega) (by omega)
        obtain ⟨N, hN⟩ : ∃ N, lenP k = N := ⟨_, rfl⟩
        rw [hN] at HOwr
        rw [hN]
        by_cases hsp : k = 4 ∨ k = 6 ∨ k = 8 ∨ k = 10
        · have hN33 : N ≤ 33 := by rw [← hN]; rcases hsp with rfl | rfl | rfl | rfl <;> decide
          have HLn : Hid (lenP (k + 1) = N + 1 + 1 + 1) := by rw [← hN]; rcases hsp with rfl | rfl | rfl | rfl <;> rfl
          have HOut : Hid ((outP b (k + 1)).map (Value.int .u8) = (outP b k).map (Value.int .u8) ++ [.int .u8 45] ++ [.int .u8 (tab (b k / 16))] ++ [.int .u8 (tab (b k % 16))]) := by unfold Hid; simp [outP, grp, hsp]
          clear hN
          have hld' := hld
          rcases hsp with hk | hk | hk | hk
          · have q0 : ((k : Int) == 4) = true := by rw [beq_iff_eq]; omega
            clear hk
            go_wp2_with (at_builtin; refine wpList_append_fits _ rfl (.tmp 24) (.tmp 25) 25 rfl (w.heap.size + 1) 5 i0 1 Try.underlying25 hi hz1 (w.heap.size + 1) (N) 36 ((outP b k).map (Value.int .u8)) rfl (HOwr.out.alloc _) ⟨wr.heap.size, 0, none⟩ 1 1 [.int .u8 (45)] rfl rfl ?c1p_5 ?c2p_5 ?b1p_5 ?growp_5)
            case c1p_5 => intro j u hj; match j, hj with | 0, hj => simp at hj; subst hj; simp [Addr.add]
            case c2p_5 => intro u hu; simp at hu; subst hu; rfl
            case b1p_5 => omega
            case growp_5 =>
              intro wc hown2 hg2
              have HOwc : Hid (wc.ownsRow (w.heap.size + 1) 5 1 (.slice (some ⟨w.heap.size + 1, 0, none⟩) (N + 1) 36) (N + 1) (((outP b k).map (Value.int .u8)) ++ [.int .u8 (45)])) := by unfold Hid; simpa using hown2
              have HAwc : Hid (∀ k, k < 16 → wc.cell? ⟨w.heap.size, k, none⟩ = some (.int .u8 (b k))) := fun t ht => hg2.cell ((cell_past wr _ (HAwr.out t ht)).trans (HAwr.out t ht)) (by simp)
              have HBwc : Hid (Below w.heap.size w wc) := (HBwr.out.alloc (HBwr.out.size) _).grown hg2 (by simp; have := HBwr.out.size; omega) (fun t h => by simp at h; omega)
              have hldwc := HAwc.out k hlt
              clear hown2 hg2
              go_wp2_with (at_builtin; refine wpList_append_fits _ rfl (.tmp 27) (.tmp 33) 25 rfl (w.heap.size + 1) 5 i0 1 Try.underlying25 hi hz1 (w.heap.size + 1) (N + 1) 36 ((outP b k).map (Value.int .u8) ++ [.int .u8 45]) rfl (HOwc.out.alloc _) ⟨wc.heap.size, 0, none⟩ 1 1 [.int .u8 (tab (b k / 16))] rfl rfl ?c1p_4 ?c2p_4 ?b1p_4 ?growp_4)
              case c1p_4 => intro j u hj; match j, hj with | 0, hj => simp at hj; subst hj; simp [Addr.add]
              case c2p_4 => intro u hu; simp at hu; subst hu; rfl
              case b1p_4 => omega
              case growp_4 =>
                intro wa hown2 hg2
                have HOwa : Hid (wa.ownsRow (w.heap.size + 1) 5 1 (.slice (some ⟨w.heap.size + 1, 0, none⟩) (N + 1 + 1) 36) (N + 1 + 1) (((outP b k).map (Value.int .u8) ++ [.int .u8 45]) ++ [.int .u8 (tab (b k / 16))])) := by unfold Hid; simpa using hown2
                have HAwa : Hid (∀ k, k < 16 → wa.cell? ⟨w.heap.size, k, none⟩ = some (.int .u8 (b k))) := fun t ht => hg2.cell ((cell_past wc _ (HAwc.out t ht)).trans (HAwc.out t ht)) (by simp)
                have HBwa : Hid (Below w.heap.size w wa) := (HBwc.out.alloc (HBwc.out.size) _).grown hg2 (by simp; have := HBwc.out.size; omega) (fun t h => by simp at h; omega)
                have hldwa := HAwa.out k hlt
                clear hown2 hg2
                go_wp2_with (at_builtin; refine wpList_append_fits _ rfl (.tmp 35) (.tmp 41) 25 rfl (w.heap.size + 1) 5 i0 1 Try.underlying25 hi hz1 (w.heap.size + 1) (N + 1 + 1) 36 (((outP b k).map (Value.int .u8) ++ [.int .u8 45]) ++ [.int .u8 (tab (b k / 16))]) rfl (HOwa.out.alloc _) ⟨wa.heap.size, 0, none⟩ 1 1 [.int .u8 (tab (b k % 16))] rfl rfl ?c1p_3 ?c2p_3 ?b1p_3 ?growp_3)
                case c1p_3 => intro j u hj; match j, hj with | 0, hj => simp at hj; subst hj; simp [Addr.add]
                case c2p_3 => intro u hu; simp at hu; subst hu; rfl
                case b1p_3 => omega
                case growp_3 =>
                  intro wb hown2 hg2
                  have HOwb : Hid (wb.ownsRow (w.heap.size + 1) 5 1 (.slice (some ⟨w.heap.size + 1, 0, none⟩) (N + 1 + 1 + 1) 36) (N + 1 + 1 + 1) ((((outP b k).map (Value.int .u8) ++ [.int .u8 45]) ++ [.int .u8 (tab (b k / 16))]) ++ [.int .u8 (tab (b k % 16))])) := by unfold Hid; simpa using hown2
                  have HAwb : Hid (∀ k, k < 16 → wb.cell? ⟨w.heap.size, k, none⟩ = some (.int .u8 (b k))) := fun t ht => hg2.cell ((cell_past wa _ (HAwa.out t ht)).trans (HAwa.out t ht)) (by simp)
                  have HBwb : Hid (Below w.heap.size w wb) := (HBwa.out.alloc (HBwa.out.size) _).grown hg2 (by simp; have := HBwa.out.size; omega) (fun t h => by simp at h; omega)
                  have hldwb := HAwb.out k hlt
                  clear hown2 hg2
                  go_wp2
                  go_roundw
                  case rel => exact ⟨k + 1, by omega, by go_num, by rw [HLn.out], by unfold Hid; rw [HLn.out, HOut.out]; simpa using HOwb.out, HAwb, HBwb⟩
                  case measure => simp [intOf]; omega
          · have q0 : ((k : Int) == 4) = false := by rw [beq_eq_false_iff_ne]; omega
            have q1 : ((k : Int) == 6) = true := by rw [beq_iff_eq]; omega
            clear hk
            go_wp2_with (at_builtin; refine wpList_append_fits _ rfl (.tmp 24) (.tmp 25) 25 rfl (w.heap.size + 1) 5 i0 1 Try.underlying25 hi hz1 (w.heap.size + 1) (N) 36 ((outP b k).map (Value.int .u8)) rfl (HOwr.out.alloc _) ⟨wr.heap.size, 0, none⟩ 1 1 [.int .u8 (45)] rfl rfl ?c1q_5 ?c2q_5 ?b1q_5 ?growq_5)
            case c1q_5 => intro j u hj; match j, hj with | 0, hj => simp at hj; subst hj; simp [Addr.add]
            case c2q_5 => intro u hu; simp at hu; subst hu; rfl
            case b1q_5 => omega
            case growq_5 =>
              intro wc hown2 hg2
              have HOwc : Hid (wc.ownsRow (w.heap.size + 1) 5 1 (.slice (some ⟨w.heap.size + 1, 0, none⟩) (N + 1) 36) (N + 1) (((outP b k).map (Value.int .u8)) ++ [.int .u8 (45)])) := by unfold Hid; simpa using hown2
              have HAwc : Hid (∀ k, k < 16 → wc.cell? ⟨w.heap.size, k, none⟩ = some (.int .u8 (b k))) := fun t ht => hg2.cell ((cell_past wr _ (HAwr.out t ht)).trans (HAwr.out t ht)) (by simp)
              have HBwc : Hid (Below w.heap.size w wc) := (HBwr.out.alloc (HBwr.out.size) _).grown hg2 (by simp; have := HBwr.out.size; omega) (fun t h => by simp at h; omega)
              have hldwc := HAwc.out k hlt
              clear hown2 hg2
              go_wp2_with (at_builtin; refine wpList_append_fits _ rfl (.tmp 27) (.tmp 33) 25 rfl (w.heap.size + 1) 5 i0 1 Try.underlying25 hi hz1 (w.heap.size + 1) (N + 1) 36 ((outP b k).map (Value.int .u8) ++ [.int .u8 45]) rfl (HOwc.out.alloc _) ⟨wc.heap.size, 0, none⟩ 1 1 [.int .u8 (tab (b k / 16))] rfl rfl ?c1q_4 ?c2q_4 ?b1q_4 ?growq_4)
              case c1q_4 => intro j u hj; match j, hj with | 0, hj => simp at hj; subst hj; simp [Addr.add]
              case c2q_4 => intro u hu; simp at hu; subst hu; rfl
              case b1q_4 => omega
              case growq_4 =>
                intro wa hown2 hg2
                have HOwa : Hid (wa.ownsRow (w.heap.size + 1) 5 1 (.slice (some ⟨w.heap.size + 1, 0, none⟩) (N + 1 + 1) 36) (N + 1 + 1) (((outP b k).map (Value.int .u8) ++ [.int .u8 45]) ++ [.int .u8 (tab (b k / 16))])) := by unfold Hid; simpa using hown2
                have HAwa : Hid (∀ k, k < 16 → wa.cell? ⟨w.heap.size, k, none⟩ = some (.int .u8 (b k))) := fun t ht => hg2.cell ((cell_past wc _ (HAwc.out t ht)).trans (HAwc.out t ht)) (by simp)
                have HBwa : Hid (Below w.heap.size w wa) := (HBwc.out.alloc (HBwc.out.size) _).grown hg2 (by simp; have := HBwc.out.size; omega) (fun t h => by simp at h; omega)
                have hldwa := HAwa.out k hlt
                clear hown2 hg2
                go_wp2_with (at_builtin; refine wpList_append_fits _ rfl (.tmp 35) (.tmp 41) 25 rfl (w.heap.size + 1) 5 i0 1 Try.underlying25 hi hz1 (w.heap.size + 1) (N + 1 + 1) 36 (((outP b k).map (Value.int .u8) ++ [.int .u8 45]) ++ [.int .u8 (tab (b k / 16))]) rfl (HOwa.out.alloc _) ⟨wa.heap.size, 0, none⟩ 1 1 [.int .u8 (tab (b k % 16))] rfl rfl ?c1q_3 ?c2q_3 ?b1q_3 ?growq_3)
                case c1q_3 => intro j u hj; match j, hj with | 0, hj => simp at hj; subst hj; simp [Addr.add]
                case c2q_3 => intro u hu; simp at hu; subst hu; rfl
                case b1q_3 => omega
                case growq_3 =>
                  intro wb hown2 hg2
                  have HOwb : Hid (wb.ownsRow (w.heap.size + 1) 5 1 (.slice (some ⟨w.heap.size + 1, 0, none⟩) (N + 1 + 1 + 1) 36) (N + 1 + 1 + 1) ((((outP b k).map (Value.int .u8) ++ [.int .u8 45]) ++ [.int .u8 (tab (b k / 16))]) ++ [.int .u8 (tab (b k % 16))])) := by unfold Hid; simpa using hown2
                  have HAwb : Hid (∀ k, k < 16 → wb.cell? ⟨w.heap.size, k, none⟩ = some (.int .u8 (b k))) := fun t ht => hg2.cell ((cell_past wa _ (HAwa.out t ht)).trans (HAwa.out t ht)) (by simp)
                  have HBwb : Hid (Below w.heap.size w wb) := (HBwa.out.alloc (HBwa.out.size) _).grown hg2 (by simp; have := HBwa.out.size; omega) (fun t h => by simp at h; omega)
                  have hldwb := HAwb.out k hlt
                  clear hown2 hg2
                  go_wp2
                  go_roundw
                  case rel => exact ⟨k + 1, by omega, by go_num, by rw [HLn.out], by unfold Hid; rw [HLn.out, HOut.out]; simpa using HOwb.out, HAwb, HBwb⟩
                  case measure => simp [intOf]; omega
          · have q0 : ((k : Int) == 4) = false := by rw [beq_eq_false_iff_ne]; omega
            have q1 : ((k : Int) == 6) = false := by rw [beq_eq_false_iff_ne]; omega
            have q2 : ((k : Int) == 8) = true := by rw [beq_iff_eq]; omega
            clear hk
            go_wp2_with (at_builtin; refine wpList_append_fits _ rfl (.tmp 24) (.tmp 25) 25 rfl (w.heap.size + 1) 5 i0 1 Try.underlying25 hi hz1 (w.heap.size + 1) (N) 36 ((outP b k).map (Value.int .u8)) rfl (HOwr.out.alloc _) ⟨wr.heap.size, 0, none⟩ 1 1 [.int .u8 (45)] rfl rfl ?c1r_5 ?c2r_5 ?b1r_5 ?growr_5)
            case c1r_5 => intro j u hj; match j, hj with | 0, hj => simp at hj; subst hj; simp [Addr.add]
            case c2r_5 => intro u hu; simp at hu; subst hu; rfl
            case b1r_5 => omega
            case growr_5 =>
              intro wc hown2 hg2
              have HOwc : Hid (wc.ownsRow (w.heap.size + 1) 5 1 (.slice (some ⟨w.heap.size + 1, 0, none⟩) (N + 1) 36) (N + 1) (((outP b k).map (Value.int .u8)) ++ [.int .u8 (45)])) := by unfold Hid; simpa using hown2
              have HAwc : Hid (∀ k, k < 16 → wc.cell? ⟨w.heap.size, k, none⟩ = some (.int .u8 (b k))) := fun t ht => hg2.cell ((cell_past wr _ (HAwr.out t ht)).trans (HAwr.out t ht)) (by simp)
              have HBwc : Hid (Below w.heap.size w wc) := (HBwr.out.alloc (HBwr.out.size) _).grown hg2 (by simp; have := HBwr.out.size; omega) (fun t h => by simp at h; omega)
              have hldwc := HAwc.out k hlt
              clear hown2 hg2
              go_wp2_with (at_builtin; refine wpList_append_fits _ rfl (.tmp 27) (.tmp 33) 25 rfl (w.heap.size + 1) 5 i0 1 Try.underlying25 hi hz1 (w.heap.size + 1) (N + 1) 36 ((outP b k).map (Value.int .u8) ++ [.int .u8 45]) rfl (HOwc.out.alloc _) ⟨wc.heap.size, 0, none⟩ 1 1 [.int .u8 (tab (b k / 16))] rfl rfl ?c1r_4 ?c2r_4 ?b1r_4 ?growr_4)
              case c1r_4 => intro j u hj; match j, hj with | 0, hj => simp at hj; subst hj; simp [Addr.add]
              case c2r_4 => intro u hu; simp at hu; subst hu; rfl
              case b1r_4 => omega
              case growr_4 =>
                intro wa hown2 hg2
                have HOwa : Hid (wa.ownsRow (w.heap.size + 1) 5 1 (.slice (some ⟨w.heap.size + 1, 0, none⟩) (N + 1 + 1) 36) (N + 1 + 1) (((outP b k).map (Value.int .u8) ++ [.int .u8 45]) ++ [.int .u8 (tab (b k / 16))])) := by unfold Hid; simpa using hown2
                have HAwa : Hid (∀ k, k < 16 → wa.cell? ⟨w.heap.size, k, none⟩ = some (.int .u8 (b k))) := fun t ht => hg2.cell ((cell_past wc _ (HAwc.out t ht)).trans (HAwc.out t ht)) (by simp)
                have HBwa : Hid (Below w.heap.size w wa) := (HBwc.out.alloc (HBwc.out.size) _).grown hg2 (by simp; have := HBwc.out.size; omega) (fun t h => by simp at h; omega)
                have hldwa := HAwa.out k hlt
                clear hown2 hg2
                go_wp2_with (at_builtin; refine wpList_append_fits _ rfl (.tmp 35) (.tmp 41) 25 rfl (w.heap.size + 1) 5 i0 1 Try.underlying25 hi hz1 (w.heap.size + 1) (N + 1 + 1) 36 (((outP b k).map (Value.int .u8) ++ [.int .u8 45]) ++ [.int .u8 (tab (b k / 16))]) rfl (HOwa.out.alloc _) ⟨wa.heap.size, 0, none⟩ 1 1 [.int .u8 (tab (b k % 16))] rfl rfl ?c1r_3 ?c2r_3 ?b1r_3 ?growr_3)
                case c1r_3 => intro j u hj; match j, hj with | 0, hj => simp at hj; subst hj; simp [Addr.add]
                case c2r_3 => intro u hu; simp at hu; subst hu; rfl
                case b1r_3 => omega
                case growr_3 =>
                  intro wb hown2 hg2
                  have HOwb : Hid (wb.ownsRow (w.heap.size + 1) 5 1 (.slice (some ⟨w.heap.size + 1, 0, none⟩) (N + 1 + 1 + 1) 36) (N + 1 + 1 + 1) ((((outP b k).map (Value.int .u8) ++ [.int .u8 45]) ++ [.int .u8 (tab (b k / 16))]) ++ [.int .u8 (tab (b k % 16))])) := by unfold Hid; simpa using hown2
                  have HAwb : Hid (∀ k, k < 16 → wb.cell? ⟨w.heap.size, k, none⟩ = some (.int .u8 (b k))) := fun t ht => hg2.cell ((cell_past wa _ (HAwa.out t ht)).trans (HAwa.out t ht)) (by simp)
                  have HBwb : Hid (Below w.heap.size w wb) := (HBwa.out.alloc (HBwa.out.size) _).grown hg2 (by simp; have := HBwa.out.size; omega) (fun t h => by simp at h; omega)
                  have hldwb := HAwb.out k hlt
                  clear hown2 hg2
                  go_wp2
                  go_roundw
                  case rel => exact ⟨k + 1, by omega, by go_num, by rw [HLn.out], by unfold Hid; rw [HLn.out, HOut.out]; simpa using HOwb.out, HAwb, HBwb⟩
                  case measure => simp [intOf]; omega
          · have q0 : ((k : Int) == 4) = false := by rw [beq_eq_false_iff_ne]; omega
            have q1 : ((k : Int) == 6) = false := by rw [beq_eq_false_iff_ne]; omega
            have q2 : ((k : Int) == 8) = false := by rw [beq_eq_false_iff_ne]; omega
            have q3 : ((k : Int) == 10) = true := by rw [beq_iff_eq]; omega
            clear hk
            go_wp2_with (at_builtin; refine wpList_append_fits _ rfl (.tmp 24) (.tmp 25) 25 rfl (w.heap.size + 1) 5 i0 1 Try.underlying25 hi hz1 (w.heap.size + 1) (N) 36 ((outP b k).map (Value.int .u8)) rfl (HOwr.out.alloc _) ⟨wr.heap.size, 0, none⟩ 1 1 [.int .u8 (45)] rfl rfl ?c1s_5 ?c2s_5 ?b1s_5 ?grows_5)
            case c1s_5 => intro j u hj; match j, hj with | 0, hj => simp at hj; subst hj; simp [Addr.add]
            case c2s_5 => intro u hu; simp at hu; subst hu; rfl
            case b1s_5 => omega
            case grows_5 =>
              intro wc hown2 hg2
              have HOwc : Hid (wc.ownsRow (w.heap.size + 1) 5 1 (.slice (some ⟨w.heap.size + 1, 0, none⟩) (N + 1) 36) (N + 1) (((outP b k).map (Value.int .u8)) ++ [.int .u8 (45)])) := by unfold Hid; simpa using hown2
              have HAwc : Hid (∀ k, k < 16 → wc.cell? ⟨w.heap.size, k, none⟩ = some (.int .u8 (b k))) := fun t ht => hg2.cell ((cell_past wr _ (HAwr.out t ht)).trans (HAwr.out t ht)) (by simp)
              have HBwc : Hid (Below w.heap.size w wc) := (HBwr.out.alloc (HBwr.out.size) _).grown hg2 (by simp; have := HBwr.out.size; omega) (fun t h => by simp at h; omega)
              have hldwc := HAwc.out k hlt
              clear hown2 hg2
              go_wp2_with (at_builtin; refine wpList_append_fits _ rfl (.tmp 27) (.tmp 33) 25 rfl (w.heap.size + 1) 5 i0 1 Try.underlying25 hi hz1 (w.heap.size + 1) (N + 1) 36 ((outP b k).map (Value.int .u8) ++ [.int .u8 45]) rfl (HOwc.out.alloc _) ⟨wc.heap.size, 0, none⟩ 1 1 [.int .u8 (tab (b k / 16))] rfl rfl ?c1s_4 ?c2s_4 ?b1s_4 ?grows_4)
              case c1s_4 => intro j u hj; match j, hj with | 0, hj => simp at hj; subst hj; simp [Addr.add]
              case c2s_4 => intro u hu; simp at hu; subst hu; rfl
              case b1s_4 => omega
              case grows_4 =>
                intro wa hown2 hg2
                have HOwa : Hid (wa.ownsRow (w.heap.size + 1) 5 1 (.slice (some ⟨w.heap.size + 1, 0, none⟩) (N + 1 + 1) 36) (N + 1 + 1) (((outP b k).map (Value.int .u8) ++ [.int .u8 45]) ++ [.int .u8 (tab (b k / 16))])) := by unfold Hid; simpa using hown2
                have HAwa : Hid (∀ k, k < 16 → wa.cell? ⟨w.heap.size, k, none⟩ = some (.int .u8 (b k))) := fun t ht => hg2.cell ((cell_past wc _ (HAwc.out t ht)).trans (HAwc.out t ht)) (by simp)
                have HBwa : Hid (Below w.heap.size w wa) := (HBwc.out.alloc (HBwc.out.size) _).grown hg2 (by simp; have := HBwc.out.size; omega) (fun t h => by simp at h; omega)
                have hldwa := HAwa.out k hlt
                clear hown2 hg2
                go_wp2_with (at_builtin; refine wpList_append_fits _ rfl (.tmp 35) (.tmp 41) 25 rfl (w.heap.size + 1) 5 i0 1 Try.underlying25 hi hz1 (w.heap.size + 1) (N + 1 + 1) 36 (((outP b k).map (Value.int .u8) ++ [.int .u8 45]) ++ [.int .u8 (tab (b k / 16))]) rfl (HOwa.out.alloc _) ⟨wa.heap.size, 0, none⟩ 1 1 [.int .u8 (tab (b k % 16))] rfl rfl ?c1s_3 ?c2s_3 ?b1s_3 ?grows_3)
                case c1s_3 => intro j u hj; match j, hj with | 0, hj => simp at hj; subst hj; simp [Addr.add]
                case c2s_3 => intro u hu; simp at hu; subst hu; rfl
                case b1s_3 => omega
                case grows_3 =>
                  intro wb hown2 hg2
                  have HOwb : Hid (wb.ownsRow (w.heap.size + 1) 5 1 (.slice (some ⟨w.heap.size + 1, 0, none⟩) (N + 1 + 1 + 1) 36) (N + 1 + 1 + 1) ((((outP b k).map (Value.int .u8) ++ [.int .u8 45]) ++ [.int .u8 (tab (b k / 16))]) ++ [.int .u8 (tab (b k % 16))])) := by unfold Hid; simpa using hown2
                  have HAwb : Hid (∀ k, k < 16 → wb.cell? ⟨w.heap.size, k, none⟩ = some (.int .u8 (b k))) := fun t ht => hg2.cell ((cell_past wa _ (HAwa.out t ht)).trans (HAwa.out t ht)) (by simp)
                  have HBwb : Hid (Below w.heap.size w wb) := (HBwa.out.alloc (HBwa.out.size) _).grown hg2 (by simp; have := HBwa.out.size; omega) (fun t h => by simp at h; omega)
                  have hldwb := HAwb.out k hlt
                  clear hown2 hg2
                  go_wp2
                  go_roundw
                  case rel => exact ⟨k + 1, by omega, by go_num, by rw [HLn.out], by unfold Hid; rw [HLn.out, HOut.out]; simpa using HOwb.out, HAwb, HBwb⟩
                  case measure => simp [intOf]; omega
        · have hN34 : N ≤ 34 := by rw [← hN]; exact lenP_le k hlt
          have HLn : Hid (lenP (k + 1) = N + 1 + 1) := by rw [← hN]; exact lenP_step k hsp
          have HOut : Hid ((outP b (k + 1)).map (Value.int .u8) = (outP b k).map (Value.int .u8) ++ [.int .u8 (tab (b k / 16))] ++ [.int .u8 (tab (b k % 16))]) := by unfold Hid; simp [outP, grp, hsp]
          have k1 : ((k : Int) == 4) = false := by rw [beq_eq_false_iff_ne]; omega
          have k2 : ((k : Int) == 6) = false := by rw [beq_eq_false_iff_ne]; omega
          have k3 : ((k : Int) == 8) = false := by rw [beq_eq_false_iff_ne]; omega
          have k4 : ((k : Int) == 10) = false := by rw [beq_eq_false_iff_ne]; omega
          clear hN hsp
          go_wp2_with (at_builtin; refine wpList_append_fits _ rfl (.tmp 27) (.tmp 33) 25 rfl (w.heap.size + 1) 5 i0 1 Try.underlying25 hi hz1 (w.heap.size + 1) (N) 36 ((outP b k).map (Value.int .u8)) rfl (HOwr.out.alloc _) ⟨wr.heap.size, 0, none⟩ 1 1 [.int .u8 (tab (b k / 16))] rfl rfl ?c1_2 ?c2_2 ?b1_2 ?grow_2)
          case c1_2 => intro j u hj; match j, hj with | 0, hj => simp at hj; subst hj; simp [Addr.add]
          case c2_2 => intro u hu; simp at hu; subst hu; rfl
          case b1_2 => omega
          case grow_2 =>
            intro wa hown2 hg2
            have HOwa : Hid (wa.ownsRow (w.heap.size + 1) 5 1 (.slice (some ⟨w.heap.size + 1, 0, none⟩) (N + 1) 36) (N + 1) (((outP b k).map (Value.int .u8)) ++ [.int .u8 (tab (b k / 16))])) := by unfold Hid; simpa using hown2
            have HAwa : Hid (∀ k, k < 16 → wa.cell? ⟨w.heap.size, k, none⟩ = some (.int .u8 (b k))) := fun t ht => hg2.cell ((cell_past wr _ (HAwr.out t ht)).trans (HAwr.out t ht)) (by simp)
            have HBwa : Hid (Below w.heap.size w wa) := (HBwr.out.alloc (HBwr.out.size) _).grown hg2 (by simp; have := HBwr.out.size; omega) (fun t h => by simp at h; omega)
            have hldwa := HAwa.out k hlt
            clear hown2 hg2
            go_wp2_with (at_builtin; refine wpList_append_fits _ rfl (.tmp 35) (.tmp 41) 25 rfl (w.heap.size + 1) 5 i0 1 Try.underlying25 hi hz1 (w.heap.size + 1) (N + 1) 36 (((outP b k).map (Value.int .u8)) ++ [.int .u8 (tab (b k / 16))]) rfl (HOwa.out.alloc _) ⟨wa.heap.size, 0, none⟩ 1 1 [.int .u8 (tab (b k % 16))] rfl rfl ?c1_1 ?c2_1 ?b1_1 ?grow_1)
            case c1_1 => intro j u hj; match j, hj with | 0, hj => simp at hj; subst hj; simp [Addr.add]
            case c2_1 => intro u hu; simp at hu; subst hu; rfl
            case b1_1 => omega
            case grow_1 =>
              intro wb hown2 hg2
              have HOwb : Hid (wb.ownsRow (w.heap.size + 1) 5 1 (.slice (some ⟨w.heap.size + 1, 0, none⟩) (N + 1 + 1) 36) (N + 1 + 1) ((((outP b k).map (Value.int .u8)) ++ [.int .u8 (tab (b k / 16))]) ++ [.int .u8 (tab (b k % 16))])) := by unfold Hid; simpa using hown2
              have HAwb : Hid (∀ k, k < 16 → wb.cell? ⟨w.heap.size, k, none⟩ = some (.int .u8 (b k))) := fun t ht => hg2.cell ((cell_past wa _ (HAwa.out t ht)).trans (HAwa.out t ht)) (by simp)
              have HBwb : Hid (Below w.heap.size w wb) := (HBwa.out.alloc (HBwa.out.size) _).grown hg2 (by simp; have := HBwa.out.size; omega) (fun t h => by simp at h; omega)
              have hldwb := HAwb.out k hlt
              clear hown2 hg2
              go_wp2
              go_roundw
              case rel => exact ⟨k + 1, by omega, by go_num, by rw [HLn.out], by unfold Hid; rw [HLn.out, HOut.out]; simpa using HOwb.out, HAwb, HBwb⟩
              case measure => simp [intOf]; omega
      · obtain rfl : k = 16 := by omega
        have hcv := run_convert_bytes_arg (P := Try.prog) wr 25 5 Try.underlying25 Try.underlying5 (w.heap.size + 1) 0 36 36 (outP b 16) (outP_len b 16) (fun i hi => by
          rw [Nat.zero_add]
          exact own_cell HOwr.out i (by simpa [lenP] using hi)) 9 Try.underlying9
        have hl16 : lenP 16 = 36 := rfl
        go_wp2
        go_ret
        exact ⟨rfl, HBwr.out⟩
end Go.Proofs.Qxb6609019a
