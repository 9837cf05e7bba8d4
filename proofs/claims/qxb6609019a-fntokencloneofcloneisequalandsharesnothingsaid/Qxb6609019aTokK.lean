import Derived.Test.Qxb6609019aTokJ
namespace Go.Proofs.Qxb6609019a
open Go.RowKit

set_option maxHeartbeats 4000000 in
theorem ids_clone (sl nl : Nat) (sz nz : Bool) (N A B : Nat → ByteArray) (dz : Nat → Bool) (dl : Nat → Nat) (dN : Nat → Nat → ByteArray) (dv : Nat → Value) (sv nv : Value) (w : World)
    (b1 : sl ≤ 1048576) (b2 : nl ≤ 1048576) (b3 : ∀ k, k < sl → dl k ≤ 1048576) (hz : ∀ k, k < sl → dz k = true → dl k = 0)
    (hs : Arg w sv sz sl (sl * 2) (svcV N dv)) (hn : Arg w nv nz nl (nl * 2) (nodV A B)) (hds : ∀ k, k < sl → Arg w (dv k) (dz k) (dl k) (dl k) (fun i => .string (dN k i))) :
    Calls Try.prog 31 #[.agg #[sv, nv]] w fun e w' => ∃ (sv' nv' : Value) (dv' : Nat → Value) (tg : Nat → Nat), e = .returned (.agg #[sv', nv']) ∧ Below w.heap.size w w' ∧
      Slot w' (fun b => w.heap.size ≤ b ∧ tg b = 3) sv' false sl (sl * 2) (svcV N dv') ∧ Slot w' (fun b => w.heap.size ≤ b ∧ tg b = 4) nv' false nl (nl * 2) (nodV A B) ∧
      ∀ q, q < sl → Slot w' (fun b => w.heap.size ≤ b ∧ tg b = 5 + q) (dv' q) (dz q) (dl q) (dl q) (fun i => .string (dN q i)) := by
  obtain ⟨sa, sb, so, sc, rfl, _, hSa, hSc⟩ := hs
  obtain ⟨na, nb, no, nc, rfl, _, hNa, hNc⟩ := hn
  have hmk1 := run_make_cap (P := Try.prog) 37 61 _ 2 40 Try.underlying37 Try.info61 .i64 .i64 sl (by omega) (by omega)
  have hmk2 := run_make_cap (P := Try.prog) 38 62 _ 2 32 Try.underlying38 Try.info62 .i64 .i64 nl (by omega) (by omega)
  have HNa : Hid (0 < nl → na = some ⟨nb, no, none⟩) := hNa
  have HNc : Hid (∀ i, i < nl * 2 → w.cell? ⟨nb, no + i, none⟩ = some (nodV A B i)) := hNc
  clear hNa hNc
  go_enter Try.func31, Try.ntmps31
  go_upto_region 1 with fail
  go_cut [3] from 6 to 17 (fun s3 wx => ∃ cb g1 g2 : Nat, s3 = .pointer (some ⟨cb, 0, none⟩) ∧ Hid (R1 ((w.alloc (.cells #[.slice sa sl sc, .slice na nl nc] 40)).alloc (.cells #[.slice none 0 0, .slice none 0 0] 40)) wx (w.heap.size + 2) sl nl A B cb g1 g2))
  case first =>
    have hWs : w.heap.size + 2 ≤ ((w.alloc (.cells #[.slice sa sl sc, .slice na nl nc] 40)).alloc (.cells #[.slice none 0 0, .slice none 0 0] 40)).heap.size := by simp
    have hW0 : ((w.alloc (.cells #[.slice sa sl sc, .slice na nl nc] 40)).alloc (.cells #[.slice none 0 0, .slice none 0 0] 40)).cell? ⟨w.heap.size, 0, none⟩ = some (.slice sa sl sc) := by simp [go_sem]
    have hW1 : ((w.alloc (.cells #[.slice sa sl sc, .slice na nl nc] 40)).alloc (.cells #[.slice none 0 0, .slice none 0 0] 40)).cell? ⟨w.heap.size, 1, none⟩ = some (.slice na nl nc) := by simp [go_sem]
    refine wp_region_any (by kernel_rfl) ?_
    refine wpAny_inv (fun L a wx => ∃ s, a = actS (.agg #[.slice sa sl sc, .slice na nl nc]) w.heap.size s ∧ St ((w.alloc (.cells #[.slice sa sl sc, .slice na nl nc] 40)).alloc (.cells #[.slice none 0 0, .slice none 0 0] 40)) (w.heap.size + 2) w.heap.size sl nl sa na sc nc A B L s wx) ?step ?fin _ _ _ _ (fun _ => false) (by simp) (fun j => getD_repl _ j) ?init (by simp)
    case init =>
      refine ⟨fun _ => undef, rfl, ⟨hW0, hW1, (Below.refl _ _).drew, ?_, ?_, ?_, ?_, ?_, ?_, ?_, ?_, ?_, ?_, ?_, ?_, ?_, ?_⟩⟩ <;> intro h <;> cases h
    case fin =>
      rintro L a wx ⟨s, rfl, hst⟩ hno
      have l0 : L 0 = true := by
        cases hb : L 0
        · obtain ⟨e, he, _, hf⟩ := hno 0 _ rfl hb
          exact absurd he (by simp)
        · rfl
      have l1 : L 1 = true := by
        cases hb : L 1
        · obtain ⟨e, he, _, hf⟩ := hno 1 _ rfl hb
          rcases (by simpa using he : e = { on := 0, ground := .data }) with rfl
          · exact absurd (hf.symm.trans l0) (by decide)
        · rfl
      have l2 : L 2 = true := by
        cases hb : L 2
        · obtain ⟨e, he, _, hf⟩ := hno 2 _ rfl hb
          rcases (by simpa using he : e = { on := 1, ground := .data }) with rfl
          · exact absurd (hf.symm.trans l1) (by decide)
        · rfl
      have l3 : L 3 = true := by
        cases hb : L 3
        · obtain ⟨e, he, _, hf⟩ := hno 3 _ rfl hb
          rcases (by simpa using he : e = { on := 2, ground := .data }) with rfl
          · exact absurd (hf.symm.trans l2) (by decide)
        · rfl
      have l4 : L 4 = true := by
        cases hb : L 4
        · obtain ⟨e, he, _, hf⟩ := hno 4 _ rfl hb
          exact absurd he (by simp)
        · rfl
      have l5 : L 5 = true := by
        cases hb : L 5
        · obtain ⟨e, he, _, hf⟩ := hno 5 _ rfl hb
          rcases (by simpa using he : e = { on := 4, ground := .data }) with rfl
          · exact absurd (hf.symm.trans l4) (by decide)
        · rfl
      have l6 : L 6 = true := by
        cases hb : L 6
        · obtain ⟨e, he, _, hf⟩ := hno 6 _ rfl hb
          rcases (by simpa using he : e = { on := 5, ground := .data }) with rfl
          · exact absurd (hf.symm.trans l5) (by decide)
        · rfl
      have l7 : L 7 = true := by
        cases hb : L 7
        · obtain ⟨e, he, _, hf⟩ := hno 7 _ rfl hb
          rcases (by simpa using he : e = { on := 6, ground := .data }) with rfl
          · exact absurd (hf.symm.trans l6) (by decide)
        · rfl
      have l8 : L 8 = true := by
        cases hb : L 8
        · obtain ⟨e, he, _, hf⟩ := hno 8 _ rfl hb
          exact absurd he (by simp)
        · rfl
      have l9 : L 9 = true := by
        cases hb : L 9
        · obtain ⟨e, he, _, hf⟩ := hno 9 _ rfl hb
          rcases (by simpa using he : e = { on := 8, ground := .data }) with rfl
          · exact absurd (hf.symm.trans l8) (by decide)
        · rfl
      have l10 : L 10 = true := by
        cases hb : L 10
        · obtain ⟨e, he, _, hf⟩ := hno 10 _ rfl hb
          rcases (by simpa using he : e = { on := 7, ground := .data } ∨ e = { on := 9, ground := .data }) with rfl | rfl
          · exact absurd (hf.symm.trans l7) (by decide)
          · exact absurd (hf.symm.trans l9) (by decide)
        · rfl
      have l11 : L 11 = true := by
        cases hb : L 11
        · obtain ⟨e, he, _, hf⟩ := hno 11 _ rfl hb
          rcases (by simpa using he : e = { on := 3, ground := .data } ∨ e = { on := 10, ground := .data }) with rfl | rfl
          · exact absurd (hf.symm.trans l3) (by decide)
          · exact absurd (hf.symm.trans l10) (by decide)
        · rfl
      have l12 : L 12 = true := by
        cases hb : L 12
        · obtain ⟨e, he, _, hf⟩ := hno 12 _ rfl hb
          exact absurd he (by simp)
        · rfl
      have l13 : L 13 = true := by
        cases hb : L 13
        · obtain ⟨e, he, _, hf⟩ := hno 13 _ rfl hb
          simp at he
          repeat (rcases he with rfl | he; (· simp [l0, l1, l2, l3, l4, l5, l6, l7, l8, l9, l10, l11, l12] at hf))
          all_goals (subst he; simp [l0, l1, l2, l3, l4, l5, l6, l7, l8, l9, l10, l11, l12] at hf)
        · rfl
      obtain ⟨g1, cur1, e9, hg1, hcur1, hB1⟩ := hst.h3 l3
      obtain ⟨_, g2, cur2, e16, hg2, hcur2, hc2, hB2⟩ := hst.h10 l10
      obtain ⟨cb, cs, e3, hcb, _, hBc, hcs⟩ := hst.h12 l12
      have hcs' := hcs l13
      rw [e9, e16] at hcs'
      subst hcs'
      have hr : R1 ((w.alloc (.cells #[.slice sa sl sc, .slice na nl nc] 40)).alloc (.cells #[.slice none 0 0, .slice none 0 0] 40)) wx (w.heap.size + 2) sl nl A B cb g1 g2 :=
        ⟨hcb, ⟨cur1, hg1, hcur1⟩, ⟨cur2, 62, hg2, hcur2, hc2⟩, ⟨fun e => by subst e; rw [hcb] at hg1; simp at hg1, fun e => by subst e; rw [hcb] at hg2; simp at hg2, fun e => by subst e; rw [hg1] at hg2; simp at hg2⟩, ⟨hBc, hB1, hB2⟩, hst.be⟩
      have HR : Hid (R1 ((w.alloc (.cells #[.slice sa sl sc, .slice na nl nc] 40)).alloc (.cells #[.slice none 0 0, .slice none 0 0] 40)) wx (w.heap.size + 2) sl nl A B cb g1 g2) := hr
      clear hr hst hno hcb hg1 hg2
      go_wp2_with fail
      go_meet
      case rel => exact ⟨cb, g1, g2, e3, HR⟩
    case step =>
      rintro L a wx ⟨s, rfl, hst⟩ i o ho hLi hall
      have hlt : i < 14 := (Array.getElem?_eq_some_iff.1 ho).1
      rcases (by omega : i = 0 ∨ i = 1 ∨ i = 2 ∨ i = 3 ∨ i = 4 ∨ i = 5 ∨ i = 6 ∨ i = 7 ∨ i = 8 ∨ i = 9 ∨ i = 10 ∨ i = 11 ∨ i = 12 ∨ i = 13) with rfl | rfl | rfl | rfl | rfl | rfl | rfl | rfl | rfl | rfl | rfl | rfl | rfl | rfl
      all_goals obtain rfl := Option.some.inj ho
      · refine wpOp_step rfl (fun K' hK => ?_)
        rw [if_pos (by rfl)]
        go_simp
        exact hK _ _ ⟨upS s 6 (.pointer (some ⟨w.heap.size, 0, none⟩)), rfl, ⟨hst.c0, hst.c1, hst.be, fun _ => rfl, hst.h1, hst.h2, hst.h3, hst.h4, hst.h5, hst.h6, hst.h7, hst.h8, hst.h9, hst.h10, hst.h11, hst.h12, hst.h13⟩⟩
      · refine wpOp_step rfl (fun K' hK => ?_)
        rw [if_pos (by rfl)]
        have e6 := hst.h0 (hall { on := 0, ground := .data } (by simp) rfl)
        have c0 := hst.c0
        go_simp
        exact hK _ _ ⟨upS (upS s 6 (.pointer (some ⟨w.heap.size, 0, none⟩))) 7 (.slice sa sl sc), rfl, ⟨hst.c0, hst.c1, hst.be, fun _ => rfl, fun _ => rfl, hst.h2, hst.h3, hst.h4, hst.h5, hst.h6, hst.h7, hst.h8, hst.h9, hst.h10, hst.h11, hst.h12, hst.h13⟩⟩
      · refine wpOp_step rfl (fun K' hK => ?_)
        rw [if_pos (by rfl)]
        have e7 := hst.h1 (hall { on := 1, ground := .data } (by simp) rfl)
        go_simp
        exact hK _ _ ⟨upS (upS s 7 (.slice sa sl sc)) 8 (.int .i64 sl), rfl, ⟨hst.c0, hst.c1, hst.be, hst.h0, fun _ => rfl, fun _ => rfl, hst.h3, hst.h4, hst.h5, hst.h6, hst.h7, hst.h8, hst.h9, hst.h10, hst.h11, hst.h12, hst.h13⟩⟩
      · refine wpOp_step rfl (fun K' hK => ?_)
        rw [if_pos (by rfl)]
        have e8 := hst.h2 (hall { on := 2, ground := .data } (by simp) rfl)
        go_simp
        have h' := hst.alloc hWs (.cells (madeCells #[.string ByteArray.empty, .slice none 0 0] (sl * 2)) 61)
        exact hK _ _ ⟨upS (upS s 8 (.int .i64 sl)) 9 (.slice (some ⟨wx.heap.size, 0, none⟩) 0 sl), rfl, ⟨h'.c0, h'.c1, h'.be, h'.h0, h'.h1, fun _ => rfl, fun _ => ⟨wx.heap.size, _, rfl, Go.Deep.blk_alloc_new _ _, size_madeCells _ _, Nat.le_trans hWs hst.be.size⟩, h'.h4, h'.h5, h'.h6, h'.h7, h'.h8, h'.h9, h'.h10, fun hl => absurd (h'.h11 hl).1 (by rw [hLi]; decide), fun hl => by obtain ⟨g, cs, e1, e2, e3, e4, e5⟩ := h'.h12 hl; exact ⟨g, cs, e1, e2, e3, e4, fun hl2 => absurd (h'.h11 (h'.h13 hl2).1).1 (by rw [hLi]; decide)⟩, h'.h13⟩⟩
      · refine wpOp_step rfl (fun K' hK => ?_)
        rw [if_pos (by rfl)]
        go_simp
        exact hK _ _ ⟨upS s 10 (.pointer (some ⟨w.heap.size, 1, none⟩)), rfl, ⟨hst.c0, hst.c1, hst.be, hst.h0, hst.h1, hst.h2, hst.h3, fun _ => rfl, hst.h5, hst.h6, hst.h7, hst.h8, hst.h9, hst.h10, hst.h11, hst.h12, hst.h13⟩⟩
      · refine wpOp_step rfl (fun K' hK => ?_)
        rw [if_pos (by rfl)]
        have e6 := hst.h4 (hall { on := 4, ground := .data } (by simp) rfl)
        have c1 := hst.c1
        go_simp
        exact hK _ _ ⟨upS (upS s 10 (.pointer (some ⟨w.heap.size, 1, none⟩))) 11 (.slice na nl nc), rfl, ⟨hst.c0, hst.c1, hst.be, hst.h0, hst.h1, hst.h2, hst.h3, fun _ => rfl, fun _ => rfl, hst.h6, hst.h7, hst.h8, hst.h9, hst.h10, hst.h11, hst.h12, hst.h13⟩⟩
      · refine wpOp_step rfl (fun K' hK => ?_)
        rw [if_pos (by rfl)]
        have e7 := hst.h5 (hall { on := 5, ground := .data } (by simp) rfl)
        go_simp
        exact hK _ _ ⟨upS (upS s 11 (.slice na nl nc)) 12 (.int .i64 nl), rfl, ⟨hst.c0, hst.c1, hst.be, hst.h0, hst.h1, hst.h2, hst.h3, hst.h4, fun _ => rfl, fun _ => rfl, hst.h7, hst.h8, hst.h9, hst.h10, hst.h11, hst.h12, hst.h13⟩⟩
      · refine wpOp_step rfl (fun K' hK => ?_)
        rw [if_pos (by rfl)]
        have e8 := hst.h6 (hall { on := 6, ground := .data } (by simp) rfl)
        go_simp
        have h' := hst.alloc hWs (.cells (madeCells #[.string ByteArray.empty, .string ByteArray.empty] (nl * 2)) 62)
        exact hK _ _ ⟨upS (upS s 12 (.int .i64 nl)) 13 (.slice (some ⟨wx.heap.size, 0, none⟩) 0 nl), rfl, ⟨h'.c0, h'.c1, h'.be, h'.h0, h'.h1, h'.h2, h'.h3, h'.h4, h'.h5, fun _ => rfl, fun _ _ => ⟨wx.heap.size, _, rfl, Go.Deep.blk_alloc_new _ _, size_madeCells _ _, Nat.le_trans hWs hst.be.size⟩, h'.h8, h'.h9, fun hl => absurd (h'.h10 hl).1 (by rw [hLi]; decide), h'.h11, h'.h12, h'.h13⟩⟩
      · refine wpOp_step rfl (fun K' hK => ?_)
        rw [if_pos (by rfl)]
        go_simp
        exact hK _ _ ⟨upS s 14 (.pointer (some ⟨w.heap.size, 1, none⟩)), rfl, ⟨hst.c0, hst.c1, hst.be, hst.h0, hst.h1, hst.h2, hst.h3, hst.h4, hst.h5, hst.h6, hst.h7, fun _ => rfl, hst.h9, hst.h10, hst.h11, hst.h12, hst.h13⟩⟩
      · refine wpOp_step rfl (fun K' hK => ?_)
        rw [if_pos (by rfl)]
        have e6 := hst.h8 (hall { on := 8, ground := .data } (by simp) rfl)
        have c1 := hst.c1
        go_simp
        exact hK _ _ ⟨upS (upS s 14 (.pointer (some ⟨w.heap.size, 1, none⟩))) 15 (.slice na nl nc), rfl, ⟨hst.c0, hst.c1, hst.be, hst.h0, hst.h1, hst.h2, hst.h3, hst.h4, hst.h5, hst.h6, hst.h7, fun _ => rfl, fun _ => rfl, hst.h10, hst.h11, hst.h12, hst.h13⟩⟩
      · obtain ⟨g, cur, e13, hg, hcur, hB⟩ := hst.h7 (hall { on := 7, ground := .data } (by simp) rfl) hLi
        have e15 := hst.h9 (hall { on := 9, ground := .data } (by simp) rfl)
        have hL7 : L 7 = true := (hall { on := 7, ground := .data } (by simp) rfl)
        refine wpOp_step rfl (fun K' hK => ?_)
        rw [if_pos (by rfl)]
        by_cases h0 : 0 < nl
        · have ea := HNa.out h0
          rw [ea] at e15
          refine wp_append_all wx (.tmp 13) (.tmp 15) rfl g nl nc e13 ⟨nb, no, none⟩ e15 cur hg hcur ((List.range (nl * 2)).map (nodV A B)) (by simp) ?_ ?_ (hK _ _ ⟨upS s 16 (.slice (some ⟨g, 0, none⟩) nl nl), rfl, ?_⟩)
          · intro j u hj
            obtain ⟨hj1, hj2⟩ := List.getElem?_eq_some_iff.1 hj
            simp at hj1 hj2
            subst hj2
            have hw := HNc.out j hj1
            rw [show (⟨nb, no, none⟩ : Addr).add j = ⟨nb, no + j, none⟩ by simp [Addr.add]]
            exact keepC' hst.be (by have := lt_of_cell hw; simp at this ⊢; omega) (keepC (((Below.refl _ _).alloc (Nat.le_refl _) _).alloc (by simp) _) hw)
          · intro u hu
            simp at hu
            obtain ⟨j, _, rfl⟩ := hu
            unfold nodV
            split <;> rfl
          · have hne : ∀ {k : Nat} {c : Array Value} {t : TypeId}, t ≠ 62 → wx.heap[k]? = some (.cells c t (0, 0)) → (wx.setRow g ((List.range (nl * 2)).map (nodV A B)).toArray).heap[k]? = some (.cells c t (0, 0)) := fun ht h => (setRow_other wx g _ _ (fun e => by subst e; rw [hg] at h; simp at h; exact ht h.2.symm)).trans h
            have hlow : ∀ {i : Nat} {v : Value}, wx.cell? ⟨w.heap.size, i, none⟩ = some v → (wx.setRow g ((List.range (nl * 2)).map (nodV A B)).toArray).cell? ⟨w.heap.size, i, none⟩ = some v := fun h => (cell_of_block (setRow_other wx g _ _ (by omega)) _).trans h
            exact ⟨hlow hst.c0, hlow hst.c1, below_setRow hst.be g _ hB, hst.h0, hst.h1, hst.h2, fun hl => by obtain ⟨g1, c1, e1, e2, e3⟩ := hst.h3 hl; exact ⟨g1, c1, e1, hne (by decide) e2, e3⟩, hst.h4, hst.h5, hst.h6, fun _ h => absurd h (by simp), hst.h8, hst.h9, fun _ => ⟨hL7, g, _, rfl, setRow_heap wx g cur _ 62 _ hg, by simp, fun i hi => by simp [hi], hB⟩, fun hl => absurd (hst.h11 hl).2.1 (by rw [hLi]; decide), fun hl => by obtain ⟨g', cs, e1, e2, e3, e4, e5⟩ := hst.h12 hl; exact ⟨g', cs, e1, hne (by decide) e2, e3, e4, fun hl2 => absurd (hst.h11 (hst.h13 hl2).1).2.1 (by rw [hLi]; decide)⟩, hst.h13⟩
        · obtain rfl : nl = 0 := by omega
          cases na with
          | none =>
            go_simp
            exact hK _ _ ⟨upS (upS (upS s 13 (.slice (some ⟨g, 0, none⟩) 0 0)) 15 (.slice none 0 nc)) 16 (.slice (some ⟨g, 0, none⟩) 0 0), rfl, ⟨hst.c0, hst.c1, hst.be, hst.h0, hst.h1, hst.h2, hst.h3, hst.h4, hst.h5, hst.h6, fun _ h => absurd h (by simp), hst.h8, fun _ => rfl, fun _ => ⟨hL7, g, cur, rfl, hg, by omega, fun i hi => absurd hi (by omega), hB⟩, fun hl => absurd (hst.h11 hl).2.1 (by rw [hLi]; decide), fun hl => by obtain ⟨g', cs, e1, e2, e3, e4, e5⟩ := hst.h12 hl; exact ⟨g', cs, e1, e2, e3, e4, fun hl2 => absurd (hst.h11 (hst.h13 hl2).1).2.1 (by rw [hLi]; decide)⟩, hst.h13⟩⟩
          | some na =>
            go_simp
            exact hK _ _ ⟨upS (upS (upS s 13 (.slice (some ⟨g, 0, none⟩) 0 0)) 15 (.slice (some na) 0 nc)) 16 (.slice (some ⟨g, 0, none⟩) 0 0), rfl, ⟨hst.c0, hst.c1, hst.be, hst.h0, hst.h1, hst.h2, hst.h3, hst.h4, hst.h5, hst.h6, fun _ h => absurd h (by simp), hst.h8, fun _ => rfl, fun _ => ⟨hL7, g, cur, rfl, hg, by omega, fun i hi => absurd hi (by omega), hB⟩, fun hl => absurd (hst.h11 hl).2.1 (by rw [hLi]; decide), fun hl => by obtain ⟨g', cs, e1, e2, e3, e4, e5⟩ := hst.h12 hl; exact ⟨g', cs, e1, e2, e3, e4, fun hl2 => absurd (hst.h11 (hst.h13 hl2).1).2.1 (by rw [hLi]; decide)⟩, hst.h13⟩⟩
      · obtain ⟨g1, cur1, e9, hg1, hcur1, hB1⟩ := hst.h3 (hall { on := 3, ground := .data } (by simp) rfl)
        have hL3 : L 3 = true := (hall { on := 3, ground := .data } (by simp) rfl)
        have hL10 : L 10 = true := (hall { on := 10, ground := .data } (by simp) rfl)
        obtain ⟨hL7, g2, cur2, e16, hg2, hcur2, hc2, hB2⟩ := hst.h10 hL10
        refine wpOp_step rfl (fun K' hK => ?_)
        rw [if_pos (by rfl)]
        go_simp
        exact hK _ _ ⟨upS (upS (upS s 9 (.slice (some ⟨g1, 0, none⟩) 0 sl)) 16 (.slice (some ⟨g2, 0, none⟩) nl nl)) 17 (.agg #[.slice (some ⟨g1, 0, none⟩) 0 sl, .slice (some ⟨g2, 0, none⟩) nl nl]), rfl, ⟨hst.c0, hst.c1, hst.be, hst.h0, hst.h1, hst.h2, fun _ => ⟨g1, cur1, rfl, hg1, hcur1, hB1⟩, hst.h4, hst.h5, hst.h6, hst.h7, hst.h8, hst.h9, fun _ => ⟨hL7, g2, cur2, rfl, hg2, hcur2, hc2, hB2⟩, fun _ => ⟨hL3, hL10, rfl⟩, fun hl => by obtain ⟨g', cs, e1, e2, e3, e4, e5⟩ := hst.h12 hl; exact ⟨g', cs, e1, e2, e3, e4, fun hl2 => absurd (hst.h13 hl2).1 (by rw [hLi]; decide)⟩, fun hl => absurd (hst.h13 hl).1 (by rw [hLi]; decide)⟩⟩
      · refine wpOp_step rfl (fun K' hK => ?_)
        rw [if_pos (by rfl)]
        go_simp
        have h' := hst.alloc hWs (.cells #[.slice none 0 0, .slice none 0 0] 40)
        exact hK _ _ ⟨upS s 3 (.pointer (some ⟨wx.heap.size, 0, none⟩)), rfl, ⟨h'.c0, h'.c1, h'.be, h'.h0, h'.h1, h'.h2, h'.h3, h'.h4, h'.h5, h'.h6, h'.h7, h'.h8, h'.h9, h'.h10, h'.h11, fun _ => ⟨wx.heap.size, _, rfl, Go.Deep.blk_alloc_new _ _, rfl, Nat.le_trans hWs hst.be.size, fun hl2 => absurd (hst.h13 hl2).2 (by rw [hLi]; decide)⟩, fun hl => absurd (hst.h13 hl).2 (by rw [hLi]; decide)⟩⟩
      · have hL11 : L 11 = true := (hall { on := 11, ground := .data } (by simp) rfl)
        have hL12 : L 12 = true := (hall { on := 12, ground := .data } (by simp) rfl)
        obtain ⟨hL3, hL10, e17⟩ := hst.h11 hL11
        obtain ⟨g1, cur1, e9, hg1, hcur1, hB1⟩ := hst.h3 hL3
        obtain ⟨hL7, g2, cur2, e16, hg2, hcur2, hc2, hB2⟩ := hst.h10 hL10
        obtain ⟨cb, cs, e3, hcb, hcs, hBc, _⟩ := hst.h12 hL12
        refine wpOp_step rfl (fun K' hK => ?_)
        rw [if_pos (by rfl)]
        refine wp_store_row 40 (.tmp 3) (.tmp 17) rfl cb #[s 9, s 16] e3 e17 40 cs hcb (by kernel_rfl) hcs (by rw [e9, e16]; simp [Value.oneCell']) (hK _ _ ⟨s, rfl, ?_⟩)
        have hne : ∀ {k : Nat} {c : Array Value} {t : TypeId}, t ≠ 40 → wx.heap[k]? = some (.cells c t (0, 0)) → (wx.setRow cb #[s 9, s 16]).heap[k]? = some (.cells c t (0, 0)) := fun ht h => (setRow_other wx cb _ _ (fun e => by subst e; rw [hcb] at h; simp at h; exact ht h.2.symm)).trans h
        have hlow : ∀ {i : Nat} {v : Value}, wx.cell? ⟨w.heap.size, i, none⟩ = some v → (wx.setRow cb #[s 9, s 16]).cell? ⟨w.heap.size, i, none⟩ = some v := fun h => (cell_of_block (setRow_other wx cb _ _ (by omega)) _).trans h
        exact ⟨hlow hst.c0, hlow hst.c1, below_setRow hst.be cb _ hBc, hst.h0, hst.h1, hst.h2, fun _ => ⟨g1, cur1, e9, hne (by decide) hg1, hcur1, hB1⟩, hst.h4, hst.h5, hst.h6, fun _ (h : L 10 = false) => absurd hL10 (by rw [h]; decide), hst.h8, hst.h9, fun _ => ⟨hL7, g2, cur2, e16, hne (by decide) hg2, hcur2, hc2, hB2⟩, hst.h11, fun _ => ⟨cb, _, e3, setRow_heap wx cb cs _ 40 _ hcb, rfl, hBc, fun _ => rfl⟩, fun _ => ⟨hL11, hL12⟩⟩
  case rest =>
    obtain ⟨cb, g1, g2, rfl, HR⟩ := hcut
    have hx0 : wc.cell? ⟨w.heap.size, 0, none⟩ = some (.slice sa sl sc) := keepC' HR.out.below (by simp) (by simp [go_sem])
    clear hmk1 hmk2
    have HBW : Hid (Below w.heap.size w ((w.alloc (.cells #[.slice sa sl sc, .slice na nl nc] 40)).alloc (.cells #[.slice none 0 0, .slice none 0 0] 40))) := ((Below.refl _ _).alloc (Nat.le_refl _) _).alloc (by simp) _
    have HBsz : Hid (w.heap.size + 2 ≤ ((w.alloc (.cells #[.slice sa sl sc, .slice na nl nc] 40)).alloc (.cells #[.slice none 0 0, .slice none 0 0] 40)).heap.size) := by show _ ≤ _; simp
    have HSa : Hid (0 < sl → sa = some ⟨sb, so, none⟩) := hSa
    have HSc : Hid (∀ i, i < sl * 2 → w.cell? ⟨sb, so + i, none⟩ = some (svcV N dv i)) := hSc
    have HDs : Hid (∀ k, k < sl → Arg w (dv k) (dz k) (dl k) (dl k) (fun i => .string (dN k i))) := hds
    clear hSa hSc hds
    go_wp2_with fail
    go_loopw [21] (fun i wr => ∃ k : Nat, k ≤ sl ∧ i = .int .i64 k ∧ Hid (LI ((w.alloc (.cells #[.slice sa sl sc, .slice na nl nc] 40)).alloc (.cells #[.slice none 0 0, .slice none 0 0] 40)) wr (w.heap.size + 2) sl nl N A B dz dl dN cb g1 g2 k)) (fun i _ => sl - (intOf i).toNat)
    case atStart =>
      obtain ⟨cur, q1, q2⟩ := HR.out.hg1
      exact ⟨0, Nat.zero_le _, rfl, ⟨HR.out.hcb, ⟨cur, fun _ => 0, fun _ => undef, q1, q2, fun j hj => absurd hj (by omega), fun q hq => absurd hq (by omega)⟩, HR.out.hg2, HR.out.ne, HR.out.ge, HR.out.below⟩⟩
    case round =>
      clear hx0 HR
      obtain ⟨k, hk, rfl, HL⟩ := hrel
      by_cases hlt : k < sl
      · have hk1 : (k : Int) < (sl : Int) := by omega
        have ea := HSa.out (by omega)
        subst ea
        have hbwr : Below w.heap.size w wr := HBW.out.trans (HL.out.below.mono (by omega))
        have hy0 : wr.cell? ⟨sb, so + k * 2, none⟩ = some (.string (N k)) := keepC' hbwr (by have := lt_of_cell (HSc.out (k * 2) (by omega)); simpa using this) ((HSc.out (k * 2) (by omega)).trans (by rw [svcV_0]))
        have hy1 : wr.cell? ⟨sb, so + k * 2 + 1, none⟩ = some (dv k) := by rw [Nat.add_assoc]; exact keepC' hbwr (by have := lt_of_cell (HSc.out (k * 2 + 1) (by omega)); simpa using this) ((HSc.out (k * 2 + 1) (by omega)).trans (by rw [svcV_1]))
        obtain ⟨da, db, dO, dc, ed, hd0, hd1, hd2⟩ := HDs.out k hlt
        have HA : Hid (Arg w (.slice da (dl k) dc) (dz k) (dl k) (dl k) (fun i => .string (dN k i))) := ⟨da, db, dO, dc, rfl, hd0, hd1, hd2⟩
        rw [ed] at hy1
        clear hd0 hd1 hd2 hbwr
        go_wp2_with fail
        obtain ⟨cur0, tg, dv', hg1, hcz, hcc, hq⟩ := HL.out.hg1
        have hcbb := HL.out.hcb
        have hsi1 : wr.heap.size ≠ g1 := by have := lt_of_block hg1; omega
        have hsi2 : wr.heap.size ≠ cb := by have := lt_of_block hcbb; omega
        have hsi : (wr.alloc (.cells #[.string (N k), .slice da (dl k) dc] 61)).heap[wr.heap.size]? = some (.cells #[.string (N k), .slice da (dl k) dc] 61 (0, 0)) := Go.Deep.blk_alloc_new _ _
        refine wp_region_any (by kernel_rfl) ?_
        refine wpAny_inv (fun L a wx => ∃ s : Nat → Value, a = { tmps := #[.agg #[.slice (some ⟨sb, so, none⟩) sl sc, .slice na nl nc], .pointer (some ⟨w.heap.size, 0, none⟩), .pointer (some ⟨w.heap.size + 1, 0, none⟩), .pointer (some ⟨cb, 0, none⟩), undef, .pointer (some ⟨wr.heap.size, 0, none⟩), u6, u7, u8, u9, u10, u11, u12, u13, u14, u15, u16, u17, .pointer (some ⟨w.heap.size, 0, none⟩), .slice (some ⟨sb, so, none⟩) sl sc, .int .i64 sl, .int .i64 k, .bool true, .pointer (some ⟨sb, so + k * 2, none⟩), .agg #[.string (N k), .slice da (dl k) dc], s 25, s 26, s 27, s 28, s 29, s 30, s 31, s 32, s 33, s 34, s 35, u36, undef], defers := [] } ∧ S5 (wr.alloc (.cells #[.string (N k), .slice da (dl k) dc] 61)) (w.heap.size + 2) (wr.heap.size + 1) wr.heap.size cb g1 k sl (.slice (some ⟨g2, 0, none⟩) nl nl) cur0 (N k) (.slice da (dl k) dc) (dz k) (dl k) (dN k) L s wx) ?step ?fin _ _ _ _ (fun _ => false) (by simp) (fun j => getD_repl _ j) ?init (by simp)
        case init =>
          refine ⟨fun j => if j = 25 then u25 else if j = 26 then u26 else if j = 27 then u27 else if j = 28 then u28 else if j = 29 then u29 else if j = 30 then u30 else if j = 31 then u31 else if j = 32 then u32 else if j = 33 then u33 else if j = 34 then u34 else u35, rfl, ⟨fun _ _ _ _ => rfl, (Below.refl _ _).drew, by simp, fun _ => (Below.heap_alloc wr _ _ (lt_of_block hg1)).trans hg1, ?_, fun _ => (Below.heap_alloc wr _ _ (lt_of_block hcbb)).trans hcbb, ?_, ?_, ?_, ?_, ?_, ?_, ?_, ?_, ?_, ?_, ?_, ?_, ?_⟩⟩ <;> intro h <;> cases h
        case fin =>
          rintro L a wx ⟨s, rfl, hst⟩ hno
          have l0 : L 0 = true := by
            cases hb : L 0
            · obtain ⟨e, he, _, hf⟩ := hno 0 _ rfl hb
              simp at he
            · rfl
          have l1 : L 1 = true := by
            cases hb : L 1
            · obtain ⟨e, he, _, hf⟩ := hno 1 _ rfl hb
              simp at he
              all_goals repeat (rcases he with rfl | he; (· first | exact absurd (hf.symm.trans l0) (by decide)))
              all_goals (subst he; first | exact absurd (hf.symm.trans l0) (by decide))
            · rfl
          have l2 : L 2 = true := by
            cases hb : L 2
            · obtain ⟨e, he, _, hf⟩ := hno 2 _ rfl hb
              simp at he
              all_goals repeat (rcases he with rfl | he; (· first | exact absurd (hf.symm.trans l0) (by decide) | exact absurd (hf.symm.trans l1) (by decide)))
              all_goals (subst he; first | exact absurd (hf.symm.trans l0) (by decide) | exact absurd (hf.symm.trans l1) (by decide))
            · rfl
          have l3 : L 3 = true := by
            cases hb : L 3
            · obtain ⟨e, he, _, hf⟩ := hno 3 _ rfl hb
              simp at he
              all_goals repeat (rcases he with rfl | he; (· first | exact absurd (hf.symm.trans l0) (by decide) | exact absurd (hf.symm.trans l1) (by decide) | exact absurd (hf.symm.trans l2) (by decide)))
              all_goals (subst he; first | exact absurd (hf.symm.trans l0) (by decide) | exact absurd (hf.symm.trans l1) (by decide) | exact absurd (hf.symm.trans l2) (by decide))
            · rfl
          have l4 : L 4 = true := by
            cases hb : L 4
            · obtain ⟨e, he, _, hf⟩ := hno 4 _ rfl hb
              simp at he
              all_goals repeat (rcases he with rfl | he; (· first | exact absurd (hf.symm.trans l0) (by decide) | exact absurd (hf.symm.trans l1) (by decide) | exact absurd (hf.symm.trans l2) (by decide) | exact absurd (hf.symm.trans l3) (by decide)))
              all_goals (subst he; first | exact absurd (hf.symm.trans l0) (by decide) | exact absurd (hf.symm.trans l1) (by decide) | exact absurd (hf.symm.trans l2) (by decide) | exact absurd (hf.symm.trans l3) (by decide))
            · rfl
          have l5 : L 5 = true := by
            cases hb : L 5
            · obtain ⟨e, he, _, hf⟩ := hno 5 _ rfl hb
              simp at he
              all_goals repeat (rcases he with rfl | he; (· first | exact absurd (hf.symm.trans l0) (by decide) | exact absurd (hf.symm.trans l1) (by decide) | exact absurd (hf.symm.trans l2) (by decide) | exact absurd (hf.symm.trans l3) (by decide) | exact absurd (hf.symm.trans l4) (by decide)))
              all_goals (subst he; first | exact absurd (hf.symm.trans l0) (by decide) | exact absurd (hf.symm.trans l1) (by decide) | exact absurd (hf.symm.trans l2) (by decide) | exact absurd (hf.symm.trans l3) (by decide) | exact absurd (hf.symm.trans l4) (by decide))
            · rfl
          have l6 : L 6 = true := by
            cases hb : L 6
            · obtain ⟨e, he, _, hf⟩ := hno 6 _ rfl hb
              simp at he
              all_goals repeat (rcases he with rfl | he; (· first | exact absurd (hf.symm.trans l0) (by decide) | exact absurd (hf.symm.trans l1) (by decide) | exact absurd (hf.symm.trans l2) (by decide) | exact absurd (hf.symm.trans l3) (by decide) | exact absurd (hf.symm.trans l4) (by decide) | exact absurd (hf.symm.trans l5) (by decide)))
              all_goals (subst he; first | exact absurd (hf.symm.trans l0) (by decide) | exact absurd (hf.symm.trans l1) (by decide) | exact absurd (hf.symm.trans l2) (by decide) | exact absurd (hf.symm.trans l3) (by decide) | exact absurd (hf.symm.trans l4) (by decide) | exact absurd (hf.symm.trans l5) (by decide))
            · rfl
          have l7 : L 7 = true := by
            cases hb : L 7
            · obtain ⟨e, he, _, hf⟩ := hno 7 _ rfl hb
              simp at he
              all_goals repeat (rcases he with rfl | he; (· first | exact absurd (hf.symm.trans l0) (by decide) | exact absurd (hf.symm.trans l1) (by decide) | exact absurd (hf.symm.trans l2) (by decide) | exact absurd (hf.symm.trans l3) (by decide) | exact absurd (hf.symm.trans l4) (by decide) | exact absurd (hf.symm.trans l5) (by decide) | exact absurd (hf.symm.trans l6) (by decide)))
              all_goals (subst he; first | exact absurd (hf.symm.trans l0) (by decide) | exact absurd (hf.symm.trans l1) (by decide) | exact absurd (hf.symm.trans l2) (by decide) | exact absurd (hf.symm.trans l3) (by decide) | exact absurd (hf.symm.trans l4) (by decide) | exact absurd (hf.symm.trans l5) (by decide) | exact absurd (hf.symm.trans l6) (by decide))
            · rfl
          have l8 : L 8 = true := by
            cases hb : L 8
            · obtain ⟨e, he, _, hf⟩ := hno 8 _ rfl hb
              simp at he
              all_goals repeat (rcases he with rfl | he; (· first | exact absurd (hf.symm.trans l0) (by decide) | exact absurd (hf.symm.trans l1) (by decide) | exact absurd (hf.symm.trans l2) (by decide) | exact absurd (hf.symm.trans l3) (by decide) | exact absurd (hf.symm.trans l4) (by decide) | exact absurd (hf.symm.trans l5) (by decide) | exact absurd (hf.symm.trans l6) (by decide) | exact absurd (hf.symm.trans l7) (by decide)))
              all_goals (subst he; first | exact absurd (hf.symm.trans l0) (by decide) | exact absurd (hf.symm.trans l1) (by decide) | exact absurd (hf.symm.trans l2) (by decide) | exact absurd (hf.symm.trans l3) (by decide) | exact absurd (hf.symm.trans l4) (by decide) | exact absurd (hf.symm.trans l5) (by decide) | exact absurd (hf.symm.trans l6) (by decide) | exact absurd (hf.symm.trans l7) (by decide))
            · rfl
          have l9 : L 9 = true := by
            cases hb : L 9
            · obtain ⟨e, he, _, hf⟩ := hno 9 _ rfl hb
              simp at he
              all_goals repeat (rcases he with rfl | he; (· first | exact absurd (hf.symm.trans l0) (by decide) | exact absurd (hf.symm.trans l1) (by decide) | exact absurd (hf.symm.trans l2) (by decide) | exact absurd (hf.symm.trans l3) (by decide) | exact absurd (hf.symm.trans l4) (by decide) | exact absurd (hf.symm.trans l5) (by decide) | exact absurd (hf.symm.trans l6) (by decide) | exact absurd (hf.symm.trans l7) (by decide) | exact absurd (hf.symm.trans l8) (by decide)))
              all_goals (subst he; first | exact absurd (hf.symm.trans l0) (by decide) | exact absurd (hf.symm.trans l1) (by decide) | exact absurd (hf.symm.trans l2) (by decide) | exact absurd (hf.symm.trans l3) (by decide) | exact absurd (hf.symm.trans l4) (by decide) | exact absurd (hf.symm.trans l5) (by decide) | exact absurd (hf.symm.trans l6) (by decide) | exact absurd (hf.symm.trans l7) (by decide) | exact absurd (hf.symm.trans l8) (by decide))
            · rfl
          have l10 : L 10 = true := by
            cases hb : L 10
            · obtain ⟨e, he, _, hf⟩ := hno 10 _ rfl hb
              simp at he
              all_goals repeat (rcases he with rfl | he; (· first | exact absurd (hf.symm.trans l0) (by decide) | exact absurd (hf.symm.trans l1) (by decide) | exact absurd (hf.symm.trans l2) (by decide) | exact absurd (hf.symm.trans l3) (by decide) | exact absurd (hf.symm.trans l4) (by decide) | exact absurd (hf.symm.trans l5) (by decide) | exact absurd (hf.symm.trans l6) (by decide) | exact absurd (hf.symm.trans l7) (by decide) | exact absurd (hf.symm.trans l8) (by decide) | exact absurd (hf.symm.trans l9) (by decide)))
              all_goals (subst he; first | exact absurd (hf.symm.trans l0) (by decide) | exact absurd (hf.symm.trans l1) (by decide) | exact absurd (hf.symm.trans l2) (by decide) | exact absurd (hf.symm.trans l3) (by decide) | exact absurd (hf.symm.trans l4) (by decide) | exact absurd (hf.symm.trans l5) (by decide) | exact absurd (hf.symm.trans l6) (by decide) | exact absurd (hf.symm.trans l7) (by decide) | exact absurd (hf.symm.trans l8) (by decide) | exact absurd (hf.symm.trans l9) (by decide))
            · rfl
          have l11 : L 11 = true := by
            cases hb : L 11
            · obtain ⟨e, he, _, hf⟩ := hno 11 _ rfl hb
              simp at he
              all_goals repeat (rcases he with rfl | he; (· first | exact absurd (hf.symm.trans l0) (by decide) | exact absurd (hf.symm.trans l1) (by decide) | exact absurd (hf.symm.trans l2) (by decide) | exact absurd (hf.symm.trans l3) (by decide) | exact absurd (hf.symm.trans l4) (by decide) | exact absurd (hf.symm.trans l5) (by decide) | exact absurd (hf.symm.trans l6) (by decide) | exact absurd (hf.symm.trans l7) (by decide) | exact absurd (hf.symm.trans l8) (by decide) | exact absurd (hf.symm.trans l9) (by decide) | exact absurd (hf.symm.trans l10) (by decide)))
              all_goals (subst he; first | exact absurd (hf.symm.trans l0) (by decide) | exact absurd (hf.symm.trans l1) (by decide) | exact absurd (hf.symm.trans l2) (by decide) | exact absurd (hf.symm.trans l3) (by decide) | exact absurd (hf.symm.trans l4) (by decide) | exact absurd (hf.symm.trans l5) (by decide) | exact absurd (hf.symm.trans l6) (by decide) | exact absurd (hf.symm.trans l7) (by decide) | exact absurd (hf.symm.trans l8) (by decide) | exact absurd (hf.symm.trans l9) (by decide) | exact absurd (hf.symm.trans l10) (by decide))
            · rfl
          obtain ⟨cur, q1, q2, q3, q4, q5⟩ := hst.a2 l9
          have hcb' := hst.a4 l11
          have hslot := hst.h6 l6
          have hold : ∀ b, b < wr.heap.size → b ≠ g1 → b ≠ cb → wx.heap[b]? = wr.heap[b]? := fun b hb1 hb2 hb3 => (hst.fr b (by omega) hb2 hb3).trans (Below.heap_alloc wr _ b hb1)
          have hg1lt := lt_of_block hg1
          have hcblt := lt_of_block hcbb
          have hg2lt := HL.out.hg2
          have hwsz : w.heap.size + 2 ≤ wr.heap.size := Nat.le_trans HBsz.out HL.out.below.size
          have HL' : Hid (LI ((w.alloc (.cells #[.slice (some ⟨sb, so, none⟩) sl sc, .slice na nl nc] 40)).alloc (.cells #[.slice none 0 0, .slice none 0 0] 40)) wx (w.heap.size + 2) sl nl N A B dz dl dN cb g1 g2 (k + 1)) := by
            refine ⟨hcb', ⟨cur, fun b => if b < wr.heap.size + 1 then tg b else k, fun q => if q = k then s 31 else dv' q, q1, q2.trans hcz, fun j hj => ?_, fun q hq1 => ?_⟩, hg2lt.block (hold g2 hg2lt.lt HL.out.ne.2.2.symm HL.out.ne.2.1.symm), HL.out.ne, HL.out.ge, (HL.out.below.alloc (by omega) _).trans hst.be⟩
            · rcases (by omega : j < k * 2 ∨ j = k * 2 ∨ j = k * 2 + 1) with h | rfl | rfl
              · rw [q3 j h, hcc j h]
                unfold svcV
                dsimp only
                rw [if_neg (show ¬ j / 2 = k by omega)]
              · rw [q4, svcV_0]
              · rw [q5, svcV_1, if_pos rfl]
            · dsimp only
              by_cases e : q = k
              · subst e
                rw [if_pos rfl]
                have hg2l := hg2lt.lt
                exact hslot.mono fun b _ hb => ⟨⟨by omega, by omega, by omega, by omega, if_neg (by omega)⟩, rfl⟩
              · rw [if_neg e]
                exact (hq q (by omega)).mono fun b hb1 hb2 => ⟨⟨hb2.1, hb2.2.1, hb2.2.2.1, hb2.2.2.2.1, by rw [if_pos (by omega)]; exact hb2.2.2.2.2⟩, hold b hb1 hb2.2.1 hb2.2.2.2.1⟩
          clear hst hno hcb' hslot hold q1 q2 q3 q4 q5 hq hcc hg1 hcbb hsi hy0 hy1
          go_wp2_with fail
          go_roundw
          case rel => exact ⟨k + 1, by omega, by go_num, HL'⟩
          case measure => simp [intOf]; omega
        case step =>
          rintro L a wx ⟨s, rfl, hst⟩ i o ho hLi hall
          have hlt12 : i < 12 := (Array.getElem?_eq_some_iff.1 ho).1
          rcases (by omega : i = 0 ∨ i = 1 ∨ i = 2 ∨ i = 3 ∨ i = 4 ∨ i = 5 ∨ i = 6 ∨ i = 7 ∨ i = 8 ∨ i = 9 ∨ i = 10 ∨ i = 11) with rfl | rfl | rfl | rfl | rfl | rfl | rfl | rfl | rfl | rfl | rfl | rfl
          all_goals obtain rfl := Option.some.inj ho
          · refine wpOp_step rfl (fun K' hK => ?_)
            rw [if_pos (by rfl)]
            go_simp
            exact hK _ _ ⟨upS s 25 (.pointer (some ⟨cb, 0, none⟩)), rfl, ⟨hst.fr, hst.be, hst.sz, hst.a1, hst.a2, hst.a3, hst.a4, fun _ => rfl, hst.h1, hst.h2, hst.h3, hst.h4, hst.h5, hst.h6, hst.h7, hst.h8, hst.h9, hst.h10, hst.h11⟩⟩
          · have hL11 : L 11 = false := by
              cases hb : L 11
              · rfl
              · exact absurd ((hst.h11 hb).2) (by rw [hLi]; decide)
            refine wpOp_step rfl (fun K' hK => ?_)
            rw [if_pos (by rfl)]
            have e := hst.h0 (hall { on := 0, ground := .data } (by simp) rfl)
            have c0 : wx.cell? ⟨cb, 0, none⟩ = some (.slice (some ⟨g1, 0, none⟩) k sl) := by rw [cell_of_row _ _ _ _ _ _ (hst.a3 hL11)]; rfl
            go_simp
            exact hK _ _ ⟨upS (upS s 25 (.pointer (some ⟨cb, 0, none⟩))) 26 (.slice (some ⟨g1, 0, none⟩) k sl), rfl, ⟨hst.fr, hst.be, hst.sz, hst.a1, hst.a2, hst.a3, hst.a4, fun _ => rfl, fun _ => rfl, hst.h2, hst.h3, hst.h4, hst.h5, hst.h6, hst.h7, hst.h8, fun hl => ⟨(hst.h9 hl).1, (hst.h9 hl).2.1, rfl⟩, hst.h10, fun hl => ⟨(hst.h11 hl).1, rfl⟩⟩⟩
          · refine wpOp_step rfl (fun K' hK => ?_)
            rw [if_pos (by rfl)]
            go_simp
            exact hK _ _ ⟨upS s 27 (.pointer (some ⟨wr.heap.size, 0, none⟩)), rfl, ⟨hst.fr, hst.be, hst.sz, hst.a1, hst.a2, hst.a3, hst.a4, hst.h0, hst.h1, fun _ => rfl, hst.h3, hst.h4, hst.h5, hst.h6, hst.h7, hst.h8, hst.h9, hst.h10, hst.h11⟩⟩
          · refine wpOp_step rfl (fun K' hK => ?_)
            rw [if_pos (by rfl)]
            have e := hst.h2 (hall { on := 2, ground := .data } (by simp) rfl)
            have c0 : wx.cell? ⟨wr.heap.size, 0, none⟩ = some (.string (N k)) := by rw [cell_of_row _ _ _ _ _ _ ((hst.fr wr.heap.size (by omega) hsi1 hsi2).trans hsi)]; rfl
            go_simp
            exact hK _ _ ⟨upS (upS s 27 (.pointer (some ⟨wr.heap.size, 0, none⟩))) 28 (.string (N k)), rfl, ⟨hst.fr, hst.be, hst.sz, hst.a1, hst.a2, hst.a3, hst.a4, hst.h0, hst.h1, fun _ => rfl, fun _ => rfl, hst.h4, hst.h5, hst.h6, hst.h7, hst.h8, hst.h9, hst.h10, hst.h11⟩⟩
          · refine wpOp_step rfl (fun K' hK => ?_)
            rw [if_pos (by rfl)]
            go_simp
            exact hK _ _ ⟨upS s 29 (.pointer (some ⟨wr.heap.size, 1, none⟩)), rfl, ⟨hst.fr, hst.be, hst.sz, hst.a1, hst.a2, hst.a3, hst.a4, hst.h0, hst.h1, hst.h2, hst.h3, fun _ => rfl, hst.h5, hst.h6, hst.h7, hst.h8, hst.h9, hst.h10, hst.h11⟩⟩
          · refine wpOp_step rfl (fun K' hK => ?_)
            rw [if_pos (by rfl)]
            have e := hst.h4 (hall { on := 4, ground := .data } (by simp) rfl)
            have c0 : wx.cell? ⟨wr.heap.size, 1, none⟩ = some (.slice da (dl k) dc) := by rw [cell_of_row _ _ _ _ _ _ ((hst.fr wr.heap.size (by omega) hsi1 hsi2).trans hsi)]; rfl
            go_simp
            exact hK _ _ ⟨upS (upS s 29 (.pointer (some ⟨wr.heap.size, 1, none⟩))) 30 (.slice da (dl k) dc), rfl, ⟨hst.fr, hst.be, hst.sz, hst.a1, hst.a2, hst.a3, hst.a4, hst.h0, hst.h1, hst.h2, hst.h3, fun _ => rfl, fun _ => rfl, hst.h6, hst.h7, hst.h8, hst.h9, hst.h10, hst.h11⟩⟩
          · have hL9 : L 9 = false := by
              cases hb : L 9
              · rfl
              · exact absurd (hst.h7 (hst.h8 (hst.h9 hb).1).1).1 (by rw [hLi]; decide)
            refine wpOp_step rfl (fun K' hK => ?_)
            rw [if_pos (by rfl)]
            have e := hst.h5 (hall { on := 5, ground := .data } (by simp) rfl)
            have hbw : Below w.heap.size w wx := (HBW.out.trans (HL.out.below.mono (by omega))).trans ((((Below.refl _ _).alloc (Nat.le_refl _) _).mono (by have := HBW.out.size; have := HL.out.below.size; omega)).trans ((hst.be).mono (by omega)))
            go_simp
            refine (cloneStrs_any (.slice da (dl k) dc) (dz k) (dl k) (dN k) wx (b3 k hlt) (HA.out.below hbw (Nat.le_refl _)) (hz k hlt)).mono ?_
            rintro _ w2 ⟨v', rfl, hslot, hB2⟩
            have h' := hst.grow hB2 (by have := hst.sz; have := HBsz.out; have := HL.out.below.size; omega)
            have hsl : Slot w2 (fun b => wr.heap.size + 1 ≤ b) v' (dz k) (dl k) (dl k) (fun i => .string (dN k i)) := hslot.mono fun b _ hb => ⟨Nat.le_trans hst.sz hb, rfl⟩
            exact hK _ _ ⟨upS (upS s 30 (.slice da (dl k) dc)) 31 v', rfl, ⟨h'.fr, h'.be, h'.sz, h'.a1, fun hl => absurd (show L 9 = true from hl) (by rw [hL9]; decide), h'.a3, h'.a4, h'.h0, h'.h1, h'.h2, h'.h3, h'.h4, fun _ => rfl, fun _ => hsl, fun hl => absurd (h'.h7 hl).1 (by rw [hLi]; decide), fun hl => absurd (h'.h7 (h'.h8 hl).1).1 (by rw [hLi]; decide), h'.h9, h'.h10, h'.h11⟩⟩
          · have hL9 : L 9 = false := by
              cases hb : L 9
              · rfl
              · exact absurd (hst.h8 (hst.h9 hb).1).1 (by rw [hLi]; decide)
            have hL6 : L 6 = true := (hall { on := 6, ground := .data } (by simp) rfl)
            obtain ⟨va, vb, vc, e31, hva, hvb⟩ := hst.h6 hL6
            refine wpOp_step rfl (fun K' hK => ?_)
            rw [if_pos (by rfl)]
            have e := hst.h3 (hall { on := 3, ground := .data } (by simp) rfl)
            go_simp
            have h6' := hst.h6 hL6
            rw [e31] at h6'
            exact hK _ _ ⟨upS (upS (upS s 28 (.string (N k))) 31 (.slice va (dl k) vc)) 32 (.agg #[.string (N k), .slice va (dl k) vc]), rfl, ⟨hst.fr, hst.be, hst.sz, hst.a1, fun hl => absurd (show L 9 = true from hl) (by rw [hL9]; decide), hst.a3, hst.a4, hst.h0, hst.h1, hst.h2, fun _ => rfl, hst.h4, hst.h5, fun _ => h6', fun _ => ⟨hL6, rfl⟩, fun hl => absurd (hst.h8 hl).1 (by rw [hLi]; decide), hst.h9, hst.h10, hst.h11⟩⟩
          · have hL9 : L 9 = false := by
              cases hb : L 9
              · rfl
              · exact absurd (hst.h9 hb).1 (by rw [hLi]; decide)
            have hL7 : L 7 = true := (hall { on := 7, ground := .data } (by simp) rfl)
            obtain ⟨hL6, e32⟩ := hst.h7 hL7
            obtain ⟨va, vb, vc, e31, hva, hvb⟩ := hst.h6 hL6
            rw [e31] at e32
            refine wpOp_step rfl (fun K' hK => ?_)
            rw [if_pos (by rfl)]
            go_simp
            have h' := hst.grow ((Below.refl _ _).alloc (Nat.le_refl _) (.cells #[.string (N k), .slice va (dl k) vc] 61)) (by have := hst.sz; have := HBsz.out; have := HL.out.below.size; omega)
            have h6' := h'.h6 hL6
            rw [e31] at h6'
            exact hK _ _ ⟨upS (upS (upS s 31 (.slice va (dl k) vc)) 32 (.agg #[.string (N k), .slice va (dl k) vc])) 33 (.slice (some ⟨wx.heap.size, 0, none⟩) 1 1), rfl, ⟨h'.fr, h'.be, h'.sz, h'.a1, fun hl => absurd (show L 9 = true from hl) (by rw [hL9]; decide), h'.a3, h'.a4, h'.h0, h'.h1, h'.h2, h'.h3, h'.h4, h'.h5, fun _ => h6', fun _ => ⟨hL6, rfl⟩, fun _ => ⟨hL7, wx.heap.size, rfl, Go.Deep.blk_alloc_new _ _, hst.sz⟩, fun hl => absurd (h'.h9 hl).1 (by rw [hLi]; decide), h'.h10, h'.h11⟩⟩
          · have hL8 : L 8 = true := (hall { on := 8, ground := .data } (by simp) rfl)
            have hL1 : L 1 = true := (hall { on := 1, ground := .data } (by simp) rfl)
            have e26 := hst.h1 (hall { on := 1, ground := .data } (by simp) rfl)
            obtain ⟨hL7, gx, e33, hgx, hHx⟩ := hst.h8 hL8
            obtain ⟨hL6, _⟩ := hst.h7 hL7
            obtain ⟨va, vb, vc, e31, hva, hvb⟩ := hst.h6 hL6
            have hcur := hst.a1 hLi
            refine wpOp_step rfl (fun K' hK => ?_)
            rw [if_pos (by rfl)]
            refine wp_append_one wx (.tmp 26) (.tmp 33) rfl g1 k sl hlt e26 gx e33 cur0 hcur hcz (.string (N k)) (s 31) hgx rfl (by rw [e31]; simp [Value.oneCell']) (fun cur' q1 q2 q3 q4 => hK _ _ ⟨upS s 34 (.slice (some ⟨g1, 0, none⟩) (k + 1) sl), rfl, ?_⟩)
            have hg1lt : g1 < wr.heap.size := lt_of_block hg1
            have hne : ∀ {b : Nat}, b ≠ g1 → (wx.setRow g1 cur').heap[b]? = wx.heap[b]? := fun h => setRow_other wx g1 _ _ h
            exact ⟨fun b hb1 hb2 hb3 => (hne hb2).trans (hst.fr b hb1 hb2 hb3), below_setRow hst.be g1 _ HL.out.ge.2.1, by rw [size_setRow]; exact hst.sz, fun hl => absurd hl (by simp), fun _ => ⟨cur', setRow_heap wx g1 cur0 _ 61 _ hcur, q1, q2, q3, q4⟩, fun hl => (hne HL.out.ne.1).trans (hst.a3 hl), fun hl => (hne HL.out.ne.1).trans (hst.a4 hl), hst.h0, hst.h1, hst.h2, hst.h3, hst.h4, hst.h5, fun hl => (hst.h6 hl).mono fun b hb1 hb2 => ⟨hb2, hne (by omega)⟩, hst.h7, fun hl => by obtain ⟨q0, g, r1, r2, r3⟩ := hst.h8 hl; exact ⟨q0, g, r1, (hne (by omega)).trans r2, r3⟩, fun _ => ⟨hL8, rfl, hL1⟩, hst.h10, fun hl => absurd (hst.h11 hl).1 (by rw [hLi]; decide)⟩
          · refine wpOp_step rfl (fun K' hK => ?_)
            rw [if_pos (by rfl)]
            go_simp
            exact hK _ _ ⟨upS s 35 (.pointer (some ⟨cb, 0, none⟩)), rfl, ⟨hst.fr, hst.be, hst.sz, hst.a1, hst.a2, hst.a3, hst.a4, hst.h0, hst.h1, hst.h2, hst.h3, hst.h4, hst.h5, hst.h6, hst.h7, hst.h8, hst.h9, fun _ => rfl, hst.h11⟩⟩
          · have hL9 : L 9 = true := (hall { on := 9, ground := .data } (by simp) rfl)
            have hL1 : L 1 = true := (hst.h9 hL9).2.2
            have e35 := hst.h10 (hall { on := 10, ground := .data } (by simp) rfl)
            obtain ⟨hL8, e34, _⟩ := hst.h9 hL9
            have hcbw := hst.a3 hLi
            have c0 : wx.cell? ⟨cb, 0, none⟩ = some (.slice (some ⟨g1, 0, none⟩) k sl) := by rw [cell_of_row _ _ _ _ _ _ hcbw]; rfl
            have f0 : wx.frozen? ⟨cb, 0, none⟩ = false := frozen_of_row _ _ _ _ _ hcbw
            refine wpOp_step rfl (fun K' hK => ?_)
            rw [if_pos (by rfl)]
            go_simp
            have hne : ∀ {b : Nat}, b ≠ cb → (wx.setCell ⟨cb, 0, none⟩ (.slice (some ⟨g1, 0, none⟩) (k + 1) sl)).heap[b]? = wx.heap[b]? := fun h => setCell_block wx cb 0 _ _ h
            have hcblt : cb < wr.heap.size := lt_of_block HL.out.hcb
            exact hK _ _ ⟨upS (upS s 34 (.slice (some ⟨g1, 0, none⟩) (k + 1) sl)) 35 (.pointer (some ⟨cb, 0, none⟩)), rfl, ⟨fun b hb1 hb2 hb3 => (hne hb3).trans (hst.fr b hb1 hb2 hb3), hst.be.setCell (p := ⟨cb, 0, none⟩) HL.out.ge.1 _, by simp [World.setCell]; exact hst.sz, fun hl => absurd hL9 (by rw [show L 9 = false from hl]; decide), fun hl => by obtain ⟨cur, r1, r2⟩ := hst.a2 hl; exact ⟨cur, (hne HL.out.ne.1.symm).trans r1, r2⟩, fun hl => absurd hl (by simp), fun _ => by rw [heap_setCell_same wx cb 0 _ 40 _ hcbw]; rfl, hst.h0, hst.h1, hst.h2, hst.h3, hst.h4, hst.h5, fun hl => (hst.h6 hl).mono fun b hb1 hb2 => ⟨hb2, hne (by omega)⟩, hst.h7, fun hl => by obtain ⟨q0, g, r1, r2, r3⟩ := hst.h8 hl; exact ⟨q0, g, r1, (hne (by omega)).trans r2, r3⟩, fun _ => ⟨hL8, rfl, hL1⟩, fun _ => rfl, fun _ => ⟨hL9, hL1⟩⟩⟩
      · obtain rfl : k = sl := by omega
        have hcbb := HL.out.hcb
        have hc0 : wr.cell? ⟨cb, 0, none⟩ = some (.slice (some ⟨g1, 0, none⟩) k k) := by rw [cell_of_row _ _ _ _ _ _ hcbb]; rfl
        have hc1 : wr.cell? ⟨cb, 1, none⟩ = some (.slice (some ⟨g2, 0, none⟩) nl nl) := by rw [cell_of_row _ _ _ _ _ _ hcbb]; rfl
        have hrb : wr.heap[w.heap.size + 1]? = some (.cells #[.slice none 0 0, .slice none 0 0] 40 (0, 0)) := (HL.out.below.block _ (by omega)).trans (by simpa using Go.Deep.blk_alloc_new (w.alloc (.cells #[.slice sa k sc, .slice na nl nc] 40)) (.cells #[.slice none 0 0, .slice none 0 0] 40))
        have hr0 : wr.cell? ⟨w.heap.size + 1, 0, none⟩ = some (.slice none 0 0) := by rw [cell_of_row _ _ _ _ _ _ hrb]; rfl
        have hr1 : wr.cell? ⟨w.heap.size + 1, 1, none⟩ = some (.slice none 0 0) := by rw [cell_of_row _ _ _ _ _ _ hrb]; rfl
        have hf0 : wr.frozen? ⟨w.heap.size + 1, 0, none⟩ = false := frozen_of_row _ _ _ _ _ hrb
        have hf1 : wr.frozen? ⟨w.heap.size + 1, 1, none⟩ = false := frozen_of_row _ _ _ _ _ hrb
        clear hcbb hrb
        go_wp2_with fail
        refine bodyPost_ret (v := .agg #[.slice (some ⟨g1, 0, none⟩) k k, .slice (some ⟨g2, 0, none⟩) nl nl]) (by simp [results, Try.results31, go_sem, hr0, hr1]) rfl ?_
        obtain ⟨cur0, tg, dv', hg1, hcz, hcc, hq⟩ := HL.out.hg1
        have hB0 : Below w.heap.size w wr := HBW.out.trans (HL.out.below.mono (by omega))
        have hge := HL.out.ge
        have hne := HL.out.ne
        have hold : ∀ (x y : Value) (b : Nat), b ≠ w.heap.size + 1 → ((wr.setCell ⟨w.heap.size + 1, 0, none⟩ x).setCell ⟨w.heap.size + 1, 1, none⟩ y).heap[b]? = wr.heap[b]? := fun x y b hb => (setCell_block _ _ _ _ _ hb).trans (setCell_block _ _ _ _ _ hb)
        refine ⟨_, _, dv', fun b => if b = g1 then 3 else if b = g2 then 4 else 5 + tg b, rfl, (hB0.setCell (p := ⟨w.heap.size + 1, _, none⟩) (by simp) _).setCell (p := ⟨w.heap.size + 1, _, none⟩) (by simp) _, ⟨_, g1, _, rfl, rfl, fun _ => ⟨rfl, ⟨by omega, if_pos rfl⟩, ⟨cur0, 61, (hold _ _ _ (by omega)).trans hg1, by omega, hcc⟩⟩⟩, ⟨_, g2, _, rfl, rfl, fun _ => ⟨rfl, ⟨by omega, (if_neg (by omega)).trans (if_pos rfl)⟩, HL.out.hg2.block (hold _ _ _ (by omega))⟩⟩, fun q hq1 => (hq q hq1).mono fun b hb1 hb2 => ⟨⟨by omega, (if_neg hb2.2.1).trans ((if_neg hb2.2.2.1).trans (by rw [hb2.2.2.2.2]))⟩, hold _ _ _ (by omega)⟩⟩
end Go.Proofs.Qxb6609019a
