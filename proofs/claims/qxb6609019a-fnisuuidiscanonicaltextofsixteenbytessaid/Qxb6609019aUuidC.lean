import Derived.Test.Qxb6609019aUuidB
namespace Go.Proofs.Qxb6609019a
open Go.RowKit

/-- The bytes of a string, as numbers. -/
def Ls (s : ByteArray) : List Int := s.data.toList.map fun c => (c.toNat : Int)
def scan : List Int → List Int → Option (List Int)
  | [], ds => some ds
  | c :: t, ds => if c = 45 then scan t ds else if hexI c = -1 ∨ ds.length = 32 then none else scan t (ds ++ [hexI c])
def bOf (ds : List Int) (j : Nat) : Int := 16 * ds.getD (2 * j) 0 + ds.getD (2 * j + 1) 0
def canonP (s : ByteArray) : Prop := ∃ ds, scan (Ls s) [] = some ds ∧ ds.length = 32 ∧ (strOfNums (outP (bOf ds) 16)).toList = s.toList

theorem Ls_len (s : ByteArray) : (Ls s).length = s.size := by simp [Ls]
theorem Ls_drop (s : ByteArray) (k : Nat) (h : k < s.size) : (Ls s).drop k = ((s[k]'h).toNat : Int) :: (Ls s).drop (k + 1) := by
  have h' : k < (Ls s).length := by rw [Ls_len]; exact h
  rw [List.drop_eq_getElem_cons h']
  congr 1
  simp [Ls]
  rfl

theorem scan_dash {s : ByteArray} {k : Nat} {ds : List Int} (h : k < s.size) (hc : ((s[k]'h).toNat : Int) = 45) : scan ((Ls s).drop k) ds = scan ((Ls s).drop (k + 1)) ds := by
  rw [Ls_drop s k h, scan, if_pos hc]
theorem scan_bad {s : ByteArray} {k : Nat} {ds : List Int} (h : k < s.size) {c : Int} (hc : ((s[k]'h).toNat : Int) = c) (h45 : c ≠ 45) (hb : hexI c = -1 ∨ ds.length = 32) : scan ((Ls s).drop k) ds = none := by
  rw [Ls_drop s k h, scan, hc, if_neg h45, if_pos hb]
theorem scan_hex {s : ByteArray} {k : Nat} {ds : List Int} (h : k < s.size) {c : Int} (hc : ((s[k]'h).toNat : Int) = c) (h45 : c ≠ 45) (h1 : hexI c ≠ -1) (h2 : ds.length ≠ 32) : scan ((Ls s).drop k) ds = scan ((Ls s).drop (k + 1)) (ds ++ [hexI c]) := by
  rw [Ls_drop s k h, scan, hc, if_neg h45, if_neg (by rintro (h | h); exact h1 h; exact h2 h)]

theorem or_nib (x v : Int) (h0 : 0 ≤ x) (h1 : x < 16) (h2 : 0 ≤ v) (h3 : v < 16) : bits .or .u8 (16 * x) v = 16 * x + v :=
  bits_join .u8 8 (by decide) wraps_u8 4 (16 * x) v (by omega) (by omega) (by omega) h2 (by omega) (by omega)

theorem bOf_even (ds : List Int) (v : Int) (n : Nat) (h : ds.length = 2 * n) (j : Nat) : bOf (ds ++ [v]) j = if j = n then v * 16 else bOf ds j := by
  unfold bOf
  simp only [List.getD, List.getElem?_append]
  by_cases e : j = n
  · subst e
    rw [if_pos rfl, if_neg (by omega), if_neg (by omega), h]
    simp
    omega
  · rw [if_neg e]
    by_cases hlt : j < n
    · rw [if_pos (by omega), if_pos (by omega)]
    · rw [if_neg (by omega), if_neg (by omega), List.getElem?_eq_none (by simp; omega), List.getElem?_eq_none (by simp; omega), List.getElem?_eq_none (by omega), List.getElem?_eq_none (by omega)]
theorem bOf_odd (ds : List Int) (v : Int) (n : Nat) (h : ds.length = 2 * n + 1) (j : Nat) : bOf (ds ++ [v]) j = if j = n then 16 * ds.getD (2 * n) 0 + v else bOf ds j := by
  unfold bOf
  simp only [List.getD, List.getElem?_append]
  by_cases e : j = n
  · subst e
    rw [if_pos rfl, if_pos (by omega), if_neg (by omega), h]
    simp
  · rw [if_neg e]
    by_cases hlt : j < n
    · rw [if_pos (by omega), if_pos (by omega)]
    · rw [if_neg (by omega), if_neg (by omega), List.getElem?_eq_none (by simp; omega), List.getElem?_eq_none (by simp; omega), List.getElem?_eq_none (by omega), List.getElem?_eq_none (by omega)]
theorem bOf_odd_old (ds : List Int) (n : Nat) (h : ds.length = 2 * n + 1) : bOf ds n = 16 * ds.getD (2 * n) 0 := by
  unfold bOf
  rw [List.getD_eq_getElem?_getD (i := 2 * n + 1), List.getElem?_eq_none (by omega)]
  simp

theorem nib_getD {ds : List Int} (h : ∀ v ∈ ds, 0 ≤ v ∧ v < 16) (i : Nat) : 0 ≤ ds.getD i 0 ∧ ds.getD i 0 < 16 := by
  by_cases hi : i < ds.length
  · rw [List.getD_eq_getElem?_getD, List.getElem?_eq_getElem hi]
    exact h _ (List.getElem_mem hi)
  · rw [List.getD_eq_getElem?_getD, List.getElem?_eq_none (by omega)]
    simp

theorem bOf_bd {ds : List Int} (h : ∀ v ∈ ds, 0 ≤ v ∧ v < 16) (j : Nat) : 0 ≤ bOf ds j ∧ bOf ds j ≤ 255 := by
  unfold bOf
  have := nib_getD h (2 * j)
  have := nib_getD h (2 * j + 1)
  omega

theorem info23 : (Try.prog.info? 23).map (·.size) = some 16 := by kernel_rfl

set_option maxHeartbeats 1000000 in
set_option maxRecDepth 100000 in
theorem canon_any (s : ByteArray) (w : World) (hs : s.size ≤ 1048576) : Calls Try.prog 9 #[.string s] w fun e w' => ((e = .returned (.bool true) ∧ canonP s) ∨ (e = .returned (.bool false) ∧ ¬ canonP s)) ∧ Below w.heap.size w w' := by
  go_enter Try.func9, Try.ntmps9
  go_wp2_with fail
  go_loopw [4, 5] (fun d i wr => ∃ (k : Nat) (ds : List Int), k ≤ s.size ∧ i = .int .i64 k ∧ d = .int .i64 ds.length ∧ ds.length ≤ 32 ∧ Hid (∀ v ∈ ds, 0 ≤ v ∧ v < 16) ∧ Hid (wr.rowIs w.heap.size 23 16 (fun j => .int .u8 (bOf ds j))) ∧ Hid (scan ((Ls s).drop k) ds = scan (Ls s) []) ∧ Hid (Below w.heap.size w wr)) (fun _ i _ => s.size - (intOf i).toNat)
  case atStart => exact ⟨0, [], Nat.zero_le _, rfl, rfl, by simp, fun v hv => by simp at hv, World.rowIs_alloc _ _ _ _ (by intro i hi; have hi' : i < 16 := hi; rcases (show i = 0 ∨ i = 1 ∨ i = 2 ∨ i = 3 ∨ i = 4 ∨ i = 5 ∨ i = 6 ∨ i = 7 ∨ i = 8 ∨ i = 9 ∨ i = 10 ∨ i = 11 ∨ i = 12 ∨ i = 13 ∨ i = 14 ∨ i = 15 by omega) with rfl | rfl | rfl | rfl | rfl | rfl | rfl | rfl | rfl | rfl | rfl | rfl | rfl | rfl | rfl | rfl <;> rfl), rfl, (Below.refl _ _).alloc (Nat.le_refl _) _⟩
  case round =>
    obtain ⟨k, ds, hk, rfl, rfl, hds, Hnib, Hrow, Hscan, Hbel⟩ := hrel
    by_cases hlt : k < s.size
    · obtain ⟨c, hc⟩ : ∃ c : Int, ((s[k]'hlt).toNat : Int) = c := ⟨_, rfl⟩
      have HC : Hid (((s[k]'hlt).toNat : Int) = c) := hc
      by_cases h45 : c = 45
      · have h45' : (c == 45) = true := by rw [beq_iff_eq]; exact h45
        have HS : Hid (scan ((Ls s).drop k) ds = scan ((Ls s).drop (k + 1)) ds) := scan_dash hlt (HC.out.trans h45)
        clear h45
        go_wp2_with fail
        go_roundw
        case rel => exact ⟨k + 1, ds, by omega, by go_num, rfl, hds, Hnib, Hrow, HS.out.symm.trans Hscan.out, Hbel⟩
        case measure => simp [intOf]; omega
      have h45' : (c == 45) = false := by rw [beq_eq_false_iff_ne]; exact h45
      by_cases hx : hexI c = -1
      · have HS : Hid (scan ((Ls s).drop k) ds = none) := scan_bad hlt HC.out h45 (.inl hx)
        have hx0 : hexI c < 0 := by omega
        clear h45 hx
        go_wp2_with fail
        refine (hexval_any c wr).mono ?_
        rintro e w1 ⟨rfl, rfl⟩
        go_wp2_with fail
        go_ret
        exact ⟨.inr ⟨rfl, fun ⟨ds', h1, _, _⟩ => by rw [← Hscan.out, HS.out] at h1; cases h1⟩, Hbel.out⟩
      obtain ⟨v0, v1, _⟩ := tab_hexI c hx
      by_cases h32 : ds.length = 32
      · have HS : Hid (scan ((Ls s).drop k) ds = none) := scan_bad hlt HC.out h45 (.inr h32)
        have hx0 : decide (hexI c < 0) = false := decide_eq_false (by omega)
        have h32' : ((ds.length : Int) == 32) = true := by rw [beq_iff_eq]; omega
        clear h45 hx h32
        go_wp2_with fail
        refine (hexval_any c wr).mono ?_
        rintro e w1 ⟨rfl, rfl⟩
        go_wp2_with fail
        go_ret
        exact ⟨.inr ⟨rfl, fun ⟨ds', h1, _, _⟩ => by rw [← Hscan.out, HS.out] at h1; cases h1⟩, Hbel.out⟩
      have HS : Hid (scan ((Ls s).drop k) ds = scan ((Ls s).drop (k + 1)) (ds ++ [hexI c])) := scan_hex hlt HC.out h45 hx h32
      have hx0 : decide (hexI c < 0) = false := decide_eq_false (by omega)
      have h32' : ((ds.length : Int) == 32) = false := by rw [beq_eq_false_iff_ne]; omega
      have hlen : ds.length < 32 := by omega
      have Hnib' : Hid (∀ v ∈ ds ++ [hexI c], 0 ≤ v ∧ v < 16) := fun v hv => by
        rcases List.mem_append.1 hv with h | h
        · exact Hnib.out v h
        · simp at h; subst h; exact ⟨v0, v1⟩
      obtain ⟨v, hv⟩ : ∃ v, hexI c = v := ⟨_, rfl⟩
      rw [hv] at HS Hnib' v0 v1 hx0
      have HV : Hid (hexI c = v) := hv
      clear h45 hx h32 hv
      obtain ⟨d, hd⟩ : ∃ d, ds.length = d := ⟨_, rfl⟩
      rw [hd] at hds h32' hlen
      rw [hd]
      have HD : Hid (ds.length = d) := hd
      clear hd
      by_cases hev : d % 2 = 0
      · have hev' : (d : Int) % 2 = 0 := by omega
        have hc0 := Hrow.out.cell (i := d / 2) (by omega)
        have hf0 := Hrow.out.frozen (d / 2)
        go_wp2_with fail
        refine (hexval_any c wr).mono ?_
        rintro e w1 ⟨rfl, rfl⟩
        rw [HV.out]
        go_wp2_with fail
        go_roundw
        case rel =>
          refine ⟨k + 1, ds ++ [v], by omega, by go_num, by simp [HD.out], by simp [HD.out]; omega, Hnib', ?_, HS.out.symm.trans Hscan.out, Hbel.out.setCell (p := ⟨w.heap.size, d / 2, none⟩) (Nat.le_refl _) _⟩
          refine (Hrow.out.set (d / 2) _).congr fun j _ => ?_
          rw [bOf_even ds v (d / 2) (by have := HD.out; omega) j]
          split <;> rfl
        case measure => simp [intOf]; omega
      · have hev' : (d : Int) % 2 = 1 := by omega
        obtain ⟨x0, x1⟩ := nib_getD Hnib.out (2 * (d / 2))
        have hc0 : wr.cell? ⟨w.heap.size, d / 2, none⟩ = some (.int .u8 (16 * ds.getD (2 * (d / 2)) 0)) := by
          rw [← bOf_odd_old ds (d / 2) (by have := HD.out; omega)]; exact Hrow.out.cell (i := d / 2) (by omega)
        have hf0 := Hrow.out.frozen (d / 2)
        obtain ⟨x, hx⟩ : ∃ x, ds.getD (2 * (d / 2)) 0 = x := ⟨_, rfl⟩
        rw [hx] at x0 x1 hc0
        have HX : Hid (ds.getD (2 * (d / 2)) 0 = x) := hx
        clear hx
        have hor := or_nib x v x0 x1 v0 v1
        go_wp2_with fail
        refine (hexval_any c wr).mono ?_
        rintro e w1 ⟨rfl, rfl⟩
        rw [HV.out]
        go_wp2_with fail
        go_roundw
        case rel =>
          refine ⟨k + 1, ds ++ [v], by omega, by go_num, by simp [HD.out], by simp [HD.out]; omega, Hnib', ?_, HS.out.symm.trans Hscan.out, Hbel.out.setCell (p := ⟨w.heap.size, d / 2, none⟩) (Nat.le_refl _) _⟩
          refine (Hrow.out.set (d / 2) _).congr fun j _ => ?_
          rw [bOf_odd ds v (d / 2) (by have := HD.out; omega) j, HX.out]
          split <;> rfl
        case measure => simp [intOf]; omega
    · by_cases h32 : ds.length = 32
      · have h32' : ((ds.length : Int) != 32) = false := by rw [bne_eq_false_iff_eq]; omega
        obtain ⟨cc, hcb, hcs, hcc⟩ := Hrow.out
        have hci : (Try.prog.info? 23).map (·.size) = some cc.size := by rw [hcs]; exact info23
        have HCC : Hid (∀ k, k < 16 → cc[k]? = some (.int .u8 (bOf ds k))) := hcc
        have HCS : Hid (cc.size = 16) := hcs
        clear hcc hcs
        go_wp2_with (refine wpList_load_row rfl 23 (.tmp 3) rfl w.heap.size rfl 23 cc (0, 0) _ hcb Try.underlying23 rfl hci ?_)
        refine (format_any cc (bOf ds) wr HCC.out (fun t _ => bOf_bd Hnib.out t)).mono ?_
        rintro e w1 ⟨rfl, hb1⟩
        have HB1 : Hid (Below w.heap.size w w1) := Hbel.out.trans (hb1.mono Hbel.out.size)
        clear hb1
        have HS : Hid (scan (Ls s) [] = some ds) := by
          rw [← Hscan.out, List.drop_eq_nil_of_le (by rw [Ls_len]; omega)]; rfl
        have H32 := hide h32
        obtain ⟨F, hF⟩ : ∃ F, strOfNums (outP (bOf ds) 16) = F := ⟨_, rfl⟩
        rw [hF]
        have HF : Hid (strOfNums (outP (bOf ds) 16) = F) := hF
        clear hF
        cases hq : (F.toList == s.toList)
        · have HQ : Hid (F.toList ≠ s.toList) := by simpa [Hid] using hq
          go_wp2
          go_ret
          exact ⟨.inr ⟨by rfl, fun ⟨ds', h1, _, h3⟩ => by rw [HS.out] at h1; cases h1; rw [HF.out] at h3; exact HQ.out h3⟩, HB1.out⟩
        · have HQ : Hid (F.toList = s.toList) := by simpa [Hid] using hq
          go_wp2
          go_ret
          exact ⟨.inl ⟨by rfl, ds, HS.out, unhide H32, by rw [HF.out]; exact HQ.out⟩, HB1.out⟩
      · have h32' : ((ds.length : Int) != 32) = true := by rw [bne_iff_ne]; omega
        have HS : Hid (scan (Ls s) [] = some ds) := by
          rw [← Hscan.out, List.drop_eq_nil_of_le (by rw [Ls_len]; omega)]; rfl
        have H32 := hide h32
        clear h32
        go_wp2_with fail
        go_ret
        exact ⟨.inr ⟨rfl, fun ⟨ds', h1, h2, _⟩ => by rw [HS.out] at h1; cases h1; exact unhide H32 h2⟩, Hbel.out⟩
end Go.Proofs.Qxb6609019a
