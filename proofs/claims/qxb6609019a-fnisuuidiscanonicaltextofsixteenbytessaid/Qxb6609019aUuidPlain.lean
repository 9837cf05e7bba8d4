import Derived.Test.Qxb6609019aUuidC
namespace Go.Proofs.Qxb6609019a

/-! The plain law: no Go in sight. -/
theorem scan_nib : ∀ (l ds0 ds : List Int), scan l ds0 = some ds → (∀ v ∈ ds0, 0 ≤ v ∧ v < 16) → ∀ v ∈ ds, 0 ≤ v ∧ v < 16
  | [], ds0, ds, h, h0 => by simp [scan] at h; subst h; exact h0
  | c :: t, ds0, ds, h, h0 => by
    rw [scan] at h
    by_cases h1 : c = 45
    · rw [if_pos h1] at h; exact scan_nib t ds0 ds h h0
    · rw [if_neg h1] at h
      by_cases h2 : hexI c = -1 ∨ ds0.length = 32
      · rw [if_pos h2] at h; cases h
      · rw [if_neg h2] at h
        obtain ⟨v0, v1, _⟩ := tab_hexI c (fun e => h2 (.inl e))
        refine scan_nib t _ ds h fun v hv => ?_
        rcases List.mem_append.1 hv with hv | hv
        · exact h0 v hv
        · simp at hv; subst hv; exact ⟨v0, v1⟩

theorem scan_run : ∀ (l t ds : List Int), (∀ c ∈ l, c ≠ 45 ∧ hexI c ≠ -1) → ds.length + l.length ≤ 32 → scan (l ++ t) ds = scan t (ds ++ l.map hexI)
  | [], t, ds, _, _ => by simp
  | c :: l, t, ds, h, hl => by
    obtain ⟨h1, h2⟩ := h c (by simp)
    simp only [List.length_cons] at hl
    rw [List.cons_append, scan, if_neg h1, if_neg (by rintro (e | e); exact h2 e; omega), scan_run l t _ (fun c hc => h c (by simp [hc])) (by simp; omega)]
    simp
theorem scan_dash45 (t ds : List Int) : scan (45 :: t) ds = scan t ds := by rw [scan, if_pos rfl]

def E (n : Nat → Int) : List Int := [tab (n 0), tab (n 1), tab (n 2), tab (n 3), tab (n 4), tab (n 5), tab (n 6), tab (n 7), 45, tab (n 8), tab (n 9), tab (n 10), tab (n 11), 45, tab (n 12), tab (n 13), tab (n 14), tab (n 15), 45, tab (n 16), tab (n 17), tab (n 18), tab (n 19), 45, tab (n 20), tab (n 21), tab (n 22), tab (n 23), tab (n 24), tab (n 25), tab (n 26), tab (n 27), tab (n 28), tab (n 29), tab (n 30), tab (n 31)]

theorem outP_E (b n : Nat → Int) (h1 : ∀ k, b k / 16 = n (2 * k)) (h2 : ∀ k, b k % 16 = n (2 * k + 1)) : outP b 16 = E n := by
  simp [outP, grp, h1, h2, E]

theorem bOf_div {ds : List Int} (h : ∀ v ∈ ds, 0 ≤ v ∧ v < 16) (k : Nat) : bOf ds k / 16 = ds.getD (2 * k) 0 := by
  unfold bOf; have := nib_getD h (2 * k); have := nib_getD h (2 * k + 1); omega
theorem bOf_mod {ds : List Int} (h : ∀ v ∈ ds, 0 ≤ v ∧ v < 16) (k : Nat) : bOf ds k % 16 = ds.getD (2 * k + 1) 0 := by
  unfold bOf; have := nib_getD h (2 * k); have := nib_getD h (2 * k + 1); omega

theorem tab_hex (x : Int) (h0 : 0 ≤ x) (h1 : x < 16) : (48 ≤ tab x ∧ tab x ≤ 57) ∨ (97 ≤ tab x ∧ tab x ≤ 102) := by
  unfold tab; split <;> omega

theorem str_toList (l : List Int) : (strOfNums l).toList = l.map fun n => UInt8.ofNat n.toNat := by
  rw [ByteArray.toList_eq, strOfNums_data]

theorem cs_E (s : ByteArray) (n : Nat → Int) (h : (strOfNums (E n)).toList = s.toList) (hn : ∀ i, 0 ≤ n i ∧ n i < 16) : isU s := by
  rw [str_toList, ByteArray.toList_eq] at h
  have hs : s.size = 36 := by
    have : s.data.toList.length = 36 := by rw [← h]; simp [E]
    simpa using this
  refine ⟨hs, fun i hi => ?_⟩
  have hE : ∀ c ∈ E n, 0 ≤ c ∧ c ≤ 255 := by
    intro c hc
    have key : ∀ x, 0 ≤ tab (n x) ∧ tab (n x) ≤ 255 := fun x => by have := tab_hex (n x) (hn x).1 (hn x).2; omega
    simp only [E, List.mem_cons, List.not_mem_nil, or_false] at hc
    rcases hc with rfl | rfl | rfl | rfl | rfl | rfl | rfl | rfl | rfl | rfl | rfl | rfl | rfl | rfl | rfl | rfl | rfl | rfl | rfl | rfl | rfl | rfl | rfl | rfl | rfl | rfl | rfl | rfl | rfl | rfl | rfl | rfl | rfl | rfl | rfl | rfl <;> first | exact key _ | omega
  have hcs : cs s i = (E n).getD i 0 := by
    unfold cs
    rw [← h]
    have hl : i < (E n).length := by simp [E]; omega
    simp only [List.getD, List.getElem?_map, List.getElem?_eq_getElem hl, Option.map_some, Option.getD_some]
    have := hE _ (List.getElem_mem hl)
    rw [UInt8.toNat_ofNat']
    omega
  rw [hcs]
  unfold okC
  have key : ∀ x, (48 ≤ tab (n x) ∧ tab (n x) ≤ 57) ∨ (97 ≤ tab (n x) ∧ tab (n x) ≤ 102) := fun x => tab_hex (n x) (hn x).1 (hn x).2
  rcases (show i = 0 ∨ i = 1 ∨ i = 2 ∨ i = 3 ∨ i = 4 ∨ i = 5 ∨ i = 6 ∨ i = 7 ∨ i = 8 ∨ i = 9 ∨ i = 10 ∨ i = 11 ∨ i = 12 ∨ i = 13 ∨ i = 14 ∨ i = 15 ∨ i = 16 ∨ i = 17 ∨ i = 18 ∨ i = 19 ∨ i = 20 ∨ i = 21 ∨ i = 22 ∨ i = 23 ∨ i = 24 ∨ i = 25 ∨ i = 26 ∨ i = 27 ∨ i = 28 ∨ i = 29 ∨ i = 30 ∨ i = 31 ∨ i = 32 ∨ i = 33 ∨ i = 34 ∨ i = 35 by omega) with rfl | rfl | rfl | rfl | rfl | rfl | rfl | rfl | rfl | rfl | rfl | rfl | rfl | rfl | rfl | rfl | rfl | rfl | rfl | rfl | rfl | rfl | rfl | rfl | rfl | rfl | rfl | rfl | rfl | rfl | rfl | rfl | rfl | rfl | rfl | rfl
  all_goals first | exact (if_pos (by decide)).mpr rfl | exact (if_neg (by decide)).mpr (key _) | (rw [if_pos (by decide)]; rfl) | (rw [if_neg (by decide)]; exact key _)

theorem canon_isU (s : ByteArray) (h : canonP s) : isU s := by
  obtain ⟨ds, h1, h2, h3⟩ := h
  have hn := scan_nib _ _ _ h1 (fun v hv => by simp at hv)
  rw [outP_E (bOf ds) (fun i => ds.getD i 0) (bOf_div hn) (bOf_mod hn)] at h3
  exact cs_E s _ h3 (nib_getD hn)

theorem Ls_range (s : ByteArray) : Ls s = (List.range s.size).map (cs s) := by
  apply List.ext_getElem
  · simp [Ls]
  · intro i h1 h2
    have hi : i < s.data.toList.length := by simpa [Ls] using h1
    have hi' : i < s.data.size := by simpa using hi
    simp [Ls, cs, List.getD, Array.getElem?_eq_getElem hi']

theorem isU_canon (s : ByteArray) (h : isU s) : canonP s := by
  obtain ⟨h36, hok⟩ := h
  have d8 : cs s 8 = 45 := by simpa [okC] using hok 8 (by omega)
  have d13 : cs s 13 = 45 := by simpa [okC] using hok 13 (by omega)
  have d18 : cs s 18 = 45 := by simpa [okC] using hok 18 (by omega)
  have d23 : cs s 23 = 45 := by simpa [okC] using hok 23 (by omega)
  have hx : ∀ i, i < 36 → ¬ (i = 8 ∨ i = 13 ∨ i = 18 ∨ i = 23) → (cs s i ≠ 45 ∧ hexI (cs s i) ≠ -1) ∧ tab (hexI (cs s i)) = cs s i := fun i hi hne => by
    have := hok i hi
    unfold okC at this
    rw [if_neg hne] at this
    have h1 : hexI (cs s i) ≠ -1 := by
      unfold hexI
      rcases this with h | h
      · rw [if_pos h]; omega
      · rw [if_neg (by omega), if_pos h]; omega
    exact ⟨⟨by omega, h1⟩, (tab_hexI _ h1).2.2⟩
  have hL : Ls s = [cs s 0, cs s 1, cs s 2, cs s 3, cs s 4, cs s 5, cs s 6, cs s 7] ++ (45 :: ([cs s 9, cs s 10, cs s 11, cs s 12] ++ (45 :: ([cs s 14, cs s 15, cs s 16, cs s 17] ++ (45 :: ([cs s 19, cs s 20, cs s 21, cs s 22] ++ (45 :: ([cs s 24, cs s 25, cs s 26, cs s 27, cs s 28, cs s 29, cs s 30, cs s 31, cs s 32, cs s 33, cs s 34, cs s 35] ++ [])))))))) := by
    rw [Ls_range, h36]
    simp [List.range_succ, d8, d13, d18, d23]
  have hscan : scan (Ls s) [] = some ([] ++ [cs s 0, cs s 1, cs s 2, cs s 3, cs s 4, cs s 5, cs s 6, cs s 7].map hexI ++ [cs s 9, cs s 10, cs s 11, cs s 12].map hexI ++ [cs s 14, cs s 15, cs s 16, cs s 17].map hexI ++ [cs s 19, cs s 20, cs s 21, cs s 22].map hexI ++ [cs s 24, cs s 25, cs s 26, cs s 27, cs s 28, cs s 29, cs s 30, cs s 31, cs s 32, cs s 33, cs s 34, cs s 35].map hexI) := by
    rw [hL, scan_run _ _ _ (by simp [hx]) (by simp), scan_dash45, scan_run _ _ _ (by simp [hx]) (by simp), scan_dash45, scan_run _ _ _ (by simp [hx]) (by simp), scan_dash45, scan_run _ _ _ (by simp [hx]) (by simp), scan_dash45, scan_run _ _ _ (by simp [hx]) (by simp), scan]
  have hn := scan_nib _ _ _ hscan (fun v hv => by simp at hv)
  refine ⟨_, hscan, by simp, ?_⟩
  rw [outP_E (bOf _) (fun i => List.getD _ i 0) (bOf_div hn) (bOf_mod hn), str_toList, ByteArray.toList_eq]
  have hE : E (fun i => ([] ++ [cs s 0, cs s 1, cs s 2, cs s 3, cs s 4, cs s 5, cs s 6, cs s 7].map hexI ++ [cs s 9, cs s 10, cs s 11, cs s 12].map hexI ++ [cs s 14, cs s 15, cs s 16, cs s 17].map hexI ++ [cs s 19, cs s 20, cs s 21, cs s 22].map hexI ++ [cs s 24, cs s 25, cs s 26, cs s 27, cs s 28, cs s 29, cs s 30, cs s 31, cs s 32, cs s 33, cs s 34, cs s 35].map hexI).getD i 0) = Ls s := by
    rw [hL]
    simp [E, hx]
  rw [hE]
  unfold Ls
  rw [List.map_map]
  conv => rhs; rw [← List.map_id s.data.toList]
  apply List.map_congr_left
  intro c _
  simp

theorem uuid_law (s : ByteArray) : isU s ↔ canonP s := ⟨isU_canon s, canon_isU s⟩
end Go.Proofs.Qxb6609019a
