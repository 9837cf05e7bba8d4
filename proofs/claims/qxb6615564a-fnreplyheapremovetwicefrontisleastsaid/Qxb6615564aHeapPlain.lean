import Derived.Deep.OwnRows
namespace Go.Proofs.Qxb6615564a

/-! A binary heap on positions: plain facts, no Go in sight. -/
def par (t : Nat) : Nat := (t - 1) / 2
theorem par_lt {t : Nat} (h : 0 < t) : par t < t := by unfold par; omega
theorem par_cases {t c : Nat} (h : 0 < t) (e : par t = c) : t = 2 * c + 1 ∨ t = 2 * c + 2 := by unfold par at e; omega

def swapA {α : Type} (A : Nat → α) (i j : Nat) (t : Nat) : α := if t = i then A j else if t = j then A i else A t
theorem swapA_l {α : Type} {A : Nat → α} {i j : Nat} : swapA A i j i = A j := by simp [swapA]
theorem swapA_r {α : Type} {A : Nat → α} {i j : Nat} : swapA A i j j = A i := by
  unfold swapA; by_cases h : j = i
  · rw [if_pos h, h]
  · rw [if_neg h, if_pos rfl]
theorem swapA_o {α : Type} {A : Nat → α} {i j t : Nat} (h1 : t ≠ i) (h2 : t ≠ j) : swapA A i j t = A t := by unfold swapA; rw [if_neg h1, if_neg h2]

structure Bij (n : Nat) (A : Nat → Nat) : Prop where
  lt : ∀ i, i < n → A i < n
  inj : ∀ i j, i < n → j < n → A i = A j → i = j
  sur : ∀ j, j < n → ∃ i, i < n ∧ A i = j

theorem Bij.swap {n : Nat} {A : Nat → Nat} (h : Bij n A) {i j : Nat} (hi : i < n) (hj : j < n) : Bij n (swapA A i j) where
  lt t ht := by
    unfold swapA
    split
    · exact h.lt j hj
    · split
      · exact h.lt i hi
      · exact h.lt t ht
  inj s t hs ht e := by
    unfold swapA at e
    by_cases e1 : s = i
    · by_cases e2 : t = i
      · rw [e1, e2]
      · rw [if_pos e1, if_neg e2] at e
        by_cases e3 : t = j
        · rw [if_pos e3] at e
          have := h.inj _ _ hj hi e; omega
        · rw [if_neg e3] at e
          exact absurd (h.inj _ _ hj ht e).symm e3
    · rw [if_neg e1] at e
      by_cases e3 : s = j
      · rw [if_pos e3] at e
        by_cases e2 : t = i
        · rw [if_pos e2] at e
          have := h.inj _ _ hi hj e; omega
        · rw [if_neg e2] at e
          by_cases e4 : t = j
          · rw [e3, e4]
          · rw [if_neg e4] at e
            exact absurd (h.inj _ _ hi ht e).symm e2
      · rw [if_neg e3] at e
        by_cases e2 : t = i
        · rw [if_pos e2] at e
          exact absurd (h.inj _ _ hs hj e) e3
        · rw [if_neg e2] at e
          by_cases e4 : t = j
          · rw [if_pos e4] at e
            exact absurd (h.inj _ _ hs hi e) e1
          · rw [if_neg e4] at e
            exact h.inj _ _ hs ht e
  sur t ht := by
    obtain ⟨s, hs, e⟩ := h.sur t ht
    by_cases e1 : s = i
    · exact ⟨j, hj, by rw [swapA_r, ← e1, e]⟩
    · by_cases e2 : s = j
      · exact ⟨i, hi, by rw [swapA_l, ← e2, e]⟩
      · exact ⟨s, hs, by rw [swapA_o e1 e2, e]⟩

def Heap (key : Nat → Int) (N : Nat) : Prop := ∀ t, 0 < t → t < N → key (par t) ≤ key t

theorem Heap.least {key : Nat → Int} {N : Nat} (h : Heap key N) : ∀ t, t < N → key 0 ≤ key t := by
  intro t
  induction t using Nat.strongRecOn with
  | ind t ih =>
    intro ht
    by_cases h0 : t = 0
    · rw [h0]; exact Int.le_refl _
    · have h1 := par_lt (t := t) (by omega)
      have := ih (par t) h1 (by omega)
      have := h t (by omega) ht
      omega

structure DownInv (key : Nat → Int) (N i0 c : Nat) : Prop where
  d1 : ∀ t, 0 < t → t < N → t ≠ c → par t ≠ c → key (par t) ≤ key t
  d2 : 0 < c → ∀ t, 0 < t → t < N → par t = c → key (par c) ≤ key t
  d3 : c ≠ i0 → 0 < c ∧ key (par c) ≤ key c
  ge : i0 ≤ c
  lt : c < N

structure UpInv (key : Nat → Int) (N j : Nat) : Prop where
  u1 : ∀ t, 0 < t → t < N → t ≠ j → key (par t) ≤ key t
  u2 : 0 < j → ∀ t, 0 < t → t < N → par t = j → key (par j) ≤ key t
  lt : j < N

theorem DownInv.start {key : Nat → Int} {n i : Nat} (h : Heap key (n + 1)) (hi : i < n) : DownInv (swapA key i n) n i i where
  d1 t h0 ht h1 h2 := by
    have := par_lt h0
    rw [swapA_o h1 (by omega), swapA_o h2 (by omega)]
    exact h t h0 (by omega)
  d2 h0 t ht0 ht e := by
    have h1 := par_lt h0
    have h2 := par_lt ht0
    rw [swapA_o (by omega) (by omega), swapA_o (by omega) (by omega)]
    have a := h i h0 (by omega)
    have b := h t ht0 (by omega)
    rw [e] at b
    omega
  d3 h := absurd rfl h
  ge := Nat.le_refl _
  lt := hi

theorem DownInv.step {key : Nat → Int} {N i0 c j : Nat} (h : DownInv key N i0 c) (hj0 : 0 < j) (hj : j < N) (hp : par j = c) (hlt : key j < key c) (hmin : ∀ t, 0 < t → t < N → par t = c → key j ≤ key t) : DownInv (swapA key c j) N i0 j where
  d1 t h0 ht h1 h2 := by
    have hcj := par_lt hj0
    have hpt := par_lt h0
    by_cases e : t = c
    · subst e
      rw [swapA_l, swapA_o (by omega) (by omega)]
      exact h.d2 h0 j hj0 hj hp
    · by_cases e' : par t = c
      · rw [e', swapA_l, swapA_o e h1]
        exact hmin t h0 ht e'
      · rw [swapA_o e h1, swapA_o e' h2]
        exact h.d1 t h0 ht e e'
  d2 _ t ht0 ht e := by
    have hcj := par_lt hj0
    have hpt := par_lt ht0
    rw [hp, swapA_l, swapA_o (by omega) (by omega)]
    have := h.d1 t ht0 ht (by omega) (by omega)
    rwa [e] at this
  d3 _ := ⟨hj0, by rw [hp, swapA_l, swapA_r]; omega⟩
  ge := by have := par_lt hj0; have := h.ge; omega
  lt := hj

theorem DownInv.done {key : Nat → Int} {N i0 c : Nat} (h : DownInv key N i0 c) (hmin : ∀ t, 0 < t → t < N → par t = c → key c ≤ key t) : UpInv key N c ∧ (c ≠ i0 → Heap key N) := by
  have u1 : ∀ t, 0 < t → t < N → t ≠ c → key (par t) ≤ key t := fun t h0 ht h1 => by
    by_cases e : par t = c
    · rw [e]; exact hmin t h0 ht e
    · exact h.d1 t h0 ht h1 e
  refine ⟨⟨u1, h.d2, h.lt⟩, fun hc t h0 ht => ?_⟩
  by_cases e : t = c
  · rw [e]; exact (h.d3 hc).2
  · exact u1 t h0 ht e

theorem UpInv.step {key : Nat → Int} {N j : Nat} (h : UpInv key N j) (hj0 : 0 < j) (hlt : key j < key (par j)) : UpInv (swapA key (par j) j) N (par j) where
  u1 t h0 ht h1 := by
    have hpj := par_lt hj0
    have hpt := par_lt h0
    by_cases e : t = j
    · subst e; rw [swapA_l, swapA_r]; omega
    · rw [swapA_o h1 e]
      by_cases e1 : par t = par j
      · rw [e1, swapA_l]
        have := h.u1 t h0 ht e
        rw [e1] at this; omega
      · by_cases e2 : par t = j
        · rw [e2, swapA_r]; exact h.u2 hj0 t h0 ht e2
        · rw [swapA_o e1 e2]; exact h.u1 t h0 ht e
  u2 hi0 t h0 ht e := by
    have hpj := par_lt hj0
    have hpi := par_lt hi0
    have hpt := par_lt h0
    have hlt' := h.lt
    have a := h.u1 (par j) hi0 (by omega) (by omega)
    rw [swapA_o (by omega) (by omega)]
    by_cases e1 : t = j
    · rw [e1, swapA_r]; exact a
    · rw [swapA_o (by omega) e1]
      have b := h.u1 t h0 ht e1
      rw [e] at b
      omega
  lt := by have := par_lt hj0; have := h.lt; omega

theorem UpInv.done {key : Nat → Int} {N j : Nat} (h : UpInv key N j) (hd : 0 < j → key (par j) ≤ key j) : Heap key N := fun t h0 ht => by
  by_cases e : t = j
  · rw [e]; exact hd (by omega)
  · exact h.u1 t h0 ht e

theorem swap_key (due : Nat → Int) (A : Nat → Nat) (i j : Nat) : (fun t => due (swapA A i j t)) = swapA (fun t => due (A t)) i j := by
  funext t; unfold swapA; split
  · rfl
  · split <;> rfl
end Go.Proofs.Qxb6615564a
