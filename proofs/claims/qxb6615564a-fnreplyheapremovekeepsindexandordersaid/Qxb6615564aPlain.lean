import Derived.Test.Qxb6615564aIds
namespace Go.Proofs.Qxb6615564a
open Go.RowKit

/-! Plain facts: no Go in sight. -/

theorem lastId_lt {N : Nat → ByteArray} {key : ByteArray} {n i : Nat} (h : lastId N key n = some i) : i < n := by
  induction n with
  | zero => simp [lastId] at h
  | succ n ih =>
    simp only [lastId] at h
    split at h
    · simp at h; omega
    · have := ih h; omega

theorem lastId_congr {N N' : Nat → ByteArray} {key : ByteArray} {n : Nat} (h : ∀ i, i < n → N i = N' i) : lastId N key n = lastId N' key n := by
  induction n with
  | zero => rfl
  | succ n ih => simp only [lastId]; rw [h n (by omega), ih (fun i hi => h i (by omega))]

theorem idV_congr {da : Option Addr} {S E S' E' : Nat → Int} {n : Nat} {o : Option Nat} (ho : ∀ i, o = some i → i < n) (h : ∀ i, i < n → S i = S' i ∧ E i = E' i) : idV da S E o = idV da S' E' o := by
  cases o with
  | none => rfl
  | some i => simp only [idV]; rw [(h i (ho i rfl)).1, (h i (ho i rfl)).2]

/-- Among the members p .. k-1 one has the key for its name. -/
def laterB (N : Nat → ByteArray) (key : ByteArray) (p : Nat) : Nat → Bool
  | 0 => false
  | k + 1 => (decide (p ≤ k) && ((N k).toList == key.toList)) || laterB N key p k

theorem laterB_low {N : Nat → ByteArray} {key : ByteArray} {p k : Nat} (h : k ≤ p) : laterB N key p k = false := by
  induction k with
  | zero => rfl
  | succ k ih => simp only [laterB]; rw [ih (by omega)]; simp; omega

theorem laterB_hit {N : Nat → ByteArray} {key : ByteArray} {p k : Nat} (h : p ≤ k) (hq : ((N k).toList == key.toList) = true) : laterB N key p (k + 1) = true := by
  simp [laterB, h, hq]
theorem laterB_miss {N : Nat → ByteArray} {key : ByteArray} {p k : Nat} (hq : ((N k).toList == key.toList) = false) : laterB N key p (k + 1) = laterB N key p k := by
  simp [laterB, hq]

/-- A member put in at place p. -/
def insAt {α : Type} (f : Nat → α) (p : Nat) (x : α) (i : Nat) : α := if i < p then f i else if i = p then x else f (i - 1)
theorem insAt_lt {α : Type} {f : Nat → α} {p : Nat} {x : α} {i : Nat} (h : i < p) : insAt f p x i = f i := if_pos h
theorem insAt_at {α : Type} {f : Nat → α} {p : Nat} {x : α} : insAt f p x p = x := by simp [insAt]
theorem insAt_gt {α : Type} {f : Nat → α} {p : Nat} {x : α} {i : Nat} (h : p ≤ i) : insAt f p x (i + 1) = f i := by
  unfold insAt; rw [if_neg (by omega), if_neg (by omega)]; rfl

theorem ins_law (da : Option Addr) (N : Nat → ByteArray) (S E : Nat → Int) (key nm : ByteArray) (st en : Int) (p d : Nat) :
    idV da (insAt S p st) (insAt E p en) (lastId (insAt N p nm) key (p + d + 1)) =
      if (nm.toList == key.toList) && !laterB N key p (p + d) then cutV da st en else idV da S E (lastId N key (p + d)) := by
  induction d with
  | zero =>
    simp only [Nat.add_zero]
    rw [laterB_low (Nat.le_refl _)]
    simp only [lastId]
    rw [insAt_at]
    cases hq : (nm.toList == key.toList)
    · simp only [Bool.false_eq_true, if_false, Bool.false_and]
      rw [lastId_congr (N := insAt N p nm) (N' := N) (fun i hi => insAt_lt hi)]
      exact idV_congr (n := p) (fun i hi => lastId_lt hi) (fun i hi => ⟨insAt_lt hi, insAt_lt hi⟩)
    · simp [idV, insAt_at]
  | succ d ih =>
    have e1 : p + (d + 1) = (p + d) + 1 := by omega
    rw [e1]
    simp only [lastId] at ih ⊢
    rw [insAt_gt (i := p + d) (by omega)]
    cases hq : ((N (p + d)).toList == key.toList)
    · rw [laterB_miss hq]
      simp only [Bool.false_eq_true, if_false]
      exact ih
    · rw [laterB_hit (by omega) hq]
      simp [idV, insAt_gt (show p ≤ p + d by omega)]

theorem ins_hit (da : Option Addr) (N : Nat → ByteArray) (S E : Nat → Int) (key nm : ByteArray) (st en : Int) (p n : Nat) (h : p ≤ n) (h1 : (nm.toList == key.toList) = true) (h2 : laterB N key p n = false) :
    idV da (insAt S p st) (insAt E p en) (lastId (insAt N p nm) key (n + 1)) = cutV da st en := by
  obtain ⟨d, rfl⟩ : ∃ d, n = p + d := ⟨n - p, by omega⟩
  rw [ins_law, h1, h2]; rfl
theorem ins_miss (da : Option Addr) (N : Nat → ByteArray) (S E : Nat → Int) (key nm : ByteArray) (st en : Int) (p n : Nat) (h : p ≤ n) (h1 : (nm.toList == key.toList) = false ∨ laterB N key p n = true) :
    idV da (insAt S p st) (insAt E p en) (lastId (insAt N p nm) key (n + 1)) = idV da S E (lastId N key n) := by
  obtain ⟨d, rfl⟩ : ∃ d, n = p + d := ⟨n - p, by omega⟩
  rw [ins_law, if_neg]
  rcases h1 with h1 | h1 <;> simp [h1]

/-- The whole's id is B's where B names one, else A's. -/
theorem cut_later (da : Option Addr) (N : Nat → ByteArray) (S E : Nat → Int) (key : ByteArray) (c d : Nat) :
    idV da S E (lastId N key (c + d)) = if laterB N key c (c + d) then idV da (fun i => S (c + i)) (fun i => E (c + i)) (lastId (fun i => N (c + i)) key d) else idV da S E (lastId N key c) := by
  induction d with
  | zero => simp [laterB_low (Nat.le_refl c)]
  | succ d ih =>
    have e1 : c + (d + 1) = (c + d) + 1 := by omega
    rw [e1]
    simp only [lastId]
    cases hq : ((N (c + d)).toList == key.toList)
    · rw [laterB_miss hq]
      simp only [Bool.false_eq_true, if_false]
      exact ih
    · rw [laterB_hit (by omega) hq]
      simp [idV]

theorem cutV_shape (da : Option Addr) (db dof l0 : Nat) (D : Nat → Int) (w : World) (s e : Int) (hs : 0 ≤ s) (hse : s ≤ e) (he : e ≤ l0) (hda : 0 < l0 → da = some ⟨db, dof, none⟩) (hc : ∀ i, i < l0 → w.cell? ⟨db, dof + i, none⟩ = some (.int .u8 (D i))) :
    ∃ x L, cutV da s e = .slice x L L ∧ L = e.toNat - s.toNat ∧ L ≤ l0 ∧ (0 < L → x = some ⟨db, dof + s.toNat, none⟩) ∧ (∀ i, i < L → w.cell? ⟨db, dof + s.toNat + i, none⟩ = some (.int .u8 (D (s.toNat + i)))) ∧ (x.isNone = da.isNone) := by
  refine ⟨_, _, rfl, rfl, by omega, fun h => ?_, fun i hi => ?_, ?_⟩
  · rw [if_neg (by omega), hda (by omega)]; simp [Addr.add]
  · rw [Nat.add_assoc]; exact hc _ (by omega)
  · split
    · rfl
    · cases da <;> rfl

theorem idV_shape (da : Option Addr) (db dof l0 : Nat) (D : Nat → Int) (w : World) (S E : Nat → Int) (n : Nat) (o : Option Nat) (ho : ∀ i, o = some i → i < n) (ok : ∀ i, i < n → OffOk S E l0 i) (hda : 0 < l0 → da = some ⟨db, dof, none⟩) (hc : ∀ i, i < l0 → w.cell? ⟨db, dof + i, none⟩ = some (.int .u8 (D i))) :
    ∃ (x : Option Addr) (L off' : Nat) (D' : Nat → Int), idV da S E o = .slice x L L ∧ L ≤ l0 ∧ (0 < L → x = some ⟨db, off', none⟩) ∧ (∀ i, i < L → w.cell? ⟨db, off' + i, none⟩ = some (.int .u8 (D' i))) := by
  cases o with
  | none => exact ⟨none, 0, 0, fun _ => 0, rfl, by omega, fun h => absurd h (by omega), fun i hi => absurd hi (by omega)⟩
  | some i =>
    obtain ⟨h1, h2, h3⟩ := ok i (ho i rfl)
    obtain ⟨x, L, e, _, hL, hx, hcx, _⟩ := cutV_shape da db dof l0 D w (S i) (E i) h1 h2 h3 hda hc
    exact ⟨x, L, _, _, e, hL, hx, hcx⟩
end Go.Proofs.Qxb6615564a
