import Derived.Test.Qxb6609019aTokA
namespace Go.Proofs.Qxb6609019a
open Go.RowKit

theorem fill_step (V : Nat → Value) (Z : Value) (k j : Nat) : (if j = k then V k else if j < k then V j else Z) = if j < k + 1 then V j else Z := by
  by_cases h : j = k
  · subst h; rw [if_pos rfl, if_pos (by omega)]
  · rw [if_neg h]
    by_cases h' : j < k
    · rw [if_pos h', if_pos (by omega)]
    · rw [if_neg h', if_neg (by omega)]

theorem Try.info9 : (Try.prog.info? 9).map (fun i => (i.zero, i.size, i.bytes)) = some (some (.string ByteArray.empty), 1, 16) := by kernel_rfl
theorem Try.info5' : (Try.prog.info? 5).map (fun i => (i.zero, i.size, i.bytes)) = some (some (.int .u8 0), 1, 1) := by kernel_rfl

theorem copyStrs_any (v : Value) (z : Bool) (l : Nat) (N : Nat → ByteArray) (w : World) (hl : l ≤ 1048576) (hv : Arg w v z l l (fun i => .string (N i))) (hz : z = true → l = 0) :
    Calls Try.prog 23 #[v] w fun e w' => ∃ v', e = .returned v' ∧ Slot w' (fun b => w.heap.size ≤ b) v' z l l (fun i => .string (N i)) ∧ Below w.heap.size w w' := by
  obtain ⟨a, b, o, c, rfl, hzz, hA, hc⟩ := hv
  have hn := fun w => Lib.run_eql_slice_nil (P := Try.prog) w 28 9 a l c 0 0 Try.underlying28
  cases a with
  | none =>
    simp at hzz
    have h0 := hz hzz
    subst h0
    go_enter Try.func23, Try.ntmps23
    go_wp2
    go_ret
    exact ⟨_, rfl, ⟨none, 0, 0, rfl, by simp, fun h => absurd h (by omega)⟩, Below.refl _ _⟩
  | some a =>
  simp at hzz
  subst hzz
  have hmk := run_make_row' (P := Try.prog) 28 9 (.string ByteArray.empty) 16 Try.underlying28 Try.info9 rfl .i64 .i64 l (by omega) (by omega)
  have HA : Hid (0 < l → some a = some (⟨b, o, none⟩ : Addr)) := hA
  have HC : Hid (∀ i, i < l → w.cell? ⟨b, o + i, none⟩ = some (.string (N i))) := hc
  clear hA hc
  go_enter Try.func23, Try.ntmps23
  go_wp2
  go_loopw [4] (fun i wr => ∃ k : Nat, k ≤ l ∧ i = .int .i64 k ∧ wr.rowIs w.heap.size 9 l (fun j => if j < k then .string (N j) else .string ByteArray.empty) ∧ Below w.heap.size w wr)
    (fun i _ => l - (intOf i).toNat)
  case atStart => exact ⟨0, Nat.zero_le _, rfl, (World.rowIs_made _ _ _ _).congr (by intro i hi; simp), (Below.refl _ _).alloc (Nat.le_refl _) _⟩
  case round =>
    obtain ⟨k, hk, rfl, hrow, hbel⟩ := hrel
    by_cases hlt : k < l
    · have ha := HA.out (by omega)
      simp only [Option.some.injEq] at ha
      subst ha
      have hcb : b < w.heap.size := lt_of_cell (HC.out k hlt)
      have hx : wr.cell? ⟨b, o + k, none⟩ = some (.string (N k)) := (hbel.cell hcb).trans (HC.out k hlt)
      have hy := hrow.cell hlt
      have hz := hrow.frozen k
      have Hrow : Hid (wr.rowIs w.heap.size 9 l (fun j => if j < k then .string (N j) else .string ByteArray.empty)) := hrow
      clear hrow
      go_wp2
      go_roundw
      case rel => exact ⟨k + 1, by omega, by go_num, (Hrow.out.set k _).congr (fun j _ => fill_step (fun j => .string (N j)) _ k j), hbel.setCell (Nat.le_refl _) _⟩
      case measure => simp [intOf]; omega
    · go_wp2
      go_ret
      exact ⟨_, rfl, ⟨_, w.heap.size, _, rfl, rfl, fun _ => ⟨rfl, Nat.le_refl _, (Own.of_row hrow).congr (fun j hj => if_pos (by omega))⟩⟩, hbel⟩

theorem copyBytes_any (v : Value) (z : Bool) (l : Nat) (N : Nat → Int) (w : World) (hl : l ≤ 1048576) (hv : Arg w v z l l (fun i => .int .u8 (N i))) (hz : z = true → l = 0) :
    Calls Try.prog 25 #[v] w fun e w' => ∃ v', e = .returned v' ∧ Slot w' (fun b => w.heap.size ≤ b) v' z l l (fun i => .int .u8 (N i)) ∧ Below w.heap.size w w' := by
  obtain ⟨a, b, o, c, rfl, hzz, hA, hc⟩ := hv
  have hn := fun w => Lib.run_eql_slice_nil (P := Try.prog) w 25 5 a l c 0 0 Try.underlying25
  cases a with
  | none =>
    simp at hzz
    have h0 := hz hzz
    subst h0
    go_enter Try.func25, Try.ntmps25
    go_wp2
    go_ret
    exact ⟨_, rfl, ⟨none, 0, 0, rfl, by simp, fun h => absurd h (by omega)⟩, Below.refl _ _⟩
  | some a =>
  simp at hzz
  subst hzz
  have hmk := run_make_row' (P := Try.prog) 25 5 (.int .u8 0) 1 Try.underlying25 Try.info5' rfl .i64 .i64 l (by omega) (by omega)
  have HA : Hid (0 < l → some a = some (⟨b, o, none⟩ : Addr)) := hA
  have HC : Hid (∀ i, i < l → w.cell? ⟨b, o + i, none⟩ = some (.int .u8 (N i))) := hc
  clear hA hc
  go_enter Try.func25, Try.ntmps25
  go_wp2
  go_loopw [4] (fun i wr => ∃ k : Nat, k ≤ l ∧ i = .int .i64 k ∧ wr.rowIs w.heap.size 5 l (fun j => if j < k then .int .u8 (N j) else .int .u8 0) ∧ Below w.heap.size w wr)
    (fun i _ => l - (intOf i).toNat)
  case atStart => exact ⟨0, Nat.zero_le _, rfl, (World.rowIs_made _ _ _ _).congr (by intro i hi; simp), (Below.refl _ _).alloc (Nat.le_refl _) _⟩
  case round =>
    obtain ⟨k, hk, rfl, hrow, hbel⟩ := hrel
    by_cases hlt : k < l
    · have ha := HA.out (by omega)
      simp only [Option.some.injEq] at ha
      subst ha
      have hcb : b < w.heap.size := lt_of_cell (HC.out k hlt)
      have hx : wr.cell? ⟨b, o + k, none⟩ = some (.int .u8 (N k)) := (hbel.cell hcb).trans (HC.out k hlt)
      have hy := hrow.cell hlt
      have hz := hrow.frozen k
      have Hrow : Hid (wr.rowIs w.heap.size 5 l (fun j => if j < k then .int .u8 (N j) else .int .u8 0)) := hrow
      clear hrow
      go_wp2
      go_roundw
      case rel => exact ⟨k + 1, by omega, by go_num, (Hrow.out.set k _).congr (fun j _ => fill_step (fun j => .int .u8 (N j)) _ k j), hbel.setCell (Nat.le_refl _) _⟩
      case measure => simp [intOf]; omega
    · go_wp2
      go_ret
      exact ⟨_, rfl, ⟨_, w.heap.size, _, rfl, rfl, fun _ => ⟨rfl, Nat.le_refl _, (Own.of_row hrow).congr (fun j hj => if_pos (by omega))⟩⟩, hbel⟩

/-- how the mutated string reads. -/
def hashed (m : Bool) (s : ByteArray) : ByteArray := if m then s ++ ⟨#[35]⟩ else s

theorem strsMatch_true (v v' : Value) (z m : Bool) (l : Nat) (N : Nat → ByteArray) (w : World) (hl : l ≤ 1048576) (hN : ∀ i, i < l → (N i).size ≤ 1048576)
    (hv : Arg w v z l l (fun i => .string (hashed m (N i)))) (hv' : Arg w v' z l l (fun i => .string (N i))) :
    Calls Try.prog 27 #[v, v', .bool m] w fun e w' => e = .returned (.bool true) ∧ w' = w := by
  obtain ⟨a, b, o, c, rfl, hz1, hA, hc⟩ := hv
  obtain ⟨a', b', o', c', rfl, hz2, hA', hc'⟩ := hv'
  have hn := fun w => Lib.run_eql_slice_nil (P := Try.prog) w 28 9 a l c 0 0 Try.underlying28
  have hn' := fun w => Lib.run_eql_slice_nil (P := Try.prog) w 28 9 a' l c' 0 0 Try.underlying28
  rw [hz1] at hn
  rw [hz2] at hn'
  clear hz1 hz2
  have HA : Hid (0 < l → a = some ⟨b, o, none⟩) := hA
  have HA' : Hid (0 < l → a' = some ⟨b', o', none⟩) := hA'
  have HC : Hid (∀ i, i < l → w.cell? ⟨b, o + i, none⟩ = some (.string (hashed m (N i)))) := hc
  have HC' : Hid (∀ i, i < l → w.cell? ⟨b', o' + i, none⟩ = some (.string (N i))) := hc'
  have HN : Hid (∀ i, i < l → (N i).size ≤ 1048576) := hN
  clear hA hc hN hA' hc'
  go_enter Try.func27, Try.ntmps27
  go_wp2
  go_loopw [7] (fun i wr => ∃ k : Nat, k ≤ l ∧ i = .int .i64 k ∧ wr = w)
    (fun i _ => l - (intOf i).toNat)
  case atStart => exact ⟨0, Nat.zero_le _, rfl, rfl⟩
  case round =>
    obtain ⟨k, hk, rfl, rfl⟩ := hrel
    by_cases hlt : k < l
    · have ha := HA.out (by omega)
      have ha' := HA'.out (by omega)
      subst ha ha'
      have hx := HC.out k hlt
      have hx' := HC'.out k hlt
      have hs := HN.out k hlt
      have hk1 : (k : Int) < (l : Int) := by omega
      cases m
      · simp only [hashed, Bool.false_eq_true, if_false] at hx
        go_wp2_with fail
        go_roundw
        case rel => exact ⟨k + 1, by omega, by go_num, trivial⟩
        case measure => simp [intOf]; omega
      · simp only [hashed, if_true] at hx
        go_wp2_with fail
        go_roundw
        case rel => exact ⟨k + 1, by omega, by go_num, trivial⟩
        case measure => simp [intOf]; omega
    · have hk1 : decide ((k : Int) < (l : Int)) = false := decide_eq_false (by omega)
      go_wp2_with fail
      go_ret
      exact ⟨rfl, rfl⟩

/-- how the mutated byte reads. -/
def xored (m : Bool) (x : Int) : Int := if m then bits .xor .u8 x 255 else x

theorem bytesMatch_true (v v' : Value) (z m : Bool) (l : Nat) (N : Nat → Int) (w : World) (hl : l ≤ 1048576)
    (hv : Arg w v z l l (fun i => .int .u8 (xored m (N i)))) (hv' : Arg w v' z l l (fun i => .int .u8 (N i))) :
    Calls Try.prog 28 #[v, v', .bool m] w fun e w' => e = .returned (.bool true) ∧ w' = w := by
  obtain ⟨a, b, o, c, rfl, hz1, hA, hc⟩ := hv
  obtain ⟨a', b', o', c', rfl, hz2, hA', hc'⟩ := hv'
  have hn := fun w => Lib.run_eql_slice_nil (P := Try.prog) w 25 5 a l c 0 0 Try.underlying25
  have hn' := fun w => Lib.run_eql_slice_nil (P := Try.prog) w 25 5 a' l c' 0 0 Try.underlying25
  rw [hz1] at hn
  rw [hz2] at hn'
  clear hz1 hz2
  have HA : Hid (0 < l → a = some ⟨b, o, none⟩) := hA
  have HA' : Hid (0 < l → a' = some ⟨b', o', none⟩) := hA'
  have HC : Hid (∀ i, i < l → w.cell? ⟨b, o + i, none⟩ = some (.int .u8 (xored m (N i)))) := hc
  have HC' : Hid (∀ i, i < l → w.cell? ⟨b', o' + i, none⟩ = some (.int .u8 (N i))) := hc'
  clear hA hc hA' hc'
  go_enter Try.func28, Try.ntmps28
  go_wp2
  go_loopw [7] (fun i wr => ∃ k : Nat, k ≤ l ∧ i = .int .i64 k ∧ wr = w)
    (fun i _ => l - (intOf i).toNat)
  case atStart => exact ⟨0, Nat.zero_le _, rfl, rfl⟩
  case round =>
    obtain ⟨k, hk, rfl, rfl⟩ := hrel
    by_cases hlt : k < l
    · have ha := HA.out (by omega)
      have ha' := HA'.out (by omega)
      subst ha ha'
      have hx := HC.out k hlt
      have hx' := HC'.out k hlt
      have hk1 : (k : Int) < (l : Int) := by omega
      cases m
      · simp only [xored, Bool.false_eq_true, if_false] at hx
        go_wp2_with fail
        go_roundw
        case rel => exact ⟨k + 1, by omega, by go_num, trivial⟩
        case measure => simp [intOf]; omega
      · simp only [xored, if_true] at hx
        go_wp2_with fail
        go_roundw
        case rel => exact ⟨k + 1, by omega, by go_num, trivial⟩
        case measure => simp [intOf]; omega
    · have hk1 : decide ((k : Int) < (l : Int)) = false := decide_eq_false (by omega)
      go_wp2_with fail
      go_ret
      exact ⟨rfl, rfl⟩

theorem cloneStrs_any (v : Value) (z : Bool) (l : Nat) (N : Nat → ByteArray) (w : World) (hl : l ≤ 1048576) (hv : Arg w v z l l (fun i => .string (N i))) (hz : z = true → l = 0) :
    Calls Try.prog 30 #[v] w fun e w' => ∃ v', e = .returned v' ∧ Slot w' (fun b => w.heap.size ≤ b) v' z l l (fun i => .string (N i)) ∧ Below w.heap.size w w' := by
  obtain ⟨a, b, o, c, rfl, hzz, hA, hc⟩ := hv
  have hn := fun w => Lib.run_eql_slice_nil (P := Try.prog) w 28 9 a l c 0 0 Try.underlying28
  obtain ⟨i0, hi, hz0⟩ := Option.map_eq_some_iff.1 Try.info9
  simp only [Prod.mk.injEq] at hz0
  obtain ⟨hz0, hz1, hz2⟩ := hz0
  cases a with
  | none =>
    simp at hzz
    have h0 := hz hzz
    subst h0
    go_enter Try.func30, Try.ntmps30
    go_wp2
    go_ret
    exact ⟨_, rfl, ⟨none, 0, 0, rfl, by simp, fun h => absurd h (by omega)⟩, Below.refl _ _⟩
  | some a =>
  simp at hzz
  subst hzz
  by_cases h0 : 0 < l
  · have ha := hA h0
    simp only [Option.some.injEq] at ha
    subst ha
    have HC : Hid (∀ i, i < l → w.cell? ⟨b, o + i, none⟩ = some (.string (N i))) := hc
    clear hc
    go_enter Try.func30, Try.ntmps30
    go_wp2_with (at_builtin; refine wpList_append_grows _ rfl (.tmp 5) (.tmp 6) 28 rfl 9 i0 (.string ByteArray.empty) 1 16 Try.underlying28 hi hz0 hz1 hz2 rfl (by decide) _ 0 0 [] rfl ?hnone ?hlo ?holds ⟨b, o, none⟩ l c ((List.range l).map (fun i => .string (N i))) rfl ?hlen ?c1 ?c2 (by omega) (by unfold maxLen; omega) (by omega) ?grow)
    case c1 =>
      intro j x hj
      obtain ⟨hj1, hj2⟩ := List.getElem?_eq_some_iff.1 hj
      simp at hj1 hj2
      subst hj2
      have h1 := HC.out j hj1
      rw [cell_of_block (Below.heap_alloc w _ b (lt_of_cell h1))]
      exact h1
    case c2 => intro _ _; rfl
    case grow =>
      intro v' w' hown hgrow
      obtain ⟨g, cp, hv'⟩ : ∃ g cp, v' = .slice (some ⟨g, 0, none⟩) l cp := by
        obtain ⟨_, ⟨_, h⟩ | ⟨g, cp, cur, hv', _⟩⟩ := hown
        · omega
        · exact ⟨g, cp, hv'⟩
      have hO := Own.of_owns (n := l) (V := fun i => .string (N i)) hown hv' (fun i hi => by rw [List.getElem?_map, List.getElem?_range (by omega)]; rfl) (by omega)
      have HB : Hid (Below w.heap.size w w') := ((Below.refl _ _).alloc (Nat.le_refl _) _).grown hgrow (by simp) (fun k h => by cases h)
      have HO : Hid (Own w' g l (fun i => .string (N i)) ∧ w.heap.size + 1 ≤ g) := hO
      clear hown hgrow hO
      subst hv'
      go_wp2_with fail
      go_ret
      exact ⟨_, rfl, ⟨_, g, _, rfl, rfl, fun _ => ⟨rfl, by have := HO.out.2; omega, HO.out.1⟩⟩, HB.out⟩
  · have h0' : l = 0 := by omega
    subst h0'
    go_enter Try.func30, Try.ntmps30
    go_wp2
    go_ret
    exact ⟨_, rfl, ⟨_, w.heap.size, _, rfl, rfl, fun h => absurd h (by omega)⟩, (Below.refl _ _).alloc (Nat.le_refl _) _⟩

theorem cloneBytes_any (v : Value) (z : Bool) (l : Nat) (N : Nat → Int) (w : World) (hl : l ≤ 1048576) (hv : Arg w v z l l (fun i => .int .u8 (N i))) (hz : z = true → l = 0) :
    Calls Try.prog 32 #[v] w fun e w' => ∃ v', e = .returned v' ∧ Slot w' (fun b => w.heap.size ≤ b) v' z l l (fun i => .int .u8 (N i)) ∧ Below w.heap.size w w' := by
  obtain ⟨a, b, o, c, rfl, hzz, hA, hc⟩ := hv
  have hn := fun w => Lib.run_eql_slice_nil (P := Try.prog) w 25 5 a l c 0 0 Try.underlying25
  obtain ⟨i0, hi, hz0⟩ := Option.map_eq_some_iff.1 Try.info5'
  simp only [Prod.mk.injEq] at hz0
  obtain ⟨hz0, hz1, hz2⟩ := hz0
  cases a with
  | none =>
    simp at hzz
    have h0 := hz hzz
    subst h0
    go_enter Try.func32, Try.ntmps32
    go_wp2
    go_ret
    exact ⟨_, rfl, ⟨none, 0, 0, rfl, by simp, fun h => absurd h (by omega)⟩, Below.refl _ _⟩
  | some a =>
  simp at hzz
  subst hzz
  by_cases h0 : 0 < l
  · have ha := hA h0
    simp only [Option.some.injEq] at ha
    subst ha
    have HC : Hid (∀ i, i < l → w.cell? ⟨b, o + i, none⟩ = some (.int .u8 (N i))) := hc
    clear hc
    go_enter Try.func32, Try.ntmps32
    go_wp2_with (at_builtin; refine wpList_append_grows _ rfl (.tmp 5) (.tmp 6) 25 rfl 5 i0 (.int .u8 0) 1 1 Try.underlying25 hi hz0 hz1 hz2 rfl (by decide) _ 0 0 [] rfl ?hnone ?hlo ?holds ⟨b, o, none⟩ l c ((List.range l).map (fun i => .int .u8 (N i))) rfl ?hlen ?c1 ?c2 (by omega) (by unfold maxLen; omega) (by omega) ?grow)
    case c1 =>
      intro j x hj
      obtain ⟨hj1, hj2⟩ := List.getElem?_eq_some_iff.1 hj
      simp at hj1 hj2
      subst hj2
      have h1 := HC.out j hj1
      rw [cell_of_block (Below.heap_alloc w _ b (lt_of_cell h1))]
      exact h1
    case c2 => intro _ _; rfl
    case grow =>
      intro v' w' hown hgrow
      obtain ⟨g, cp, hv'⟩ : ∃ g cp, v' = .slice (some ⟨g, 0, none⟩) l cp := by
        obtain ⟨_, ⟨_, h⟩ | ⟨g, cp, cur, hv', _⟩⟩ := hown
        · omega
        · exact ⟨g, cp, hv'⟩
      have hO := Own.of_owns (n := l) (V := fun i => .int .u8 (N i)) hown hv' (fun i hi => by rw [List.getElem?_map, List.getElem?_range (by omega)]; rfl) (by omega)
      have HB : Hid (Below w.heap.size w w') := ((Below.refl _ _).alloc (Nat.le_refl _) _).grown hgrow (by simp) (fun k h => by cases h)
      have HO : Hid (Own w' g l (fun i => .int .u8 (N i)) ∧ w.heap.size + 1 ≤ g) := hO
      clear hown hgrow hO
      subst hv'
      go_wp2_with fail
      go_ret
      exact ⟨_, rfl, ⟨_, g, _, rfl, rfl, fun _ => ⟨rfl, by have := HO.out.2; omega, HO.out.1⟩⟩, HB.out⟩
  · have h0' : l = 0 := by omega
    subst h0'
    go_enter Try.func32, Try.ntmps32
    go_wp2
    go_ret
    exact ⟨_, rfl, ⟨_, w.heap.size, _, rfl, rfl, fun h => absurd h (by omega)⟩, (Below.refl _ _).alloc (Nat.le_refl _) _⟩

end Go.Proofs.Qxb6609019a
