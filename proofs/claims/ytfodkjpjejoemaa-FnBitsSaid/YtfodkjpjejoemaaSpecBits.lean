/-
  The specification's lists of bits: Either, Both, Without, Turned.
  Conditions: the arguments read as lists of bools, none of them empty.
-/
import Derived.Test.YtfodkjpjejoemaaPut
import Derived.Test.YtfodkjpjejoemaaBits4
namespace Go.Proofs.Ytfodkjpjejoemaa
open Go Go.RowKit
attribute [local go_sem ↓] Go.wp_at_zero Go.wp_at_succ

theorem run_make_bools (n : Nat) (N M : Int) (hN : N = n) (hM : M = n) (hn : n ≤ 4294967296) (w : World) :
    (Instr.makeSlice 22 (.int .i64 N) (.int .i64 M)).run Try.prog w = .ok (.slice (some ⟨w.heap.size, 0, none⟩) n n) (w.alloc (.cells ((List.replicate n false).map Value.bool).toArray 4)) := by
  obtain ⟨i0, hi, hz0, hz1, hz2⟩ := info_parts (show (Try.prog.info? 4).map (fun i => (i.zero, i.size, i.bytes)) = some (some (.bool false), 1, 1) by kernel_rfl)
  rw [run_make_row1 22 4 i0 (.bool false) Try.underlying22 hi hz0 hz1 rfl n N M hN hM (by rw [hz2]; omega) (by omega) w]
  simp

/-- the first k of m places filled -/
def fill (F : Nat → Bool) (m k : Nat) : List Bool := (List.range m).map fun j => decide (j < k) && F j
theorem fill_length (F : Nat → Bool) (m k : Nat) : (fill F m k).length = m := by simp [fill]
theorem fill_zero (F : Nat → Bool) (m : Nat) : fill F m 0 = List.replicate m false := by
  apply List.ext_getElem <;> simp [fill]
theorem fill_set (F : Nat → Bool) (m k : Nat) (h : k < m) : (fill F m k).set k (F k) = fill F m (k + 1) := by
  apply List.ext_getElem
  · simp [fill]
  · intro j h1 h2
    rw [List.getElem_set]
    simp only [fill, List.getElem_map, List.getElem_range]
    by_cases hj : k = j
    · subst hj; simp
    · rw [if_neg hj, show decide (j < k + 1) = decide (j < k) by simp; omega]
theorem fill_all (F : Nat → Bool) (m : Nat) : fill F m m = (List.range m).map F := by
  apply List.map_congr_left; intro j hj; simp at hj; simp [hj]

/-- a list's cell -/
theorem bools_cell {w : World} {g off n c : Nat} {L : List Bool} (hx : ∀ i (hi : i < L.length), ∃ u, w.cell? ⟨g, off + i, none⟩ = some u ∧ BoolR w u L[i]) {k : Nat} (hk : k < L.length) : w.cell? ⟨g, off + k, none⟩ = some (.bool (L.getD k false)) := by
  obtain ⟨u, hu, hr⟩ := hx k hk
  rw [hu, show u = _ from hr]; simp [List.getD, hk]

theorem own_fill {w : World} {base g m k : Nat} {F : Nat → Bool} {x : Bool} {v : Value} (h : Own w base 4 (.slice (some ⟨g, 0, none⟩) m m) ((fill F m k).map Value.bool)) (hk : k < m) (hx : x = F k) (hv : v = .bool x) :
    Own (w.setCell ⟨g, k, none⟩ v) base 4 (.slice (some ⟨g, 0, none⟩) m m) ((fill F m (k + 1)).map Value.bool) := by
  subst hx; subst hv
  have := h.set_ k (.bool (F k))
  rwa [← List.map_set, fill_set F m k hk] at this

theorem Own.frozen_ {w : World} {base : Nat} {e : TypeId} {xs : List Value} {g n c : Nat} (h : Own w base e (.slice (some ⟨g, 0, none⟩) n c) xs) (j : Nat) : w.frozen? ⟨g, j, none⟩ = false := by
  have hn : n = xs.length := by
    rcases h.2 with ⟨h0, _⟩ | ⟨g', cap, cur, hv, _⟩
    · cases h0
    · simp only [Value.slice.injEq] at hv; exact hv.2.1
  subst hn
  exact World.ownsRow.frozenAt h j

theorem Own.cell_ {w : World} {base : Nat} {e : TypeId} {xs : List Value} {g n c : Nat} (h : Own w base e (.slice (some ⟨g, 0, none⟩) n c) xs) (j : Nat) (hj : j < xs.length) : ∃ u, w.cell? ⟨g, j, none⟩ = some u := by
  obtain ⟨A, c', hv, _, _, _, h4⟩ := h.form
  obtain ⟨g', hA, _, hc⟩ := h4 (by omega)
  simp only [Value.slice.injEq] at hv
  obtain ⟨rfl, _, _⟩ := hv
  simp only [Option.some.injEq, Addr.mk.injEq] at hA
  obtain ⟨rfl, _, _⟩ := hA
  have := hc j hj
  rw [Nat.zero_add] at this
  exact ⟨_, this⟩

def eitherF (L1 L2 : List Bool) (j : Nat) : Bool := L1.getD j false || L2.getD j false
def bothF (L1 L2 : List Bool) (j : Nat) : Bool := L1.getD j false && L2.getD j false
def withoutF (L1 L2 : List Bool) (j : Nat) : Bool := L1.getD j false && !L2.getD j false
def turnedF (L1 : List Bool) (j : Nat) : Bool := !L1.getD j false

theorem getD_none {L : List Bool} {k : Nat} (h : ¬ k < L.length) : L.getD k false = false := by
  simp [List.getD, List.getElem?_eq_none (Nat.le_of_not_lt h)]

set_option maxRecDepth 100000 in
set_option maxHeartbeats 4000000 in
theorem sEither_any (v1 v2 : Value) (L1 L2 : List Bool) (w : World) (h1 : Bools w v1 L1) (h2 : Bools w v2 L2) (p1 : 0 < L1.length) (p2 : 0 < L2.length) (q1 : L1.length ≤ 4294967296) (q2 : L2.length ≤ 4294967296) :
    Calls Try.prog 12 #[v1, v2] w fun e w' => ∃ v, e = .returned v ∧ Bools w' v ((List.range (max L1.length L2.length)).map (eitherF L1 L2)) ∧ Keep w w' := by
  obtain ⟨m, hm⟩ : ∃ m, m = max L1.length L2.length := ⟨_, rfl⟩
  have q3 : m ≤ 4294967296 := by omega
  rw [← hm]
  have HM := Lib.hid hm
  have H1 := Lib.hid h1
  have H2 := Lib.hid h2
  obtain ⟨A1, c1, rfl, a1, a2, a3, a4⟩ := h1
  obtain ⟨A2, c2, rfl, b1, b2, b3, b4⟩ := h2
  obtain ⟨g1, o1, rfl, x1⟩ := a4 p1
  obtain ⟨g2, o2, rfl, x2⟩ := b4 p2
  have X1 := Lib.hid (fun k hk => bools_cell (n := 0) (c := 0) x1 (k := k) hk)
  have X2 := Lib.hid (fun k hk => bools_cell (n := 0) (c := 0) x2 (k := k) hk)
  clear a3 a4 b3 b4 x1 x2
  unfold maxLen at a2 b2
  obtain ⟨N, hN, hle⟩ : ∃ N : Int, N = (m : Int) ∧ ((L1.length < L2.length ∧ N = L2.length) ∨ (¬ L1.length < L2.length ∧ N = L1.length)) := ⟨m, rfl, by omega⟩
  have hmk := fun W => run_make_bools m N N hN hN (by omega) W
  clear hm hN
  rcases hle with ⟨hle, rfl⟩ | ⟨hle, rfl⟩
  all_goals
    go_enter Try.func12, Try.ntmps12
    go_wp2
    clear hmk

    go_loopw [6, 15] (fun _ i wr => ∃ k : Nat, k ≤ m ∧ i = .int .i64 k ∧ Own wr w.heap.size 4 (.slice (some ⟨w.heap.size, 0, none⟩) m m) ((fill (eitherF L1 L2) m k).map Value.bool) ∧ Keep w wr) (fun _ i _ => m - (intOf i).toNat)
    case atStart =>
      refine ⟨0, Nat.zero_le _, rfl, ?_, (Kp.refl _ _).alloc _⟩
      rw [fill_zero]
      have := Own.made w w.heap.size 4 ((List.replicate m false).map Value.bool) (Nat.le_refl _) (by simp; unfold maxLen; omega)
      simpa using this
    case round =>
      obtain ⟨k, hk, rfl, hown, hkp⟩ := hrel
      by_cases hlt : k < m
      · have ef := hown.frozen_ k
        obtain ⟨ew, ec⟩ := hown.cell_ k (by simpa [fill_length] using hlt)
        have i1 : (0 : Int) ≤ (k : Int) := by omega
        have i2 : (k : Int) < (m : Int) := by omega
        have HO := Lib.hid hown
        have HK := Lib.hid hkp
        clear hown
        have hn1 := Lib.hid (getD_none (L := L1) (k := k))
        have hn2 := Lib.hid (getD_none (L := L2) (k := k))
        have y1 := Lib.hid (fun hk : k < L1.length => hkp.cell_of (X1.out k hk) (fun x => x))
        have y2 := Lib.hid (fun hk : k < L2.length => hkp.cell_of (X2.out k hk) (fun x => x))
        have HF := Lib.hid (show eitherF L1 L2 k = (L1.getD k false || L2.getD k false) from rfl)
        generalize L1.getD k false = b1' at hn1 y1 HF
        generalize L2.getD k false = b2' at hn2 y2 HF
        clear hkp
        by_cases k1 : k < L1.length <;> by_cases k2 : k < L2.length
        all_goals first | (exfalso; have := HM.out; omega) | skip
        all_goals
          have z1 := y1.out
          have z2 := y2.out
          have n1 := hn1.out
          have n2 := hn2.out
          simp only [k1, k2, forall_const, not_true_eq_false, not_false_eq_true, false_implies, true_implies] at z1 z2 n1 n2
          clear y1 y2 hn1 hn2
          cases b1' <;> cases b2' <;> first | (exact absurd n1 (by decide)) | (exact absurd n2 (by decide)) | skip
        all_goals
          clear n1 n2
          go_wp2
          go_roundw
          case rel =>
            exact ⟨k + 1, by omega, by go_num, own_fill HO.out hlt HF.out.symm rfl, HK.out.setCell (p := ⟨w.heap.size, k, none⟩) (fun hh => by simp at hh) _⟩
          case measure => simp [intOf]; omega
      · obtain rfl : k = m := by omega
        rw [fill_all] at hown
        have HO := Lib.hid hown
        have HK := Lib.hid hkp
        clear hown hkp
        go_wp2
        go_ret
        exact ⟨_, rfl, own_bools HO.out, HK.out⟩
set_option maxRecDepth 100000 in
set_option maxHeartbeats 4000000 in
theorem sBoth_any (v1 v2 : Value) (L1 L2 : List Bool) (w : World) (h1 : Bools w v1 L1) (h2 : Bools w v2 L2) (p1 : 0 < L1.length) (p2 : 0 < L2.length) (q1 : L1.length ≤ 4294967296) (q2 : L2.length ≤ 4294967296) :
    Calls Try.prog 14 #[v1, v2] w fun e w' => ∃ v, e = .returned v ∧ Bools w' v ((List.range (min L1.length L2.length)).map (bothF L1 L2)) ∧ Keep w w' := by
  obtain ⟨m, hm⟩ : ∃ m, m = min L1.length L2.length := ⟨_, rfl⟩
  have q3 : m ≤ 4294967296 := by omega
  rw [← hm]
  have HM := Lib.hid hm
  have H1 := Lib.hid h1
  have H2 := Lib.hid h2
  obtain ⟨A1, c1, rfl, a1, a2, a3, a4⟩ := h1
  obtain ⟨A2, c2, rfl, b1, b2, b3, b4⟩ := h2
  obtain ⟨g1, o1, rfl, x1⟩ := a4 p1
  obtain ⟨g2, o2, rfl, x2⟩ := b4 p2
  have X1 := Lib.hid (fun k hk => bools_cell (n := 0) (c := 0) x1 (k := k) hk)
  have X2 := Lib.hid (fun k hk => bools_cell (n := 0) (c := 0) x2 (k := k) hk)
  clear a3 a4 b3 b4 x1 x2
  unfold maxLen at a2 b2
  obtain ⟨N, hN, hle⟩ : ∃ N : Int, N = (m : Int) ∧ ((L1.length ≤ L2.length ∧ N = L1.length) ∨ (¬ L1.length ≤ L2.length ∧ N = L2.length)) := ⟨m, rfl, by omega⟩
  have hmk := fun W => run_make_bools m N N hN hN (by omega) W
  clear hm hN
  rcases hle with ⟨hle, rfl⟩ | ⟨hle, rfl⟩
  all_goals
    go_enter Try.func14, Try.ntmps14
    go_wp2
    clear hmk

    go_loopw [6, 15] (fun _ i wr => ∃ k : Nat, k ≤ m ∧ i = .int .i64 k ∧ Own wr w.heap.size 4 (.slice (some ⟨w.heap.size, 0, none⟩) m m) ((fill (bothF L1 L2) m k).map Value.bool) ∧ Keep w wr) (fun _ i _ => m - (intOf i).toNat)
    case atStart =>
      refine ⟨0, Nat.zero_le _, rfl, ?_, (Kp.refl _ _).alloc _⟩
      rw [fill_zero]
      have := Own.made w w.heap.size 4 ((List.replicate m false).map Value.bool) (Nat.le_refl _) (by simp; unfold maxLen; omega)
      simpa using this
    case round =>
      obtain ⟨k, hk, rfl, hown, hkp⟩ := hrel
      by_cases hlt : k < m
      · have ef := hown.frozen_ k
        obtain ⟨ew, ec⟩ := hown.cell_ k (by simpa [fill_length] using hlt)
        have i1 : (0 : Int) ≤ (k : Int) := by omega
        have i2 : (k : Int) < (m : Int) := by omega
        have HO := Lib.hid hown
        have HK := Lib.hid hkp
        clear hown
        have hn1 := Lib.hid (getD_none (L := L1) (k := k))
        have hn2 := Lib.hid (getD_none (L := L2) (k := k))
        have y1 := Lib.hid (fun hk : k < L1.length => hkp.cell_of (X1.out k hk) (fun x => x))
        have y2 := Lib.hid (fun hk : k < L2.length => hkp.cell_of (X2.out k hk) (fun x => x))
        have HF := Lib.hid (show bothF L1 L2 k = (L1.getD k false && L2.getD k false) from rfl)
        generalize L1.getD k false = b1' at hn1 y1 HF
        generalize L2.getD k false = b2' at hn2 y2 HF
        clear hkp
        by_cases k1 : k < L1.length <;> by_cases k2 : k < L2.length
        all_goals first | (exfalso; have := HM.out; omega) | skip
        all_goals
          have z1 := y1.out
          have z2 := y2.out
          have n1 := hn1.out
          have n2 := hn2.out
          simp only [k1, k2, forall_const, not_true_eq_false, not_false_eq_true, false_implies, true_implies] at z1 z2 n1 n2
          clear y1 y2 hn1 hn2
          cases b1' <;> cases b2' <;> first | (exact absurd n1 (by decide)) | (exact absurd n2 (by decide)) | skip
        all_goals
          clear n1 n2
          go_wp2
          go_roundw
          case rel =>
            exact ⟨k + 1, by omega, by go_num, own_fill HO.out hlt HF.out.symm rfl, HK.out.setCell (p := ⟨w.heap.size, k, none⟩) (fun hh => by simp at hh) _⟩
          case measure => simp [intOf]; omega
      · obtain rfl : k = m := by omega
        rw [fill_all] at hown
        have HO := Lib.hid hown
        have HK := Lib.hid hkp
        clear hown hkp
        go_wp2
        go_ret
        exact ⟨_, rfl, own_bools HO.out, HK.out⟩
set_option maxRecDepth 100000 in
set_option maxHeartbeats 4000000 in
theorem sWithout_any (v1 v2 : Value) (L1 L2 : List Bool) (w : World) (h1 : Bools w v1 L1) (h2 : Bools w v2 L2) (p1 : 0 < L1.length) (p2 : 0 < L2.length) (q1 : L1.length ≤ 4294967296) (q2 : L2.length ≤ 4294967296) :
    Calls Try.prog 16 #[v1, v2] w fun e w' => ∃ v, e = .returned v ∧ Bools w' v ((List.range (L1.length)).map (withoutF L1 L2)) ∧ Keep w w' := by
  obtain ⟨m, hm⟩ : ∃ m, m = L1.length := ⟨_, rfl⟩
  have q3 : m ≤ 4294967296 := by omega
  rw [← hm]
  have HM := Lib.hid hm
  have H1 := Lib.hid h1
  have H2 := Lib.hid h2
  obtain ⟨A1, c1, rfl, a1, a2, a3, a4⟩ := h1
  obtain ⟨A2, c2, rfl, b1, b2, b3, b4⟩ := h2
  obtain ⟨g1, o1, rfl, x1⟩ := a4 p1
  obtain ⟨g2, o2, rfl, x2⟩ := b4 p2
  have X1 := Lib.hid (fun k hk => bools_cell (n := 0) (c := 0) x1 (k := k) hk)
  have X2 := Lib.hid (fun k hk => bools_cell (n := 0) (c := 0) x2 (k := k) hk)
  clear a3 a4 b3 b4 x1 x2
  unfold maxLen at a2 b2
  obtain ⟨N, hN, hle⟩ : ∃ N : Int, N = (m : Int) ∧ N = L1.length := ⟨m, rfl, by omega⟩
  have hmk := fun W => run_make_bools m N N hN hN (by omega) W
  clear hm hN
  subst hle
  all_goals
    go_enter Try.func16, Try.ntmps16
    go_wp2
    clear hmk

    go_loopw [6, 12] (fun _ i wr => ∃ k : Nat, k ≤ m ∧ i = .int .i64 k ∧ Own wr w.heap.size 4 (.slice (some ⟨w.heap.size, 0, none⟩) m m) ((fill (withoutF L1 L2) m k).map Value.bool) ∧ Keep w wr) (fun _ i _ => m - (intOf i).toNat)
    case atStart =>
      refine ⟨0, Nat.zero_le _, rfl, ?_, (Kp.refl _ _).alloc _⟩
      rw [fill_zero]
      have := Own.made w w.heap.size 4 ((List.replicate m false).map Value.bool) (Nat.le_refl _) (by simp; unfold maxLen; omega)
      simpa using this
    case round =>
      obtain ⟨k, hk, rfl, hown, hkp⟩ := hrel
      by_cases hlt : k < m
      · have ef := hown.frozen_ k
        obtain ⟨ew, ec⟩ := hown.cell_ k (by simpa [fill_length] using hlt)
        have i1 : (0 : Int) ≤ (k : Int) := by omega
        have i2 : (k : Int) < (m : Int) := by omega
        have HO := Lib.hid hown
        have HK := Lib.hid hkp
        clear hown
        have hn1 := Lib.hid (getD_none (L := L1) (k := k))
        have hn2 := Lib.hid (getD_none (L := L2) (k := k))
        have y1 := Lib.hid (fun hk : k < L1.length => hkp.cell_of (X1.out k hk) (fun x => x))
        have y2 := Lib.hid (fun hk : k < L2.length => hkp.cell_of (X2.out k hk) (fun x => x))
        have HF := Lib.hid (show withoutF L1 L2 k = (L1.getD k false && !L2.getD k false) from rfl)
        generalize L1.getD k false = b1' at hn1 y1 HF
        generalize L2.getD k false = b2' at hn2 y2 HF
        clear hkp
        by_cases k1 : k < L1.length <;> by_cases k2 : k < L2.length
        all_goals first | (exfalso; have := HM.out; omega) | skip
        all_goals
          have z1 := y1.out
          have z2 := y2.out
          have n1 := hn1.out
          have n2 := hn2.out
          simp only [k1, k2, forall_const, not_true_eq_false, not_false_eq_true, false_implies, true_implies] at z1 z2 n1 n2
          clear y1 y2 hn1 hn2
          cases b1' <;> cases b2' <;> first | (exact absurd n1 (by decide)) | (exact absurd n2 (by decide)) | skip
        all_goals
          clear n1 n2
          go_wp2
          go_roundw
          case rel =>
            exact ⟨k + 1, by omega, by go_num, own_fill HO.out hlt HF.out.symm rfl, HK.out.setCell (p := ⟨w.heap.size, k, none⟩) (fun hh => by simp at hh) _⟩
          case measure => simp [intOf]; omega
      · obtain rfl : k = m := by omega
        rw [fill_all] at hown
        have HO := Lib.hid hown
        have HK := Lib.hid hkp
        clear hown hkp
        go_wp2
        go_ret
        exact ⟨_, rfl, own_bools HO.out, HK.out⟩
set_option maxRecDepth 100000 in
set_option maxHeartbeats 4000000 in
theorem sTurned_any (v1 : Value) (L1 : List Bool) (w : World) (h1 : Bools w v1 L1) (p1 : 0 < L1.length) (q1 : L1.length ≤ 4294967296) :
    Calls Try.prog 18 #[v1] w fun e w' => ∃ v, e = .returned v ∧ Bools w' v ((List.range (L1.length)).map (turnedF L1)) ∧ Keep w w' := by
  obtain ⟨m, hm⟩ : ∃ m, m = L1.length := ⟨_, rfl⟩
  have q3 : m ≤ 4294967296 := by omega
  rw [← hm]
  have HM := Lib.hid hm
  have H1 := Lib.hid h1
  obtain ⟨A1, c1, rfl, a1, a2, a3, a4⟩ := h1
  obtain ⟨g1, o1, rfl, x1⟩ := a4 p1
  have X1 := Lib.hid (fun k hk => bools_cell (n := 0) (c := 0) x1 (k := k) hk)
  clear a3 a4 x1
  unfold maxLen at a2
  obtain ⟨N, hN, hle⟩ : ∃ N : Int, N = (m : Int) ∧ N = L1.length := ⟨m, rfl, by omega⟩
  have hmk := fun W => run_make_bools m N N hN hN (by omega) W
  clear hm hN
  subst hle
  all_goals
    go_enter Try.func18, Try.ntmps18
    go_wp2
    clear hmk

    go_loopw [4, 10] (fun _ i wr => ∃ k : Nat, k ≤ m ∧ i = .int .i64 k ∧ Own wr w.heap.size 4 (.slice (some ⟨w.heap.size, 0, none⟩) m m) ((fill (turnedF L1) m k).map Value.bool) ∧ Keep w wr) (fun _ i _ => m - (intOf i).toNat)
    case atStart =>
      refine ⟨0, Nat.zero_le _, rfl, ?_, (Kp.refl _ _).alloc _⟩
      rw [fill_zero]
      have := Own.made w w.heap.size 4 ((List.replicate m false).map Value.bool) (Nat.le_refl _) (by simp; unfold maxLen; omega)
      simpa using this
    case round =>
      obtain ⟨k, hk, rfl, hown, hkp⟩ := hrel
      by_cases hlt : k < m
      · have ef := hown.frozen_ k
        obtain ⟨ew, ec⟩ := hown.cell_ k (by simpa [fill_length] using hlt)
        have i1 : (0 : Int) ≤ (k : Int) := by omega
        have i2 : (k : Int) < (m : Int) := by omega
        have HO := Lib.hid hown
        have HK := Lib.hid hkp
        clear hown
        have hn1 := Lib.hid (getD_none (L := L1) (k := k))
        have y1 := Lib.hid (fun hk : k < L1.length => hkp.cell_of (X1.out k hk) (fun x => x))
        have HF := Lib.hid (show turnedF L1 k = (!L1.getD k false) from rfl)
        generalize L1.getD k false = b1' at hn1 y1 HF
        clear hkp
        by_cases k1 : k < L1.length
        all_goals first | (exfalso; have := HM.out; omega) | skip
        all_goals
          have z1 := y1.out
          have n1 := hn1.out
          simp only [k1, forall_const, not_true_eq_false, not_false_eq_true, false_implies, true_implies] at z1 n1
          clear y1 hn1
          cases b1' <;> first | (exact absurd n1 (by decide)) | skip
        all_goals
          clear n1
          go_wp2
          go_roundw
          case rel =>
            exact ⟨k + 1, by omega, by go_num, own_fill HO.out hlt HF.out.symm rfl, HK.out.setCell (p := ⟨w.heap.size, k, none⟩) (fun hh => by simp at hh) _⟩
          case measure => simp [intOf]; omega
      · obtain rfl : k = m := by omega
        rw [fill_all] at hown
        have HO := Lib.hid hown
        have HK := Lib.hid hkp
        clear hown hkp
        go_wp2
        go_ret
        exact ⟨_, rfl, own_bools HO.out, HK.out⟩
end Go.Proofs.Ytfodkjpjejoemaa
