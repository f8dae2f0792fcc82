/-
  FnTold's parts: the specification's signs and bytes.
  Conditions: the argument reads as a list of bools; its length is bounded.
-/
import Derived.Test.YtfodkjpjejoemaaDoorTold6
namespace Go.Proofs.YtfodkjpjejoemaaDoor
open Go Go.RowKit
attribute [local go_sem ↓] Go.wp_at_zero Go.wp_at_succ

theorem run_make_u8 (n : Nat) (N M : Int) (hN : N = n) (hM : M = n) (hn : n ≤ 4294967296) (w : World) :
    (Instr.makeSlice 22 (.int .i64 N) (.int .i64 M)).run Tryd.prog w = .ok (.slice (some ⟨w.heap.size, 0, none⟩) n n) (w.alloc (.cells ((List.replicate n (0 : UInt8)).map u8v).toArray 5)) := by
  obtain ⟨i0, hi, hz0, hz1, hz2⟩ := info_parts (show (Tryd.prog.info? 5).map (fun i => (i.zero, i.size, i.bytes)) = some (some (.int .u8 0), 1, 1) by kernel_rfl)
  rw [run_make_row1 22 5 i0 (.int .u8 0) Tryd.underlying22 hi hz0 hz1 rfl n N M hN hM (by rw [hz2]; omega) (by omega) w]
  simp [u8v]
theorem own_froz {w : World} {base : Nat} {e : TypeId} {xs : List Value} {g n c : Nat} (h : Own w base e (.slice (some ⟨g, 0, none⟩) n c) xs) (j : Nat) : w.frozen? ⟨g, j, none⟩ = false := by
  have hn : n = xs.length := by
    rcases h.2 with ⟨h0, _⟩ | ⟨g', cap, cur, hv, _⟩
    · cases h0
    · simp only [Value.slice.injEq] at hv; exact hv.2.1
  subst hn
  exact World.ownsRow.frozenAt h j
theorem own_cell {w : World} {base : Nat} {e : TypeId} {xs : List Value} {g n c : Nat} (h : Own w base e (.slice (some ⟨g, 0, none⟩) n c) xs) (j : Nat) (hj : j < xs.length) : w.cell? ⟨g, j, none⟩ = some xs[j] := by
  obtain ⟨A, c', hv, _, _, _, h4⟩ := h.form
  obtain ⟨g', hA, _, hc⟩ := h4 (by omega)
  simp only [Value.slice.injEq] at hv
  obtain ⟨rfl, _, _⟩ := hv
  simp only [Option.some.injEq, Addr.mk.injEq] at hA
  obtain ⟨rfl, _, _⟩ := hA
  have := hc j hj
  rwa [Nat.zero_add] at this
theorem bool_cell {w : World} {g off n c : Nat} {L : List Bool} (h : Bools w (.slice (some ⟨g, off, none⟩) n c) L) {k : Nat} (hk : k < L.length) : w.cell? ⟨g, off + k, none⟩ = some (.bool (L.getD k false)) := by
  obtain ⟨_, _, _, _, h5⟩ := h.of_eq
  obtain ⟨b, o, he, hx⟩ := h5 (by omega)
  simp only [Option.some.injEq, Addr.mk.injEq] at he
  obtain ⟨rfl, rfl, -⟩ := he
  obtain ⟨u, hu, hr⟩ := hx k hk
  rw [hu, show u = _ from hr]; simp [List.getD, hk]

/-- the first k signs, the rest not yet written -/
def markTo (L : List Bool) (k : Nat) : List UInt8 := marksL (L.take k) ++ List.replicate (L.length - k) 0
theorem markTo_length (L : List Bool) (k : Nat) (h : k ≤ L.length) : (markTo L k).length = L.length := by
  unfold markTo; rw [List.length_append, marksL_length, List.length_take, List.length_replicate]; omega
theorem markTo_set (L : List Bool) (k : Nat) (h : k < L.length) (c : UInt8) : (markTo L k).set k c = marksL (L.take k) ++ c :: List.replicate (L.length - (k + 1)) 0 := by
  unfold markTo
  have hl : (marksL (L.take k)).length = k := by rw [marksL_length, List.length_take]; omega
  obtain ⟨d, hd⟩ : ∃ d, L.length - k = d + 1 := ⟨L.length - k - 1, by omega⟩
  rw [hd, show L.length - (k + 1) = d by omega, List.set_append_right _ _ (by omega), hl, Nat.sub_self]
  rfl
theorem markTo_next (L : List Bool) (k : Nat) (h : k < L.length) : (markTo L k).set k (if L.getD k false then 120 else 95) = markTo L (k + 1) := by
  rw [markTo_set L k h]
  unfold markTo
  rw [marksL_take L k h]
  simp
theorem markTo_zero (L : List Bool) : markTo L 0 = List.replicate L.length 0 := by simp [markTo, marksL]
theorem markTo_all (L : List Bool) : markTo L L.length = marksL L := by simp [markTo]

/-- the signs as a text -/
def SignsIs (L : List Bool) (e : Ending) : Prop := ∃ S : ByteArray, e = .returned (.string S) ∧ S.data.toList = marksL L

set_option maxRecDepth 100000 in
set_option maxHeartbeats 2000000 in
theorem specMarks_any (v : Value) (L : List Bool) (w : World) (h : Bools w v L) (hp : 0 < L.length) (hn : L.length ≤ 900) :
    Calls Tryd.prog 43 #[v] w fun e w' => SignsIs L e ∧ Keep w w' := by
  have H := Lib.hid h
  obtain ⟨A, c, rfl, a1, a2, a3, a4⟩ := h
  unfold maxLen at a2
  obtain ⟨g1, o1, rfl, -⟩ := a4 hp
  clear a3 a4
  have HNX := Lib.hid (markTo_next L)
  have HML := Lib.hid (markTo_length L)
  have HMS := Lib.hid (fun k => markTo_set L k)
  have HM0 := Lib.hid (markTo_zero L)
  obtain ⟨n, hnn⟩ : ∃ n, n = L.length := ⟨_, rfl⟩
  rw [← hnn] at a1 hp hn H HNX HML HM0 ⊢
  have HN := Lib.hid hnn
  have hmk := fun W => run_make_u8 n (n : Int) (n : Int) rfl rfl (by omega) W
  clear hnn
  go_enter Tryd.func43, Tryd.ntmps43
  go_wp2_with fail
  clear hmk
  go_loopw [10] (fun iv wr => ∃ k : Nat, k ≤ n ∧ iv = .int .i64 k ∧ Own wr w.heap.size 5 (.slice (some ⟨w.heap.size, 0, none⟩) n n) ((markTo L k).map u8v) ∧ Keep w wr) (fun iv _ => n - (intOf iv).toNat)
  case atStart =>
    refine ⟨0, Nat.zero_le _, rfl, ?_, (Kp.refl _ _).alloc _⟩
    rw [HM0.out]
    have := Own.made w w.heap.size 5 ((List.replicate n (0 : UInt8)).map u8v) (Nat.le_refl _) (by simp; unfold maxLen; omega)
    simpa using this
  case round =>
    obtain ⟨k, hk, rfl, hown, hkp⟩ := hrel
    have HO := Lib.hid hown
    have HK := Lib.hid hkp
    have hsz := hkp.size
    by_cases hlt : k < n
    · have ef := own_froz hown k
      have hlen : k < ((markTo L k).map u8v).length := by rw [List.length_map, HML.out k hk]; exact hlt
      have ec := own_cell hown k hlen
      obtain ⟨u0, hu0⟩ : ∃ u0, u0 = ((markTo L k).map u8v)[k] := ⟨_, rfl⟩
      rw [← hu0] at ec
      have hb := hkp.cell_of (bool_cell H.out (k := k) (by rw [← HN.out]; exact hlt)) (fun x => x)
      have HS := Lib.hid (HNX.out k hlt)
      have hg1 : ¬ g1 = w.heap.size := by
        have := World.block_lt_of_cell? w _ (bool_cell H.out (k := k) (by rw [← HN.out]; exact hlt))
        simp at this; omega
      clear hown hkp hlen hu0
      cases hv : L.getD k false
      · rw [hv] at hb HS
        have HS2 := Lib.hid hv
        clear hv
        go_wp2_with fail
        go_roundw
        case rel =>
          refine ⟨k + 1, hlt, by go_num, ?_, HK.out.setCell (p := ⟨w.heap.size, k, none⟩) (fun hh => by simp at hh) _⟩
          have h1 := HO.out.set_ k (.int .u8 95)
          rw [show Value.int .u8 95 = u8v 95 from rfl, ← List.map_set] at h1
          have h2 := HS.out
          simp only [Bool.false_eq_true, if_false] at h2
          rwa [h2] at h1
        case measure => simp [intOf]; omega
      · rw [hv] at hb HS
        clear hv
        go_wp2_with fail
        go_roundw
        case rel =>
          refine ⟨k + 1, hlt, by go_num, ?_, ?_⟩
          · have h1 := (HO.out.set_ k (.int .u8 95)).set_ k (.int .u8 120)
            rw [List.set_set, show Value.int .u8 120 = u8v 120 from rfl, ← List.map_set] at h1
            have h2 := HS.out
            simp only [if_true] at h2
            rw [h2] at h1
            first | exact h1 | simpa using h1
          · first
              | exact (HK.out.setCell (p := ⟨w.heap.size, k, none⟩) (fun hh => by simp at hh) _).setCell (p := ⟨w.heap.size, k, none⟩) (fun hh => by simp at hh) _
              | exact HK.out.setCell (p := ⟨w.heap.size, k, none⟩) (fun hh => by simp at hh) _
        case measure => simp [intOf]; omega
    · obtain rfl : k = n := by omega
      have hby : Byts wr (.slice (some ⟨w.heap.size, 0, none⟩) k k) (marksL L) := by
        have := hown.slc_map (R := U8) u8v (fun _ _ => rfl)
        rwa [HN.out, markTo_all, ← HN.out] at this
      obtain ⟨S, hS⟩ : ∃ S : ByteArray, S = ⟨(marksL L).toArray⟩ := ⟨_, rfl⟩
      have hst : (convert 22 9 (.slice (some ⟨w.heap.size, 0, none⟩) k k)).run Tryd.prog wr = .ok (.string S) wr := by
        rw [byts_string (P := Tryd.prog) Tryd.underlying22 Tryd.underlying5 Tryd.underlying9 hby, hS]
      have HS := Lib.hid hS
      clear hown hkp hby hS
      go_wp2_with fail
      go_ret
      exact ⟨⟨S, rfl, by rw [HS.out]⟩, HK.out⟩

/-- the bytes of the first k bits -/
def byteTo (L : List Bool) : Nat → List Nat
  | 0 => List.replicate ((L.length + 7) / 8) 0
  | k + 1 => if L.getD k false then (byteTo L k).set (k / 8) ((byteTo L k).getD (k / 8) 0 ||| 2 ^ (k % 8)) else byteTo L k
theorem byteTo_length (L : List Bool) (k : Nat) : (byteTo L k).length = (L.length + 7) / 8 := by
  induction k with
  | zero => simp [byteTo]
  | succ k ih => unfold byteTo; split <;> simp [ih]
theorem byteTo_bit (L : List Bool) (k : Nat) (hk : k ≤ L.length) (q t : Nat) (ht : t < 8) : ((byteTo L k).getD q 0).testBit t = (decide (8 * q + t < k) && L.getD (8 * q + t) false) := by
  induction k with
  | zero =>
    unfold byteTo List.getD
    rw [List.getElem?_replicate]
    split <;> simp
  | succ k ih =>
    have ih := ih (by omega)
    have hlen := byteTo_length L k
    unfold byteTo
    by_cases hq : q = k / 8
    · cases hv : L.getD k false
      · simp only [Bool.false_eq_true, if_false]
        rw [ih]
        by_cases e : 8 * q + t = k
        · rw [e, hv]; simp
        · by_cases h : 8 * q + t < k
          · simp [h, show 8 * q + t < k + 1 from by omega]
          · simp [h, show ¬ 8 * q + t < k + 1 from by omega]
      · simp only [if_true]
        rw [hq, getD_set_eq _ (by omega), Nat.testBit_or, ← hq, ih, Nat.testBit_two_pow]
        by_cases e : 8 * q + t = k
        · rw [e, hv]; simp; omega
        · by_cases h : 8 * q + t < k
          · simp [h, show 8 * q + t < k + 1 from by omega]; intro h3; omega
          · simp [h, show ¬ 8 * q + t < k + 1 from by omega]; omega
    · have hg : (if L.getD k false = true then (byteTo L k).set (k / 8) ((byteTo L k).getD (k / 8) 0 ||| 2 ^ (k % 8)) else byteTo L k).getD q 0 = (byteTo L k).getD q 0 := by
        split
        · exact getD_set_ne' _ (fun e => hq e.symm)
        · rfl
      rw [hg, ih]
      by_cases h : 8 * q + t < k
      · simp [h, show 8 * q + t < k + 1 from by omega]
      · simp [h, show ¬ 8 * q + t < k + 1 from by omega]
theorem byteTo_small (L : List Bool) (k : Nat) : ∀ x ∈ byteTo L k, x < 256 := by
  induction k with
  | zero => intro x hx; obtain ⟨_, rfl⟩ := List.mem_replicate.1 hx; decide
  | succ k ih =>
    unfold byteTo
    split
    · intro x hx
      rcases List.mem_or_eq_of_mem_set hx with h | rfl
      · exact ih x h
      · have h1 : (byteTo L k).getD (k / 8) 0 < 2 ^ 8 := by
          by_cases h : k / 8 < (byteTo L k).length
          · simp only [List.getD, List.getElem?_eq_getElem h, Option.getD_some]
            exact ih _ (List.getElem_mem h)
          · simp [List.getD, List.getElem?_eq_none (Nat.le_of_not_lt h)]
        have h2 : 2 ^ (k % 8) < 2 ^ 8 := Nat.pow_lt_pow_right (by omega) (by omega)
        exact Nat.or_lt_two_pow h1 h2
    · exact ih
theorem getD_lt8 {ws : List Nat} (h : ∀ x ∈ ws, x < 256) (j : Nat) : ws.getD j 0 < 2 ^ 8 := by
  by_cases hj : j < ws.length
  · simp only [List.getD, List.getElem?_eq_getElem hj, Option.getD_some]
    exact h _ (List.getElem_mem hj)
  · simp [List.getD, List.getElem?_eq_none (Nat.le_of_not_lt hj)]
/-- the two ways to lay bits in bytes -/
theorem packB_spec (L : List Bool) : packB L = (byteTo L L.length).map UInt8.ofNat := by
  apply List.ext_getElem
  · simp [packB, byteTo_length]
  · intro q h1 h2
    have hq : q < (L.length + 7) / 8 := by simpa [packB] using h1
    have hq2 : q < (byteTo L L.length).length := by rw [byteTo_length]; exact hq
    simp only [packB, List.getElem_map, List.getElem_range]
    have e : (byteTo L L.length)[q] = (byteTo L L.length).getD q 0 := by simp [List.getD, hq2]
    rw [e]
    congr 1
    apply Nat.eq_of_testBit_eq
    intro t
    rw [show 256 = 2 ^ 8 from rfl, Nat.testBit_mod_two_pow, Nat.testBit_div_two_pow]
    by_cases ht : t < 8
    · rw [byteTo_bit L _ (Nat.le_refl _) q t ht]
      simp only [ht, decide_true, Bool.true_and]
      have hb := bitAt_word (pack L) (q / 8) (q % 8 * 8 + t) (by omega)
      rw [bitAt_pack, show 64 * (q / 8) + (q % 8 * 8 + t) = 8 * q + t by omega] at hb
      rw [Nat.add_comm t (q % 8 * 8), ← hb]
      by_cases h : 8 * q + t < L.length
      · simp [h]
      · simp [h, List.getD, List.getElem?_eq_none (Nat.le_of_not_lt h)]
    · have hs := getD_lt8 (byteTo_small L L.length) q
      rw [Nat.testBit_lt_two_pow (Nat.lt_of_lt_of_le hs (Nat.pow_le_pow_right (by omega) (by omega) : 2 ^ 8 ≤ 2 ^ t))]
      simp [ht]
end Go.Proofs.YtfodkjpjejoemaaDoor
