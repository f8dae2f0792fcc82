/-
  Lists of bits in the package's memory: what getIndex, setIndex, Size and the maker do.
  Conditions: the array is known whole; an index is not below 0.
-/
import Derived.Test.YtfodkjpjejoemaaDoorBase
import Derived.Test.YtfodkjpjejoemaaDoorBitLaws
namespace Go.Proofs.YtfodkjpjejoemaaDoor
open Go Go.RowKit

/-- the words of an array -/
def wordsL (ws : List Nat) : List Value := ws.map fun x : Nat => Value.int .u64 (x : Int)
def wordsV (ws : List Nat) : Array Value := (wordsL ws).toArray
/-- an array of n bits in block b, its words in block g -/
structure BA (w : World) (b g n : Nat) (ws : List Nat) : Prop where
  head : w.heap[b]? = some (.cells #[.int .i64 n, .slice (some ⟨g, 0, none⟩) ws.length ws.length] 119 (0, 0))
  body : w.heap[g]? = some (.cells (wordsV ws) 125 (0, 0))
  len : ws.length = (n + 63) / 64
  small : ∀ x ∈ ws, x < 2 ^ 64
  bound : n ≤ 4294967296

theorem BA.cells {w : World} {b g n : Nat} {ws : List Nat} (h : BA w b g n ws) : w.cell? ⟨b, 0, none⟩ = some (.int .i64 n) ∧ w.cell? ⟨b, 1, none⟩ = some (.slice (some ⟨g, 0, none⟩) ws.length ws.length) ∧
    ∀ j (hj : j < ws.length), w.cell? ⟨g, j, none⟩ = some (.int .u64 ws[j]) := by
  refine ⟨by simp [World.cell?, h.head], by simp [World.cell?, h.head], fun j hj => ?_⟩
  simp [World.cell?, h.body, wordsV, wordsL, hj]

set_option maxHeartbeats 400000 in
theorem getIndex_any (b g n : Nat) (ws : List Nat) (i : Nat) (w : World) (h : BA w b g n ws) (hi : i < 4294967296) :
    Calls Tryd.prog 105 #[.pointer (some ⟨b, 0, none⟩), .int .i64 i] w fun e w' => e = .returned (.bool (decide (i < n) && bitAt ws i)) ∧ w = w' := by
  obtain ⟨c0, c1, c2⟩ := h.cells
  by_cases hlt : i < n
  · have hl := h.len
    have hb := h.bound
    have hj : i / 64 < ws.length := by omega
    have c3 := c2 (i / 64) hj
    have hws := h.small ws[i / 64] (List.getElem_mem hj)
    clear c2 h hl
    go_enter Tryd.func105, Tryd.ntmps105
    go_wp2
    go_ret
    exact ⟨ret_b (by rw [and_bit_pos _ _ hws (by omega)]; simp [hlt, bitAt, hj]), rfl⟩
  · clear c2
    go_enter Tryd.func105, Tryd.ntmps105
    go_wp2
    go_ret
    exact ⟨ret_b (by simp [hlt]), rfl⟩

theorem BA.ne {w : World} {b g n : Nat} {ws : List Nat} (h : BA w b g n ws) : b ≠ g := by
  rintro rfl
  have := h.head.symm.trans h.body
  simp at this

theorem BA.lt {w : World} {b g n : Nat} {ws : List Nat} (h : BA w b g n ws) : b < w.heap.size ∧ g < w.heap.size := ⟨lt_of_block h.head, lt_of_block h.body⟩

theorem wordsV_set (ws : List Nat) (j x : Nat) : (wordsV ws).setIfInBounds j (.int .u64 (x : Int)) = wordsV (ws.set j x) := by
  unfold wordsV wordsL; simp [List.map_set]

theorem BA.store {w : World} {b g n : Nat} {ws : List Nat} (h : BA w b g n ws) (j x : Nat) (hx : x < 2 ^ 64) : BA (w.setCell ⟨g, j, none⟩ (.int .u64 (x : Int))) b g n (ws.set j x) where
  head := by rw [heap_setCell_other _ _ _ _ h.ne]; simpa using h.head
  body := by rw [heap_setCell_same _ _ _ _ _ _ h.body, wordsV_set]
  len := by simpa using h.len
  small := small_set h.small hx
  bound := h.bound

/-- an array is as it was where its two blocks are -/
theorem BA.kp {w w' : World} {b g n : Nat} {ws : List Nat} (h : BA w b g n ws) {S : Nat → Prop} (k : Kp S w w') (hb : ¬ S b) (hg : ¬ S g) : BA w' b g n ws :=
  ⟨(k.block b h.lt.1 hb).trans h.head, (k.block g h.lt.2 hg).trans h.body, h.len, h.small, h.bound⟩

def SetPost (b g n : Nat) (ws : List Nat) (i : Nat) (v : Bool) (w w' : World) : Prop := if i < n then BA w' b g n (if v then setBit ws i else clrBit ws i) else w' = w

set_option maxHeartbeats 800000 in
theorem setIndex_any (b g n : Nat) (ws : List Nat) (i : Nat) (v : Bool) (w : World) (h : BA w b g n ws) (hi : i < 4294967296) :
    Calls Tryd.prog 135 #[.pointer (some ⟨b, 0, none⟩), .int .i64 i, .bool v] w fun e w' => e = .returned (.bool (decide (i < n))) ∧
      SetPost b g n ws i v w w' ∧ Kp (fun k => k = g) w w' := by
  obtain ⟨c0, c1, c2⟩ := h.cells
  by_cases hlt : i < n
  · have hl := h.len
    have hb := h.bound
    have hj : i / 64 < ws.length := by omega
    have c3 := c2 (i / 64) hj
    have cf : w.frozen? ⟨g, i / 64, none⟩ = false := frozen_of_row _ _ _ _ _ h.body
    have hws := h.small ws[i / 64] (List.getElem_mem hj)
    have H := Lib.hid h
    clear c2 hl h
    cases v
    · go_enter Tryd.func135, Tryd.ntmps135
      go_wp2
      go_ret
      refine ⟨ret_b (by simp [hlt]), ?_, (Kp.refl (fun k => k = g) w).setCell (p := ⟨g, i / 64, none⟩) (fun _ => rfl) _⟩
      unfold SetPost
      rw [if_pos hlt, clear_bit_nat _ _ hws (by omega)]
      have := H.out.store (i / 64) (ws[i / 64] &&& (2 ^ 64 - 1 - 2 ^ (i % 64))) (Nat.lt_of_le_of_lt Nat.and_le_left hws)
      simpa [clrBit, hj] using this
    · go_enter Tryd.func135, Tryd.ntmps135
      go_wp2
      go_ret
      refine ⟨ret_b (by simp [hlt]), ?_, (Kp.refl (fun k => k = g) w).setCell (p := ⟨g, i / 64, none⟩) (fun _ => rfl) _⟩
      unfold SetPost
      rw [if_pos hlt, or_bit_nat _ _ hws (by omega)]
      have := H.out.store (i / 64) (ws[i / 64] ||| 2 ^ (i % 64)) (Nat.or_lt_two_pow hws (Nat.pow_lt_pow_right (by omega) (by omega)))
      simpa [setBit, hj] using this
  · clear c2
    go_enter Tryd.func135, Tryd.ntmps135
    go_wp2
    go_ret
    exact ⟨ret_b (by simp [hlt]), by unfold SetPost; rw [if_neg hlt], Kp.refl _ _⟩

theorem GetIndex_any (b g n : Nat) (ws : List Nat) (i : Nat) (w : World) (h : BA w b g n ws) (hi : i < 4294967296) :
    Calls Tryd.prog 111 #[.pointer (some ⟨b, 0, none⟩), .int .i64 i] w fun e w' => e = .returned (.bool (decide (i < n) && bitAt ws i)) ∧ w = w' := by
  have HG := Lib.hid (getIndex_any b g n ws i w h hi)
  clear h
  go_enter Tryd.func111, Tryd.ntmps111
  go_wp2_with (go_at_call 105; refine HG.out.mono ?_; rintro e w' ⟨rfl, rfl⟩)
  go_ret
  exact ⟨rfl, rfl⟩

theorem SetIndex_any (b g n : Nat) (ws : List Nat) (i : Nat) (v : Bool) (w : World) (h : BA w b g n ws) (hi : i < 4294967296) :
    Calls Tryd.prog 109 #[.pointer (some ⟨b, 0, none⟩), .int .i64 i, .bool v] w fun e w' => e = .returned (.bool (decide (i < n))) ∧
      SetPost b g n ws i v w w' ∧ Kp (fun k => k = g) w w' := by
  have HG := Lib.hid (setIndex_any b g n ws i v w h hi)
  clear h
  go_enter Tryd.func109, Tryd.ntmps109
  go_wp2_with (go_at_call 135; refine HG.out.mono ?_; rintro e w' ⟨rfl, hp, hk⟩)
  go_ret
  exact ⟨rfl, hp, hk⟩

theorem Size_any (b g n : Nat) (ws : List Nat) (w : World) (h : BA w b g n ws) :
    Calls Tryd.prog 110 #[.pointer (some ⟨b, 0, none⟩)] w fun e w' => e = .returned (.int .i64 n) ∧ w = w' := by
  obtain ⟨c0, c1, c2⟩ := h.cells
  clear c2
  go_enter Tryd.func110, Tryd.ntmps110
  go_wp2
  go_ret
  exact ⟨rfl, rfl⟩

def BoolR (_ : World) (u : Value) (x : Bool) : Prop := u = .bool x
abbrev Bools (w : World) (v : Value) (L : List Bool) : Prop := Slc BoolR w v L
theorem Bools.keep {w w' : World} {v : Value} {L : List Bool} (h : Bools w v L) (k : Keep w w') : Bools w' v L := Slc.keep h k fun _ _ h => h

/-- the closure over a list: element i -/
theorem arrayFn_any (v : Value) (L : List Bool) (c i : Nat) (w : World) (hc : w.cell? ⟨c, 0, none⟩ = some v) (h : Bools w v L) (hi : i < L.length) :
    Calls Tryd.prog 102 #[.int .i64 i, .pointer (some ⟨c, 0, none⟩)] w fun e w' => e = .returned (.bool (L.getD i false)) ∧ w = w' := by
  obtain ⟨A, cp, rfl, h1, h2, h3, h4⟩ := h
  obtain ⟨b, off, rfl, hx⟩ := h4 (by omega)
  obtain ⟨u, hu, hr⟩ := hx i hi
  obtain rfl : u = .bool L[i] := hr
  clear hx h4
  unfold maxLen at h2
  go_enter Tryd.func102, Tryd.ntmps102
  go_wp2
  go_ret
  exact ⟨ret_b (by simp [hi]), rfl⟩

/-- the words of the first k bits of a list, in room for n bits -/
def packTo (L : List Bool) (n : Nat) : Nat → List Nat
  | 0 => List.replicate ((n + 63) / 64) 0
  | k + 1 => if L.getD k false then setBit (packTo L n k) k else packTo L n k

theorem packTo_length (L : List Bool) (n k : Nat) : (packTo L n k).length = (n + 63) / 64 := by
  induction k with
  | zero => simp [packTo]
  | succ k ih => unfold packTo; split <;> simp [setBit_length, ih]
theorem packTo_small (L : List Bool) (n k : Nat) : ∀ x ∈ packTo L n k, x < 2 ^ 64 := by
  induction k with
  | zero => intro x hx; obtain ⟨_, rfl⟩ := List.mem_replicate.1 hx; decide
  | succ k ih => unfold packTo; split
                 · exact setBit_small ih
                 · exact ih
theorem bitAt_packTo (L : List Bool) (n k : Nat) (hk : k ≤ n) (j : Nat) : bitAt (packTo L n k) j = (decide (j < k) && L.getD j false) := by
  induction k with
  | zero =>
    unfold bitAt packTo List.getD
    rw [List.getElem?_replicate]
    split <;> simp
  | succ k ih =>
    have ih := ih (by omega)
    unfold packTo
    split
    · rename_i hb
      rw [bitAt_setBit _ _ _ (by rw [packTo_length]; omega), ih]
      by_cases e : j = k
      · subst e; simp only [hb]; simp
      · by_cases h : j < k
        · simp [e, h, show j < k + 1 from by omega]
        · simp [e, h, show ¬ j < k + 1 from by omega]
    · rename_i hb
      rw [ih]
      by_cases e : j = k
      · subst e; simp at hb; simp [hb]
      · by_cases h : j < k
        · simp [h, show j < k + 1 from by omega]
        · simp [h, show ¬ j < k + 1 from by omega]

/-- the words of a list -/
def pack (L : List Bool) : List Nat := packTo L L.length L.length
theorem bitAt_pack (L : List Bool) (j : Nat) : bitAt (pack L) j = L.getD j false := by
  unfold pack
  rw [bitAt_packTo _ _ _ (Nat.le_refl _)]
  by_cases h : j < L.length
  · simp [h]
  · simp [h, List.getD, List.getElem?_eq_none (Nat.le_of_not_lt h)]

theorem u64_info : (Tryd.prog.info? 125).map (fun i => (i.zero, i.size, i.bytes)) = some (some (.int .u64 0), 1, 8) := by kernel_rfl

theorem run_make_words (n : Nat) (N M : Int) (hN : N = n) (hM : M = n) (hn : n ≤ 4294967296) (w : World) :
    (Instr.makeSlice 117 (.int .i64 N) (.int .i64 M)).run Tryd.prog w = .ok (.slice (some ⟨w.heap.size, 0, none⟩) n n) (w.alloc (.cells (wordsV (List.replicate n 0)) 125)) := by
  obtain ⟨i0, hi, hz0, hz1, hz2⟩ := info_parts u64_info
  rw [run_make_row1 117 125 i0 (.int .u64 0) Tryd.underlying117 hi hz0 hz1 rfl n N M hN hM (by rw [hz2]; omega) (by omega) w]
  unfold wordsV wordsL
  simp

set_option maxHeartbeats 1000000 in
theorem fromFn_any (v : Value) (L : List Bool) (c : Nat) (w : World) (hc : w.cell? ⟨c, 0, none⟩ = some v) (h : Bools w v L) (hl : 0 < L.length) (hn : L.length ≤ 4294967296) :
    Calls Tryd.prog 101 #[.int .i64 L.length, .func (.func 102) #[] #[.pointer (some ⟨c, 0, none⟩)]] w fun e w' => ∃ b g, e = .returned (.pointer (some ⟨b, 0, none⟩)) ∧ w.heap.size ≤ b ∧ w.heap.size ≤ g ∧ BA w' b g L.length (pack L) ∧ Keep w w' := by
  have hmk := fun W => run_make_words ((L.length + 63) / 64) (((L.length : Int) + 63) / 64) (((L.length : Int) + 63) / 64) (by omega) (by omega) (by omega) W
  have hne : ¬ L = [] := by rintro rfl; simp at hl
  have H := Lib.hid h
  have HC := Lib.hid hc
  clear h hc
  go_enter Tryd.func101, Tryd.ntmps101
  go_wp2
  have HM := Lib.hid hmk
  clear hmk
  have b0 : BA ((w.alloc (.cells (wordsV (List.replicate ((L.length + 63) / 64) 0)) 125)).alloc (.cells #[.int .i64 L.length, .slice (some ⟨w.heap.size, 0, none⟩) ((L.length + 63) / 64) ((L.length + 63) / 64)] 119))
      (w.heap.size + 1) w.heap.size L.length (packTo L L.length 0) :=
    { head := by rw [heap_alloc2_new]; simp [packTo]
      body := by rw [heap_alloc2_old]; rfl
      len := packTo_length _ _ _
      small := packTo_small _ _ _
      bound := hn }
  have B0 := Lib.hid b0
  clear b0
  go_loopw [6] (fun i wr => ∃ k : Nat, k ≤ L.length ∧ i = .int .i64 k ∧ BA wr (w.heap.size + 1) w.heap.size L.length (packTo L L.length k) ∧ Keep w wr) (fun i _ => L.length - (intOf i).toNat)
  case atStart => exact ⟨0, Nat.zero_le _, rfl, B0.out, ((Kp.refl _ _).alloc _).alloc _⟩
  case round =>
    obtain ⟨k, hk, rfl, hb, hkp⟩ := hrel
    by_cases hlt : k < L.length
    · have hlen := packTo_length L L.length k
      have HS := Lib.hid (show packTo L L.length (k + 1) = if L.getD k false then setBit (packTo L L.length k) k else packTo L L.length k from rfl)
      obtain ⟨ws, hws⟩ : ∃ ws, ws = packTo L L.length k := ⟨_, rfl⟩
      rw [← hws] at hb hlen HS
      have HW := Lib.hid hws
      clear hws
      obtain ⟨d0, d1, d2⟩ := hb.cells
      have hj : k / 64 < ws.length := by omega
      have d3 := d2 (k / 64) hj
      have df : wr.frozen? ⟨w.heap.size, k / 64, none⟩ = false := frozen_of_row _ _ _ _ _ hb.body
      have hsm := Lib.hid (hb.small ws[k / 64] (List.getElem_mem hj))
      have HB := Lib.hid hb
      have HF := Lib.hid (arrayFn_any v L c k wr (hkp.cell_of HC.out (fun x => x)) (H.out.keep hkp) hlt)
      have HL := Lib.hid hlen
      clear d2 hb hlen
      cases hv : L.getD k false
      · have HV := Lib.hid hv
        clear hv
        go_wp2_with (go_at_call 102; refine HF.out.mono ?_; rintro e w1 ⟨rfl, rfl⟩; rw [HV.out])
        go_roundw
        case rel => exact ⟨k + 1, by omega, by go_num, by rw [HS.out, HV.out]; exact HB.out, hkp⟩
        case measure => simp [intOf]; omega
      · have HV := Lib.hid hv
        clear hv
        go_wp2_with (go_at_call 102; refine HF.out.mono ?_; rintro e w1 ⟨rfl, rfl⟩; rw [HV.out])
        go_roundw
        case rel =>
          refine ⟨k + 1, by omega, by go_num, ?_, hkp.setCell (p := ⟨w.heap.size, k / 64, none⟩) (fun h => by simp at h) _⟩
          rw [HS.out, HV.out, or_bit_nat _ _ hsm.out (by omega)]
          have := HB.out.store (k / 64) (ws[k / 64] ||| 2 ^ (k % 64)) (Nat.or_lt_two_pow hsm.out (Nat.pow_lt_pow_right (by omega) (by omega)))
          simpa [setBit, hj] using this
        case measure => simp [intOf]; omega
    · obtain rfl : k = L.length := by omega
      have HB := Lib.hid hb
      clear hb
      go_wp2
      go_ret
      exact ⟨_, _, rfl, by omega, by omega, HB.out, hkp⟩
end Go.Proofs.YtfodkjpjejoemaaDoor
