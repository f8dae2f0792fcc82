/-
  FnTold's parts: bits in bytes, by the specification and by the package.
  Conditions: the argument reads as a list of bools; its length is bounded.
-/
import Derived.Test.YtfodkjpjejoemaaDoorTold7
namespace Go.Proofs.YtfodkjpjejoemaaDoor
open Go Go.RowKit
attribute [local go_sem ↓] Go.wp_at_zero Go.wp_at_succ

def byV (x : Nat) : Value := .int .u8 (x : Int)
theorem byV_u8 (L : List Nat) (h : ∀ x ∈ L, x < 256) : L.map byV = (L.map UInt8.ofNat).map u8v := by
  rw [List.map_map]
  apply List.map_congr_left
  intro x hx
  have := h x hx
  unfold byV u8v
  simp only [Function.comp]
  rw [UInt8.toNat_ofNat', Nat.mod_eq_of_lt (by simpa using this)]

set_option maxRecDepth 100000 in
set_option maxHeartbeats 2000000 in
theorem specPacked_any (v : Value) (L : List Bool) (w : World) (h : Bools w v L) (hp : 0 < L.length) (hn : L.length ≤ 900) :
    Calls Tryd.prog 46 #[v] w fun e w' => (∃ v', e = .returned v' ∧ Byts w' v' (packB L)) ∧ Keep w w' := by
  have H := Lib.hid h
  obtain ⟨A, c, rfl, a1, a2, a3, a4⟩ := h
  unfold maxLen at a2
  obtain ⟨g1, o1, rfl, -⟩ := a4 hp
  clear a3 a4
  have HLN := Lib.hid (byteTo_length L)
  have HSM := Lib.hid (byteTo_small L)
  have HB0 := Lib.hid (show byteTo L 0 = List.replicate ((L.length + 7) / 8) 0 from rfl)
  obtain ⟨n, hnn⟩ : ∃ n, n = L.length := ⟨_, rfl⟩
  rw [← hnn] at a1 hp hn H HLN HB0 ⊢
  have HN := Lib.hid hnn
  obtain ⟨M, hM⟩ : ∃ M, M = (n + 7) / 8 := ⟨_, rfl⟩
  rw [← hM] at HLN HB0
  have hmk := fun W => run_make_u8 M (((n : Int) + 7) / 8) (((n : Int) + 7) / 8) (by omega) (by omega) (by omega) W
  have HMM := Lib.hid hM
  have hM1 : n ≤ 8 * M := by omega
  have hM2 : M ≤ 113 := by omega
  clear hnn hM
  go_enter Tryd.func46, Tryd.ntmps46
  go_wp2_with fail
  clear hmk
  go_loopw [13] (fun iv wr => ∃ k : Nat, k ≤ n ∧ iv = .int .i64 k ∧ Own wr w.heap.size 5 (.slice (some ⟨w.heap.size, 0, none⟩) M M) ((byteTo L k).map byV) ∧ Keep w wr) (fun iv _ => n - (intOf iv).toNat)
  case atStart =>
    refine ⟨0, Nat.zero_le _, rfl, ?_, (Kp.refl _ _).alloc _⟩
    rw [HB0.out]
    have := Own.made w w.heap.size 5 ((List.replicate M (0 : UInt8)).map u8v) (Nat.le_refl _) (by simp; unfold maxLen; omega)
    simpa [byV, u8v] using this
  case round =>
    obtain ⟨k, hk, rfl, hown, hkp⟩ := hrel
    have HO := Lib.hid hown
    have HK := Lib.hid hkp
    have hsz := hkp.size
    by_cases hlt : k < n
    · have hb := hkp.cell_of (bool_cell H.out (k := k) (by rw [← HN.out]; exact hlt)) (fun x => x)
      have HS := Lib.hid (show byteTo L (k + 1) = if L.getD k false then (byteTo L k).set (k / 8) ((byteTo L k).getD (k / 8) 0 ||| 2 ^ (k % 8)) else byteTo L k from rfl)
      cases hv : L.getD k false
      · rw [hv] at hb HS
        clear hv hown hkp
        go_wp2_with fail
        go_roundw
        case rel => exact ⟨k + 1, hlt, by go_num, by rw [HS.out]; exact HO.out, HK.out⟩
        case measure => simp [intOf]; omega
      · rw [hv] at hb HS
        have hj : k / 8 < M := by omega
        have ef := own_froz hown (k / 8)
        have hlen : k / 8 < ((byteTo L k).map byV).length := by rw [List.length_map, HLN.out]; exact hj
        have ec := own_cell hown (k / 8) hlen
        have hx2 : (byteTo L k).getD (k / 8) 0 < 2 ^ 8 := getD_lt8 (HSM.out k) _
        obtain ⟨x, hx⟩ : ∃ x, x = (byteTo L k).getD (k / 8) 0 := ⟨_, rfl⟩
        have hec : ((byteTo L k).map byV)[k / 8] = .int .u8 (x : Int) := by
          rw [hx]
          have h2 : k / 8 < (byteTo L k).length := by rw [HLN.out]; exact hj
          simp [byV, List.getD, h2]
        rw [hec] at ec
        rw [← hx] at hx2 HS
        obtain ⟨q, hq⟩ : ∃ q, q = k / 8 := ⟨_, rfl⟩
        obtain ⟨r, hr⟩ : ∃ r, r = k % 8 := ⟨_, rfl⟩
        rw [← hq] at hj ef ec HS
        rw [← hr] at HS
        have hr8 : r < 8 := by omega
        have hqw : IntKind.i64.wrap ((k : Int) / 8) = (q : Int) := by rw [wrap64_of _ (by omega) (by omega), hq]; rfl
        have hrw1 : (k : Int).tmod 8 = (r : Int) := by rw [Int.tmod_eq_emod_of_nonneg (by omega), hr]; rfl
        have hp2 : 2 ^ r < 2 ^ 8 := Nat.pow_lt_pow_right (by omega) hr8
        obtain ⟨P, hP⟩ : ∃ P, P = 2 ^ r := ⟨_, rfl⟩
        rw [← hP] at hp2 HS
        have hshl : IntKind.u8.wrap (2 ^ r) = (P : Int) := by
          have e : ((2 : Int) ^ r) = ((2 ^ r : Nat) : Int) := by simp
          rw [e, ← hP]
          simp [IntKind.wrap, IntKind.bits, IntKind.signed]; omega
        obtain ⟨Y, hY⟩ : ∃ Y, Y = x ||| P := ⟨_, rfl⟩
        have hor : bits .or .u8 (x : Int) (P : Int) = (Y : Int) := by rw [u8_or_nat x P (by simpa using hx2) (by simpa using hp2), hY]
        rw [← hY] at HS
        have i1 : (0 : Int) ≤ (q : Int) := by omega
        have i2 : (q : Int) < (M : Int) := by omega
        clear hv hown hkp hlen hec hx hq hr hP hY
        go_wp2_with fail
        go_still_tail 9, (by kernel_rfl)
        change wpList _ _ _ _ _ wr.drew
        go_wp2_with fail
        go_roundw
        case rel =>
          refine ⟨k + 1, hlt, by go_num, ?_, (HK.out.setCell (p := ⟨w.heap.size, q, none⟩) (fun hh => by simp at hh) _).drew⟩
          have h1 := HO.out.set_ q (byV Y)
          rw [← List.map_set] at h1
          have h2 := HS.out
          simp only [if_true] at h2
          rw [h2]
          exact h1
        case measure => simp [intOf]; omega
    · obtain rfl : k = n := by omega
      have hby : Byts wr (.slice (some ⟨w.heap.size, 0, none⟩) M M) (packB L) := by
        rw [byV_u8 _ (HSM.out k)] at hown
        have := hown.slc_map (R := U8) u8v (fun _ _ => rfl)
        rwa [HN.out, ← packB_spec] at this
      have HBY := Lib.hid hby
      clear hown hkp hby
      go_wp2_with fail
      go_ret
      exact ⟨⟨_, rfl, HBY.out⟩, HK.out⟩

/-- block g holds the bytes L, whole -/
def ArrB (w : World) (g : Nat) (t : TypeId) (L : List UInt8) : Prop := w.heap[g]? = some (.cells (L.map u8v).toArray t (0, 0))
section
variable {w w' : World} {g : Nat} {t : TypeId} {L : List UInt8}
theorem ArrB.cell (h : ArrB w g t L) (k : Nat) (hk : k < L.length) : w.cell? ⟨g, k, none⟩ = some (u8v (L.getD k 0)) := by
  rw [cell_of_row w g k _ t (0, 0) h]
  simp [List.getD, hk]
theorem ArrB.frozen (h : ArrB w g t L) (k : Nat) : w.frozen? ⟨g, k, none⟩ = false := frozen_of_row _ _ _ _ _ h
theorem ArrB.lt (h : ArrB w g t L) : g < w.heap.size := lt_of_block h
theorem ArrB.kp {S : Nat → Prop} (h : ArrB w g t L) (k : Kp S w w') (hS : ¬ S g) : ArrB w' g t L := (k.block g h.lt hS).trans h
theorem ArrB.set (h : ArrB w g t L) (k : Nat) (x : UInt8) : ArrB (w.setCell ⟨g, k, none⟩ (u8v x)) g t (L.set k x) := by
  unfold ArrB
  rw [heap_setCell_same _ _ _ _ _ _ h]
  simp [List.map_set]
end

theorem arr_byts {w : World} {g : Nat} {t : TypeId} {L : List UInt8} {n : Nat} (h : ArrB w g t L) (hn : n = L.length) (hl : n ≤ 1000) : Byts w (.slice (some ⟨g, 0, none⟩) n n) L := by
  subst hn
  refine ⟨_, _, rfl, Nat.le_refl _, by unfold maxLen; omega, (fun e => by cases e), fun _ => ⟨g, 0, rfl, fun i hi => ⟨_, h.cell (0 + i) (by omega), ?_⟩⟩⟩
  rw [Nat.zero_add]
  simp [U8, u8v, List.getD, hi]
theorem arr_src {w : World} {g : Nat} {t : TypeId} {L : List UInt8} (h : ArrB w g t L) : Src w (some ⟨g, 0, none⟩) L.length (L.map u8v) := by
  refine ⟨by simp, fun _ => ⟨_, rfl, fun j u hj => ?_⟩⟩
  have e : (⟨g, 0, none⟩ : Addr).add j = ⟨g, j, none⟩ := by unfold Addr.add; split <;> simp_all
  rw [e, cell_of_row _ _ _ _ _ _ h]
  simpa using hj
theorem ones8 (L : List UInt8) : ∀ u ∈ L.map u8v, u.oneCell' = true := by
  intro u hu; obtain ⟨x, _, rfl⟩ := List.mem_map.1 hu; rfl

/-- byte q of the words -/
def byteAt (ws : List Nat) (q : Nat) : UInt8 := UInt8.ofNat (ws.getD (q / 8) 0 / 2 ^ (q % 8 * 8) % 256)
/-- the bytes, those of the first i words laid -/
def layB (ws : List Nat) (M i : Nat) : List UInt8 := (List.range M).map fun q => if q < 8 * i then byteAt ws q else 0
def arrB (ws : List Nat) (i j : Nat) : List UInt8 := (List.range 8).map fun t => if t < j then byteAt ws (8 * i + t) else 0
theorem layB_length (ws : List Nat) (M i : Nat) : (layB ws M i).length = M := by simp [layB]
theorem arrB_length (ws : List Nat) (i j : Nat) : (arrB ws i j).length = 8 := by simp [arrB]
theorem layB_zero (ws : List Nat) (M : Nat) : layB ws M 0 = List.replicate M 0 := by
  apply List.ext_getElem
  · simp [layB]
  · intro q h1 h2; simp [layB]
theorem arrB_zero (ws : List Nat) (i : Nat) : arrB ws i 0 = List.replicate 8 0 := by
  apply List.ext_getElem
  · simp [arrB]
  · intro q h1 h2; rw [List.getElem_replicate]; simp [arrB]
theorem arrB_set (ws : List Nat) (i j : Nat) (h : j < 8) : (arrB ws i j).set j (byteAt ws (8 * i + j)) = arrB ws i (j + 1) := by
  apply List.ext_getElem
  · simp [arrB]
  · intro t h1 h2
    rw [List.getElem_set]
    simp only [arrB, List.getElem_map, List.getElem_range]
    by_cases ht : j = t
    · subst ht; simp
    · rw [if_neg ht]
      by_cases h3 : t < j
      · rw [if_pos h3, if_pos (by omega)]
      · rw [if_neg h3, if_neg (by omega)]
theorem layB_spl (ws : List Nat) (M i : Nat) (h : 8 * i < M) : spl ((layB ws M i).map u8v) (8 * i) ((arrB ws i 8).map u8v) (min 8 (M - 8 * i)) = (layB ws M (i + 1)).map u8v := by
  have hl := layB_length ws M i
  have ha := arrB_length ws i 8
  unfold spl
  rw [← List.map_take, ← List.map_take, ← List.map_drop, ← List.map_append, ← List.map_append]
  congr 1
  apply List.ext_getElem
  · simp [hl, ha, layB_length]; omega
  · intro q h1 h2
    have hq : q < M := by rw [layB_length] at h2; exact h2
    have hr : (layB ws M (i + 1))[q] = if q < 8 * (i + 1) then byteAt ws q else 0 := by simp [layB]
    rw [hr, List.getElem_append]
    split
    · rename_i hc
      rw [List.length_take, hl] at hc
      simp only [List.getElem_take, layB, List.getElem_map, List.getElem_range]
      rw [if_pos (by omega), if_pos (by omega)]
    · rename_i hc
      rw [List.length_take, hl] at hc
      rw [List.getElem_append]
      split
      · rename_i hd
        rw [List.length_take, List.length_take, ha, hl] at hd
        simp only [List.getElem_take, arrB, List.getElem_map, List.getElem_range, List.length_take, hl]
        rw [if_pos (by omega), if_pos (by omega)]
        congr 1
        omega
      · rename_i hd
        rw [List.length_take, List.length_take, ha, hl] at hd
        simp only [List.getElem_drop, layB, List.getElem_map, List.getElem_range, List.length_take, List.length_map, List.length_range]
        rw [if_neg (by simp only [arrB, List.length_map, List.length_range]; omega), if_neg (by omega)]
theorem layB_all (L : List Bool) : layB (pack L) ((L.length + 7) / 8) (pack L).length = packB L := by
  have : (pack L).length = (L.length + 63) / 64 := packTo_length _ _ _
  unfold layB packB byteAt
  apply List.map_congr_left
  intro q hq
  rw [List.mem_range] at hq
  rw [if_pos (by omega)]

set_option maxRecDepth 100000 in
set_option maxHeartbeats 4000000 in
theorem bytes_any (b g : Nat) (L : List Bool) (w : World) (h : BA w b g L.length (pack L)) (hp : 0 < L.length) (hn : L.length ≤ 900) :
    Calls Tryd.prog 81 #[.pointer (some ⟨b, 0, none⟩)] w fun e w' => (∃ v', e = .returned v' ∧ Byts w' v' (packB L)) ∧ Keep w w' := by
  obtain ⟨c0, c1, c2⟩ := h.cells
  have hl := h.len
  have H := Lib.hid h
  have HALL := Lib.hid (layB_all L)
  obtain ⟨ws, hws⟩ : ∃ ws, ws = pack L := ⟨_, rfl⟩
  rw [← hws] at c1 hl H HALL
  obtain ⟨n, hnn⟩ : ∃ n, n = L.length := ⟨_, rfl⟩
  rw [← hnn] at c0 hl hp hn H HALL
  obtain ⟨M, hM⟩ : ∃ M, M = (n + 7) / 8 := ⟨_, rfl⟩
  rw [← hM] at HALL
  obtain ⟨m, hm⟩ : ∃ m, m = ws.length := ⟨_, rfl⟩
  rw [← hm] at c1 hl HALL
  have HWM := Lib.hid hm
  have hmk := fun W => run_make_u8 M (((n : Int) + 7) / 8) (((n : Int) + 7) / 8) (by omega) (by omega) (by omega) W
  have hM1 : ∀ i, i < m → 8 * i < M := fun i hi => by omega
  have HM1 := Lib.hid hM1
  have hM2 : M ≤ 113 := by omega
  have hm2 : m ≤ 15 := by omega
  have HL0 := Lib.hid (layB_zero ws M)
  clear c2 h hws hnn hM hm hl hM1
  go_enter Tryd.func81, Tryd.ntmps81
  go_wp2_with fail
  clear hmk
  go_loopw [5] (fun iv wr => ∃ i : Nat, i ≤ m ∧ iv = .int .i64 i ∧ ArrB wr w.heap.size 5 (layB ws M i) ∧ Keep w wr) (fun iv _ => m - (intOf iv).toNat)
  case atStart =>
    refine ⟨0, Nat.zero_le _, rfl, ?_, (Kp.refl _ _).alloc _⟩
    rw [HL0.out]
    unfold ArrB
    have := heap_alloc_new w (.cells ((List.replicate M (0 : UInt8)).map u8v).toArray 5)
    simpa using this
  case round =>
    obtain ⟨i, hi, rfl, hown, hkp⟩ := hrel
    have HO := Lib.hid hown
    have HK := Lib.hid hkp
    have hsz := hkp.size
    have d0 := hkp.cell_of c0 (fun x => x)
    have d1 := hkp.cell_of c1 (fun x => x)
    by_cases hlt : i < m
    · have h8 := HM1.out i hlt
      clear hown hkp
      go_wp2_with fail
      obtain ⟨E, hE⟩ : ∃ E, E = wr.heap.size := ⟨_, rfl⟩
      obtain ⟨wa, hwa⟩ : ∃ wa, wa = wr.alloc (.cells #[.int .u8 0, .int .u8 0, .int .u8 0, .int .u8 0, .int .u8 0, .int .u8 0, .int .u8 0, .int .u8 0] 158) := ⟨_, rfl⟩
      have hka : Keep wr wa := by rw [hwa]; exact (Kp.refl _ _).alloc _
      have hra : ArrB wa E 158 (arrB ws i 0) := by
        unfold ArrB
        rw [arrB_zero, hwa, hE, heap_alloc_new]
        rfl
      have HKA := Lib.hid hka
      have HRA := Lib.hid hra
      have d0a := hka.cell_of d0 (fun x => x)
      have d1a := hka.cell_of d1 (fun x => x)
      have hEl : ¬ E < wr.heap.size := by omega
      have HE := Lib.hid hE
      obtain ⟨dl, dl2⟩ := words_at (H.out.kp HK.out (fun x => x) (fun x => x)) i (by rw [← HWM.out]; exact hlt)
      obtain ⟨y, hy⟩ : ∃ y, y = ws.getD i 0 := ⟨_, rfl⟩
      rw [← hy] at dl dl2
      have dla := hka.cell_of dl (fun x => x)
      have HY := Lib.hid hy
      rw [← hwa, ← hE]
      clear hwa hE hka hra hy dl d0 d1
      have hbE : ¬ b = E := by have := World.block_lt_of_cell? wr _ (HK.out.cell_of c0 (fun x => x)); simp at this; omega
      have hgE : ¬ g = E := by have := (H.out.kp HK.out (fun x => x) (fun x => x)).lt.2; omega
      go_loopw [26] (fun jv wx => ∃ j : Nat, j ≤ 8 ∧ jv = .int .i64 j ∧ ArrB wx E 158 (arrB ws i j) ∧ Kp (fun k => k = E) wa wx) (fun jv _ => 8 - (intOf jv).toNat)
      case atStart => exact ⟨0, Nat.zero_le _, rfl, HRA.out, Kp.refl _ _⟩
      case round =>
        obtain ⟨j, hj, rfl, hr, hkx⟩ := hrel
        have HR := Lib.hid hr
        have HKX := Lib.hid hkx
        have x0 := hkx.cell_of d0a (fun e => by simp at e; omega)
        have x1 := hkx.cell_of d1a (fun e => by simp at e; omega)
        have x2 := hkx.cell_of dla (fun e => by simp at e; omega)
        by_cases hj2 : j < 8
        · have ef := ArrB.frozen hr j
          have ec := hr.cell j (by rw [arrB_length]; exact hj2)
          obtain ⟨s, hs⟩ : ∃ s, s = 8 * j := ⟨_, rfl⟩
          have hmul : (8 : Int) * (j : Int) = (s : Int) := by omega
          obtain ⟨V, hV⟩ : ∃ V, V = byteAt ws (8 * i + j) := ⟨_, rfl⟩
          have hVn : ((y : Int) / 2 ^ s) % 256 = (V.toNat : Int) := by
            have e : ((y : Int) / 2 ^ s) = ((y / 2 ^ s : Nat) : Int) := by simp
            rw [e, hV]
            unfold byteAt
            rw [show (8 * i + j) / 8 = i by omega, show (8 * i + j) % 8 * 8 = s by omega, ← HY.out, UInt8.toNat_ofNat', Nat.mod_mod]
            simp
          have hs64 : s < 64 := by omega
          have HS := Lib.hid (arrB_set ws i j hj2)
          have HVV := Lib.hid hV
          clear hr hkx hs hV
          go_wp2_with fail
          go_roundw
          case rel =>
            refine ⟨j + 1, hj2, by go_num, ?_, HKX.out.setCell (p := ⟨E, j, none⟩) (fun _ => rfl) _⟩
            have h1 := HR.out.set j V
            have h2 := HS.out
            rw [← HVV.out] at h2
            rw [h2] at h1
            exact h1
          case measure => simp [intOf]; omega
        · obtain rfl : j = 8 := by omega
          have hkw : Keep w wr := (HK.out.trans HKA.out).trans' hkx fun i hi e => by have := HE.out; omega
          have HKW := Lib.hid hkw
          have hEW : ¬ w.heap.size = E := by have := HE.out; have := HO.out.lt; omega
          have HOX := Lib.hid ((HO.out.kp HKA.out (fun x => x)).kp hkx hEW)
          obtain ⟨s, hs⟩ : ∃ s, s = 8 * i := ⟨_, rfl⟩
          have hmul : IntKind.i64.wrap ((i : Int) * 8) = (s : Int) := by rw [wrap64_of _ (by omega) (by omega)]; omega
          have hsM : s < M := by omega
          have hsl : ∀ wz, (Instr.slice 22 (.slice (some ⟨w.heap.size, 0, none⟩) M M) (some (.int .i64 (s : Int))) none none).run Tryd.prog wz = .ok (.slice (some ⟨w.heap.size, s, none⟩) (M - s) (M - s)) wz := fun wz => by
            have he : Tryd.prog.elem 22 = 5 := by simp [Program.elem, Tryd.underlying22]
            have ht' : Tryd.prog.underlying 22 = some (.slice (Tryd.prog.elem 22)) := by rw [he]; exact Tryd.underlying22
            rw [run_slice_l wz 22 _ _ _ ht' .i64 _ (by omega) (by omega), he, szB]
            have hne : ¬ M - s = 0 := by omega
            have hne2 : ¬ M = s := by omega
            simp [Result.andThen, sliced, Addr.add, hne, hne2]
            intro h0
            exact h0.symm
          have HSP := Lib.hid (layB_spl ws M i (by omega))
          have HSE := Lib.hid hs
          clear hr hkx hkw hs
          go_wp2_with fail
          go_region_law (first
            | (refine step_cpy rfl (.tmp 46) (.tmp 47) 22 22 rfl Tryd.underlying22 (by kernel_rfl) rfl rfl (g := w.heap.size) (off := s) (cur := (layB ws M i).map u8v) (news := (arrB ws i 8).map u8v) (t := 5) HOX.out (by have := arr_src HR.out; rwa [arrB_length] at this) (ones8 _) (fun _ => rfl) (by rw [List.length_map, layB_length]; omega) ?_
               intro w8 hb8 hk8
               have HB8 := Lib.hid hb8.out
               have HK8 := Lib.hid hk8.out
               clear hb8 hk8))
          all_goals
            go_wp2_with fail
            go_roundw
            case rel =>
              refine ⟨i + 1, hlt, by go_num, ?_, (HKW.out.drew).trans' HK8.out fun j hj e => by omega⟩
              have h1 := HB8.out
              rw [HSE.out, HSP.out] at h1
              exact h1
            case measure => simp [intOf]; omega
    · obtain rfl : i = m := by omega
      rw [HALL.out] at hown
      have hml : M = (packB L).length := by rw [← HALL.out, layB_length]
      have hby := Lib.hid (arr_byts hown hml (by omega))
      clear hml
      clear hown hkp
      go_wp2_with fail
      go_ret
      exact ⟨⟨_, rfl, hby.out⟩, HK.out⟩
end Go.Proofs.YtfodkjpjejoemaaDoor
