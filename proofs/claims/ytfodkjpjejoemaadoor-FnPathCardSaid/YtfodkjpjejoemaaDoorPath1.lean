/-
  Paths as text: bytes that are escaped, hexadecimal digits.
  Conditions: the table's cells hold its numbers; the lengths are bounded.
-/
import Derived.Test.YtfodkjpjejoemaaDoorPath0
import Derived.Test.YtfodkjpjejoemaaDoorKey8
namespace Go.Proofs.YtfodkjpjejoemaaDoor
open Go Go.RowKit
attribute [local go_sem ↓] Go.wp_at_zero Go.wp_at_succ

theorem shouldEscape_any (n : Nat) (w : World) (hn : n < 256) (ht : UTab w) :
    Calls Tryd.prog 141 #[.int .u8 (n : Int), .int .u8 2] w fun e w' => e = .returned (.bool (!safeN n)) ∧ w = w' := by
  have hc := ht n hn
  have hs : safeN n = (bits .and .u8 (urlTab.getD n 0) 2 != 0) := rfl
  rw [hs]
  obtain ⟨t, hT⟩ : ∃ t, t = urlTab.getD n 0 := ⟨_, rfl⟩
  rw [← hT] at hc ⊢
  obtain ⟨r, hr⟩ : ∃ r, r = bits .and .u8 t 2 := ⟨_, rfl⟩
  rw [← hr]
  have hr2 := hr.symm
  clear hT ht hs hr
  go_enter Tryd.func141, Tryd.ntmps141
  go_wp2
  go_ret
  exact ⟨ret_b (by simp [bne]), rfl⟩

def upS : ByteArray := { data := #[48, 49, 50, 51, 52, 53, 54, 55, 56, 57, 65, 66, 67, 68, 69, 70] }
theorem upS_fin : ∀ n : Fin 16, upS[n.val]'(show n.val < upS.size by have := n.isLt; exact this) = up n.val := by decide +kernel
theorem hex_at (n : Nat) (h : n < 16) (w : World) : (Instr.index 9 (.string { data := #[48, 49, 50, 51, 52, 53, 54, 55, 56, 57, 65, 66, 67, 68, 69, 70] }) (.int .u8 (n : Int))).run Tryd.prog w = .ok (.int .u8 ((up n).toNat : Int)) w := by
  have hz : upS.size = 16 := by decide
  have e := run_index_string (P := Tryd.prog) w 9 upS .u8 n Tryd.underlying9
  rw [dif_pos ⟨by omega, by rw [hz]; omega⟩] at e
  simp only [Int.toNat_natCast] at e
  rw [show upS[n]'(by rw [hz]; exact h) = up n from upS_fin ⟨n, h⟩] at e
  exact e

theorem makeB0 (n : Nat) (h : n ≤ 1099511627777) (w : World) : (Instr.makeSlice 22 (.int .i64 0) (.int .i64 (n : Int))).run Tryd.prog w = .ok (.slice (some ⟨w.heap.size, 0, none⟩) 0 n) (w.alloc (.cells (List.replicate n (u8v 0)).toArray 5)) := by
  obtain ⟨i0, hi, hz0, hz1, hz2⟩ := info_parts infoU8
  have hr := run_make (P := Tryd.prog) w 22 5 i0 (.int .u8 0) Tryd.underlying22 hi hz0 .i64 .i64 0 n (by omega) (by omega) (by rw [hz2]; omega) (by omega)
  rw [hr, hz1]
  have : madeCells (Value.int .u8 0).cells ((n : Int).toNat * 1) = (List.replicate n (u8v 0)).toArray := by
    unfold madeCells
    apply Array.ext
    · simp
    · intro j h1 h2
      simp [Nat.mod_one, Value.cells]
  rw [this]
  simp
theorem makeB (n : Nat) (h : n ≤ 1099511627777) (w : World) : (Instr.makeSlice 22 (.int .i64 (n : Int)) (.int .i64 (n : Int))).run Tryd.prog w = .ok (.slice (some ⟨w.heap.size, 0, none⟩) n n) (w.alloc (.cells (List.replicate n (u8v 0)).toArray 5)) := by
  obtain ⟨i0, hi, hz0, hz1, hz2⟩ := info_parts infoU8
  exact run_make_row1 22 5 i0 (.int .u8 0) Tryd.underlying22 hi hz0 hz1 rfl n n n rfl rfl (by rw [hz2]; omega) (by omega) w
theorem Own.room (w : World) (n : Nat) (h : n ≤ maxLen) : Own (w.alloc (.cells (List.replicate n (u8v 0)).toArray 5)) w.heap.size 5 (.slice (some ⟨w.heap.size, 0, none⟩) 0 n) [] :=
  ⟨by simp, .inr ⟨w.heap.size, n, _, rfl, Nat.le_refl _, heap_alloc_new _ _, Nat.zero_le _, h, by simp, by simp⟩⟩
theorem hexU_snoc (k : List UInt8) (c : UInt8) : hexU (k ++ [c]) = hexU k ++ [up (c.toNat / 16), up (c.toNat % 16)] := by
  unfold hexU; rw [List.flatMap_append]; simp [hexB]
theorem and_15 (C : Nat) (h : C < 256) : bits .and .u8 (C : Int) 15 = ((C % 16 : Nat) : Int) := by
  have h16 : ∀ n : Fin 256, bits .and .u8 (n.val : Int) 15 = ((n.val % 16 : Nat) : Int) := by decide +kernel
  exact h16 ⟨C, h⟩

set_option maxRecDepth 100000 in
set_option maxHeartbeats 2000000 in
theorem hexUpper_any (v : Value) (k : List UInt8) (w : World) (hv : Byts w v k) (hk : k.length ≤ 1073741824) :
    Calls Tryd.prog 127 #[v] w fun e w' => e = .returned (strV (hexU k)) ∧ Keep w w' := by
  have HV := Lib.hid hv
  obtain ⟨A, c, rfl, h1, h2, h3, h4⟩ := hv
  obtain ⟨n, hn⟩ : ∃ n, n = k.length := ⟨_, rfl⟩
  have HN := Lib.hid hn
  obtain ⟨N2, hN2⟩ : ∃ N2, N2 = 2 * n := ⟨_, rfl⟩
  have h2n : 2 * (n : Int) = (N2 : Int) := by omega
  rw [← hn] at h1 hk ⊢
  have hmk := makeB0 N2 (by omega)
  have hN2b : N2 ≤ 2147483648 := by omega
  have hroom := Own.room w N2 (by unfold maxLen; omega)
  have HRM := Lib.hid hroom
  have H4 := Lib.hid h4
  unfold maxLen at h2
  clear h3 h4 hn hN2 hroom
  go_enter Tryd.func127, Tryd.ntmps127
  go_wp2_with fail
  go_loopw [3, 12] (fun ov iv wr => ∃ i : Nat, i ≤ n ∧ iv = .int .i64 i ∧ Own wr w.heap.size 5 ov ((hexU (k.take i)).map u8v) ∧ Keep w wr) (fun _ iv _ => n - (intOf iv).toNat)
  case atStart => exact ⟨0, Nat.zero_le _, rfl, HRM.out, (Kp.refl _ _).alloc _⟩
  case round =>
    obtain ⟨i, hi, rfl, hown, hkp⟩ := hrel
    have HW := Lib.hid hown
    have HKP := Lib.hid hkp
    have HWF := Lib.hid hown.form
    obtain ⟨A2, c2, rfl, f1, f2, f3, f4⟩ := hown.form
    have hll : ((hexU (k.take i)).map u8v).length = 2 * i := by rw [List.length_map, hexU_length, List.length_take, ← HN.out]; omega
    have HLL := Lib.hid hll
    rw [hll] at f1 HW ⊢
    unfold maxLen at f2
    clear hown hkp f3 f4 hll HRM HWF
    by_cases hlt : i < n
    · obtain ⟨g, off, rfl, hc⟩ := H4.out (by rw [← HN.out]; omega)
      obtain ⟨u, hu, hur⟩ := hc i (by rw [← HN.out]; exact hlt)
      have hu2 := HKP.out.cell_of hu (fun x => x)
      obtain ⟨x, hx⟩ : ∃ x, x = k[i]'(by rw [← HN.out]; exact hlt) := ⟨_, rfl⟩
      rw [← hx] at hur
      have hur' : u = .int .u8 (x.toNat : Int) := hur
      subst hur'
      have hxl := x.toNat_lt
      have hsn : hexU (k.take (i + 1)) = hexU (k.take i) ++ [up (x.toNat / 16), up (x.toNat % 16)] := by
        rw [take_snoc k i (by rw [← HN.out]; exact hlt), hexU_snoc, ← hx]
      obtain ⟨C, hC⟩ : ∃ C, C = x.toNat := ⟨_, rfl⟩
      rw [← hC] at hu2 hxl hsn
      have HSN := Lib.hid hsn
      have ha := and_15 C hxl
      obtain ⟨D1, hD1⟩ : ∃ D, D = C / 16 := ⟨_, rfl⟩
      obtain ⟨D2, hD2⟩ : ∃ D, D = C % 16 := ⟨_, rfl⟩
      have hi1 := hex_at D1 (by omega)
      have hi2 := hex_at D2 (by omega)
      have hsh : (C : Int) / 16 = (D1 : Int) := by omega
      rw [← hD2] at ha
      rw [← hD1, ← hD2] at HSN
      clear hc hu hur hx hsn hC hD1 hD2
      go_wp2_with fail
      go_region_held3 (fun _ => True) (trivial) (first
        | (refine step_app rfl (.tmp 16) (.tmp 23) 22 rfl appB rfl (HW.out.drew.alloc _) rfl (news := [up D1, up D2].map u8v) ⟨rfl, fun _ => ⟨_, rfl, fun j u hj => by
             match j, hj with
             | 0, hj => simp at hj; subst hj; simp [Addr.add]
             | 1, hj => simp at hj; subst hj; simp [Addr.add]
             | j + 2, hj => simp at hj⟩⟩ (one1 _) (fun e => by cases e) (by rw [HLL.out]; omega) (by have := HKP.out.size; simp; omega) ?_
           intro v2 w2 h2 hk2 _
           have HO2 := Lib.hid h2
           have HK2 := Lib.hid hk2
           clear h2 hk2))
      all_goals
        go_wp2_with fail
        go_roundw
        case rel =>
          refine ⟨i + 1, hlt, by go_num, ?_, (HKP.out.drew.alloc _).trans' HK2.out (fun j hj e => by have := (HW.out.lt j e.symm).1; omega)⟩
          have h6 := HO2.out
          rw [← List.map_append, ← HSN.out] at h6
          exact h6
        case measure => simp [intOf]; omega
    · obtain rfl : i = n := by omega
      have hfull : k.take i = k := List.take_of_length_le (by rw [← HN.out]; exact Nat.le_refl _)
      have hby : Byts wr (.slice A2 (2 * i) c2) (hexU k) := by
        have h6 := HW.out.slc_map (R := U8) u8v (fun _ _ => rfl)
        rw [hfull] at h6
        exact h6
      have hst := byts_string (P := Tryd.prog) Tryd.underlying22 Tryd.underlying5 Tryd.underlying9 hby
      clear hfull hby
      go_wp2_with fail
      go_ret
      exact ⟨rfl, HKP.out⟩
end Go.Proofs.YtfodkjpjejoemaaDoor
