/-
  Paths as text: a segment escaped, walked.
  Conditions: the table's cells hold its numbers; the length is bounded.
-/
import Derived.Test.YtfodkjpjejoemaaDoorPath1
namespace Go.Proofs.YtfodkjpjejoemaaDoor
open Go Go.RowKit
attribute [local go_sem ↓] Go.wp_at_zero Go.wp_at_succ

def cvC (s : ByteArray) (w : World) : Nat := grownCap w s.size 0 5
def cvW (s : ByteArray) (w : World) : World := w.drew.alloc (.cells (bytesRow s (cvC s w)) 5 ((bytesRow s (cvC s w)).size, (bytesRow s (cvC s w)).size + 1))
theorem cv_run (s : ByteArray) (w : World) : (convert 9 22 (.string s)).run Tryd.prog w = .ok (.slice (some ⟨w.heap.size, 0, none⟩) s.size (cvC s w)) (cvW s w) :=
  run_bytes_of_string w _ _ _ s Tryd.underlying9 Tryd.underlying22 Tryd.underlying5
theorem cv_keep (s : ByteArray) (w : World) : Keep w (cvW s w) := (Kp.refl _ _).drew.alloc _
theorem cv_size (s : ByteArray) (w : World) : (cvW s w).heap.size = w.heap.size + 1 := by unfold cvW; simp
theorem cv_byp (s : ByteArray) (w : World) (hs : s.size ≤ 1099511627776) (S : Nat → Prop) (hS : ¬ S w.heap.size) : Byp (cvW s w) S (.slice (some ⟨w.heap.size, 0, none⟩) s.size (cvC s w)) s.data.toList := by
  obtain ⟨A, c, w4, hr, hk, hb⟩ := bytes_of s w hs
  rw [cv_run] at hr
  simp only [Result.ok.injEq, Value.slice.injEq] at hr
  obtain ⟨⟨rfl, _, rfl⟩, rfl⟩ := hr
  exact hb S hS
theorem xs64_to (t : Nat) (ht : t ≤ 64) : ∀ (b : Nat) (w : World), (Instr.sliceAt 186 (.pointer (some ⟨b, 0, none⟩)) none (some (.int .i64 (t : Int))) none).run Tryd.prog w = .ok (.slice (some ⟨b, 0, none⟩) t 64) w := by
  intro b w
  have hl : Tryd.prog.arrayLen 186 = 64 := by kernel_rfl
  have he : Tryd.prog.elem 186 = 5 := by kernel_rfl
  rw [run_sliceAt_array_h (P := Tryd.prog) w 186 _ (by rw [hl, he]; exact Tryd.underlying186) .i64 _ (by omega) (by rw [hl]; omega), hl, he, szB]
  simp [Result.andThen, slicedAt, Addr.add]
theorem row_set {w : World} {g : Nat} {T : TypeId} {cur : List Value} (h : w.heap[g]? = some (.cells cur.toArray T (0, 0))) (k : Nat) (v : Value) : (w.setCell ⟨g, k, none⟩ v).heap[g]? = some (.cells (cur.set k v).toArray T (0, 0)) := by
  rw [heap_setCell_same _ _ _ _ _ _ h]
  simp
theorem row_at {w : World} {g : Nat} {T : TypeId} {cur : List Value} (h : w.heap[g]? = some (.cells cur.toArray T (0, 0))) (k : Nat) (hk : k < cur.length) : w.cell? ⟨g, k, none⟩ = some cur[k] ∧ w.frozen? ⟨g, k, none⟩ = false := by
  refine ⟨?_, frozen_of_row _ _ _ _ _ h⟩
  rw [cell_of_row _ _ _ _ _ _ h]
  simp [hk]
theorem take_set (cur : List Value) (J : Nat) (v : Value) (h : J < cur.length) : (cur.set J v).take (J + 1) = cur.take J ++ [v] := by
  rw [take_snoc (cur.set J v) J (by simpa using h), List.take_set]
  congr 1
  · exact List.set_eq_of_length_le (by rw [List.length_take]; omega)
  · simp
theorem esc_take_le (L : List UInt8) (i : Nat) : (esc (L.take i)).length ≤ (esc L).length := by
  conv => rhs; rw [← List.take_append_drop i L]
  rw [esc_append, List.length_append]; omega
theorem safe_space : safeN 32 = false := by decide +kernel

set_option maxRecDepth 100000 in
set_option maxHeartbeats 8000000 in
theorem escape_any (s : ByteArray) (w : World) (ht : UTab w) (hs : s.size ≤ 1073741824) :
    Calls Tryd.prog 149 #[.string s, .int .u8 2] w fun e w' => e = .returned (strV (esc s.data.toList)) ∧ Keep w w' := by
  obtain ⟨L, hL⟩ : ∃ L, L = s.data.toList := ⟨_, rfl⟩
  obtain ⟨N, hN⟩ : ∃ N, N = s.size := ⟨_, rfl⟩
  have hNL : N = L.length := by rw [hL, hN, size_data]
  have hcv := cv_run s
  have HCV1 := Lib.hid (cv_byp s w (by omega) (fun _ => False) (fun x => x))
  have HT1 := Lib.hid (ht.keep (cv_keep s w))
  have HK1 := Lib.hid (cv_keep s w)
  have HCV := Lib.hid (fun (wx : World) (S : Nat → Prop) (hS : ¬ S wx.heap.size) => cv_byp s wx (by omega) S hS)
  rw [← hL] at HCV1 HCV ⊢
  have HSL : Hid (Value.string s = strV L) := Lib.hid (by rw [hL]; exact strV_data s)
  have HNL := Lib.hid hNL
  have HT := Lib.hid ht
  rw [← hN] at hs
  have hsz : s.size = N := hN.symm
  rw [hsz] at HCV1 HCV hcv
  clear hL hN ht hNL
  go_enter Tryd.func149, Tryd.ntmps149
  go_wp2_with fail
  obtain ⟨w1, hw1⟩ : ∃ w1, w1 = cvW s w := ⟨_, rfl⟩
  rw [← hw1] at HCV1 HT1 HK1 ⊢
  have HW1 := Lib.hid hw1
  clear hw1
  go_loopw [5, 6, 19] (fun sv hv iv wr => ∃ i h : Nat, i ≤ N ∧ sv = .int .i64 0 ∧ hv = .int .i64 h ∧ iv = .int .i64 i ∧ (esc (L.take i)).length = i + 2 * h ∧ (h = 0 → esc (L.take i) = L.take i) ∧ w1 = wr) (fun _ _ iv _ => N - (intOf iv).toNat)
  case atStart => exact ⟨0, 0, Nat.zero_le _, rfl, rfl, rfl, by simp [esc], fun _ => by simp [esc], rfl⟩
  case round =>
    obtain ⟨i, h, hi, rfl, rfl, rfl, hel, he0, rfl⟩ := hrel
    have HEL := Lib.hid hel
    have HE0 := Lib.hid he0
    have hhi : h ≤ i := by have := esc_length (L.take i); rw [hel, List.length_take] at this; omega
    clear hel he0
    by_cases hlt : i < N
    · have hil : i < L.length := by rw [← HNL.out]; exact hlt
      obtain ⟨hm1, _, _, _, hm5⟩ := HCV1.out.at_.of_eq
      obtain ⟨g, off, hA, hc⟩ := hm5 (by omega)
      obtain ⟨u, hu, hur⟩ := hc i hil
      have hur' : u = .int .u8 (L[i].toNat : Int) := hur
      subst hur'
      simp only [Option.some.injEq, Addr.mk.injEq] at hA
      obtain ⟨rfl, rfl, -⟩ := hA
      rw [Nat.zero_add] at hu
      have hsn : esc (L.take (i + 1)) = esc (L.take i) ++ escB L[i] := by
        rw [take_snoc L i hil, esc_append]; simp [esc]
      have hts := take_snoc L i hil
      obtain ⟨c, hcc⟩ : ∃ c, c = L[i] := ⟨_, rfl⟩
      rw [← hcc] at hu hsn hts
      have hcl := c.toNat_lt
      have HSN := Lib.hid hsn
      have HTS := Lib.hid hts
      have HSE := Lib.hid (fun (wx : World) (hx : UTab wx) => shouldEscape_any c.toNat wx hcl hx)
      have hsafe : safe c = safeN c.toNat := rfl
      clear hm1 hm5 hc hur hsn hts hcc hil
      cases hq : safeN c.toNat with
      | true =>
        rw [hq] at HSE hsafe
        have HSF := Lib.hid hsafe
        clear hsafe hq
        go_wp2_with (go_at_call 141
                     refine (HSE.out _ HT1.out).mono ?_
                     rintro e w2 ⟨rfl, rfl⟩)
        go_roundw
        case rel => exact ⟨i + 1, h, hlt, rfl, rfl, by go_num, by rw [HSN.out, List.length_append, HEL.out, escB_safe c HSF.out]; simp; omega, fun h0 => by rw [HSN.out, HTS.out, HE0.out h0, escB_safe c HSF.out], by first | rfl | trivial⟩
        case measure => simp [intOf]; omega
      | false =>
        rw [hq] at HSE hsafe
        have HSF := Lib.hid hsafe
        clear hsafe hq
        by_cases h32 : c.toNat = 32
        · rw [h32] at hu HSE
          clear h32 hcl
          go_wp2_with (go_at_call 141
                       refine (HSE.out _ HT1.out).mono ?_
                       rintro e w2 ⟨rfl, rfl⟩)
          go_roundw
          case rel => exact ⟨i + 1, h + 1, hlt, rfl, by go_num, by go_num, by rw [HSN.out, List.length_append, HEL.out, escB_not c HSF.out]; simp; omega, fun h0 => by omega, by first | rfl | trivial⟩
          case measure => simp [intOf]; omega
        · have h32' : ((c.toNat : Int) == 32) = false := by rw [beq_eq_false_iff_ne]; omega
          clear h32
          go_wp2_with (go_at_call 141
                       refine (HSE.out _ HT1.out).mono ?_
                       rintro e w2 ⟨rfl, rfl⟩)
          go_roundw
          case rel => exact ⟨i + 1, h + 1, hlt, rfl, by go_num, by go_num, by rw [HSN.out, List.length_append, HEL.out, escB_not c HSF.out]; simp; omega, fun h0 => by omega, by first | rfl | trivial⟩
          case measure => simp [intOf]; omega
    · obtain rfl : i = N := by omega
      have hfull : L.take i = L := List.take_of_length_le (by rw [← HNL.out]; exact Nat.le_refl _)
      rw [hfull] at HEL HE0
      by_cases h0 : h = 0
      · subst h0
        have heq := HE0.out rfl
        have HEQ := Lib.hid heq
        clear heq hfull
        go_wp2_with fail
        go_ret
        rw [HEQ.out]
        exact ⟨by rw [← HSL.out]; rfl, HK1.out⟩
      · have h0' : ((h : Int) == 0) = false := by rw [beq_eq_false_iff_ne]; omega
        obtain ⟨R, hR⟩ : ∃ R, R = i + 2 * h := ⟨_, rfl⟩
        have hRi : (i : Int) + 2 * (h : Int) = (R : Int) := by omega
        have hRb : R ≤ 4294967296 := by omega
        have HRL : Hid ((esc L).length = R) := Lib.hid (by rw [HEL.out, hR])
        have hmk := makeB R (by omega)
        have hgT : 3 < w.heap.size := World.block_lt_of_cell? w _ (HT.out 0 (by omega))
        have hw1s := HK1.out.size
        clear hfull h0 hR HE0 HEL hhi HCV1 HT1
        by_cases h64 : R ≤ 64
        · have h64i : (R : Int) ≤ 64 := by omega
          have hxs := xs64_to R h64
          go_wp2_with fail
          generalize hwA : w1.alloc _ = wX
          obtain ⟨g, hg⟩ : ∃ g, g = w1.heap.size := ⟨_, rfl⟩
          have hrow : wX.heap[g]? = some (.cells (List.replicate 64 (u8v 0)).toArray 186 (0, 0)) := by
            rw [← hwA, hg, heap_alloc_new]; rfl
          have hgX : g < wX.heap.size := lt_of_block hrow
          have hkX : Keep w wX := by rw [← hwA]; exact HK1.out.alloc _
          rw [← hg]
          have hwg : w.heap.size ≤ g := by omega
          have hXs : wX.heap.size = g + 1 := by rw [← hwA, hg]; simp
          have HXS := Lib.hid hXs
          clear hXs
          have HROW := Lib.hid hrow
          have HKX := Lib.hid hkX
          have hcap : R ≤ 64 := h64
          clear hwA hg hrow hkX hxs h64
          go_loopw [13, 78] (fun jv iv wr => ∃ (q : Nat) (cur : List Value), q ≤ i ∧ jv = .int .i64 ((esc (L.take q)).length : Nat) ∧ iv = .int .i64 q ∧ wr.heap[g]? = some (.cells cur.toArray 186 (0, 0)) ∧ cur.length = 64 ∧ cur.take (esc (L.take q)).length = (esc (L.take q)).map u8v ∧ Kp (fun m => m = g) (cvW s wX) wr) (fun _ iv _ => i - (intOf iv).toNat)
          case atStart => exact ⟨0, _, Nat.zero_le _, rfl, rfl, ((cv_keep s wX).block g hgX (fun x => x)).trans HROW.out, by simp, by simp [esc], Kp.refl _ _⟩
          case round =>
            obtain ⟨q, cur, hq, rfl, rfl, hrw, hcl, htk, hkp⟩ := hrel
            have HRW := Lib.hid hrw
            have HCL := Lib.hid hcl
            have HTK := Lib.hid htk
            have HKP := Lib.hid hkp
            have hbyw := HCV.out wX (fun m => m = g) (by omega) wr hkp
            have htw : UTab wr := (HT.out.keep (HKX.out.trans (cv_keep s wX))).kpS hkp (by omega)
            have HTW := Lib.hid htw
            have hgw : g < wr.heap.size := lt_of_block hrw
            have hle := esc_take_le L (q + 1)
            rw [HRL.out] at hle
            obtain ⟨J, hJ⟩ : ∃ J, J = (esc (L.take q)).length := ⟨_, rfl⟩
            rw [← hJ] at HTK ⊢
            have HJ := Lib.hid hJ
            clear hrw hcl htk hkp htw hJ HROW
            by_cases hlt : q < i
            · have hil : q < L.length := by rw [← HNL.out]; exact hlt
              have hm5 := hbyw.of_eq.2.2.2.2
              obtain ⟨g2, off, hA, hc⟩ := hm5 (by omega)
              obtain ⟨u, hu, hur⟩ := hc q hil
              have hur' : u = .int .u8 (L[q].toNat : Int) := hur
              subst hur'
              simp only [Option.some.injEq, Addr.mk.injEq] at hA
              obtain ⟨rfl, rfl, -⟩ := hA
              rw [Nat.zero_add, HXS.out] at hu
              have hsn : esc (L.take (q + 1)) = esc (L.take q) ++ escB L[q] := by
                rw [take_snoc L q hil, esc_append]; simp [esc]
              obtain ⟨c, hcc⟩ : ∃ c, c = L[q] := ⟨_, rfl⟩
              rw [← hcc] at hu hsn
              have hcl := c.toNat_lt
              have HSN := Lib.hid hsn
              have HSE := Lib.hid (fun (wx : World) (hx : UTab wx) => shouldEscape_any c.toNat wx hcl hx)
              have hsafe : safe c = safeN c.toNat := rfl
              rw [hsn, List.length_append, ← HJ.out] at hle
              clear hm5 hc hur hsn hcc hil hbyw
              cases hqs : safeN c.toNat with
              | true =>
                rw [hqs] at HSE hsafe
                have hesc := escB_safe c hsafe
                rw [hesc] at hle
                simp only [List.length_cons, List.length_nil] at hle
                have HESC := Lib.hid hesc
                have hr0 := row_at HRW.out J (by rw [HCL.out]; omega)
                have hc0 := hr0.1
                have hf0 := hr0.2
                have hJ1 : (J : Int) < (R : Int) := by omega
                have h32 : ((c.toNat : Int) == 32) = false := by
                  rw [beq_eq_false_iff_ne]; intro h9
                  have h8 : c.toNat = 32 := by omega
                  rw [h8, safe_space] at hqs; cases hqs
                clear hsafe hqs hesc hr0
                go_wp2_with (go_at_call 141
                             refine (HSE.out _ HTW.out).mono ?_
                             rintro e w2 ⟨rfl, rfl⟩)
                go_roundw
                case rel =>
                  have hl1 : (esc (L.take (q + 1))).length = J + 1 := by rw [HSN.out, HESC.out, List.length_append, ← HJ.out]; rfl
                  refine ⟨q + 1, cur.set J (u8v c), hlt, by rw [hl1]; go_num, by go_num, row_set HRW.out J _, by simp [HCL.out], ?_, HKP.out.setCell (fun _ => rfl) _⟩
                  rw [hl1, take_set cur J _ (by rw [HCL.out]; omega), HTK.out, HSN.out, HESC.out, List.map_append]; rfl
                case measure => simp [intOf]; omega
              | false =>
                rw [hqs] at HSE hsafe
                have hesc := escB_not c hsafe
                rw [hesc] at hle
                simp only [List.length_cons, List.length_nil] at hle
                obtain ⟨D1, hD1⟩ : ∃ D, D = c.toNat / 16 := ⟨_, rfl⟩
                obtain ⟨D2, hD2⟩ : ∃ D, D = c.toNat % 16 := ⟨_, rfl⟩
                have hsh : (c.toNat : Int) / 16 = (D1 : Int) := by omega
                have hand := and_15 c.toNat hcl
                rw [← hD2] at hand hesc
                rw [← hD1] at hesc
                have hi1 := hex_at D1 (by omega)
                have hi2 := hex_at D2 (by omega)
                have HESC := Lib.hid hesc
                have hr0 := row_at HRW.out J (by rw [HCL.out]; omega)
                have hr1 := row_at HRW.out (J + 1) (by rw [HCL.out]; omega)
                have hr2 := row_at HRW.out (J + 2) (by rw [HCL.out]; omega)
                have hc0 := hr0.1
                have hf0 := hr0.2
                have hc1 := hr1.1
                have hf1 := hr1.2
                have hc2 := hr2.1
                have hf2 := hr2.2
                have hJ1 : (J : Int) < (R : Int) := by omega
                have hJ2 : (J : Int) + 1 < (R : Int) := by omega
                have hJ3 : (J : Int) + 2 < (R : Int) := by omega
                clear hsafe hqs hesc hr0 hr1 hr2 hD1 hD2
                cases h32 : ((c.toNat : Int) == 32)
                all_goals
                  go_wp2_with (go_at_call 141
                               refine (HSE.out _ HTW.out).mono ?_
                               rintro e w2 ⟨rfl, rfl⟩)
                  go_roundw
                  case rel =>
                    have hl1 : (esc (L.take (q + 1))).length = J + 3 := by rw [HSN.out, HESC.out, List.length_append, ← HJ.out]; rfl
                    refine ⟨q + 1, ((cur.set J (u8v 37)).set (J + 1) (u8v (up D1))).set (J + 2) (u8v (up D2)), hlt, by rw [hl1]; go_num, by go_num, row_set (row_set (row_set HRW.out J _) (J + 1) _) (J + 2) _, by simp [HCL.out], ?_, ((HKP.out.setCell (fun _ => rfl) _).setCell (fun _ => rfl) _).setCell (fun _ => rfl) _⟩
                    have hcl2 := HCL.out
                    rw [hl1, show J + 3 = J + 2 + 1 from rfl, take_set _ (J + 2) _ (by simp; omega), show J + 2 = J + 1 + 1 from rfl, take_set _ (J + 1) _ (by simp; omega), take_set _ J _ (by omega), HTK.out, HSN.out, HESC.out, List.map_append, List.append_assoc, List.append_assoc]; rfl
                  case measure => simp [intOf]; omega
            · obtain rfl : q = i := by omega
              have hfull : L.take q = L := List.take_of_length_le (by rw [← HNL.out]; exact Nat.le_refl _)
              have hJR : J = R := by rw [HJ.out, hfull, HRL.out]
              have htk2 := HTK.out
              rw [hfull, hJR] at htk2
              have hby : Byts wr (.slice (some ⟨g, 0, none⟩) R 64) (esc L) := by
                have hl := HRL.out
                refine ⟨_, 64, by rw [hl], by rw [hl]; exact hcap, by unfold maxLen; omega, (fun e => by cases e), fun _ => ⟨g, 0, rfl, fun m hm => ⟨u8v (esc L)[m], ?_, rfl⟩⟩⟩
                have hmc : m < cur.length := by rw [HCL.out]; omega
                rw [Nat.zero_add, (row_at HRW.out m hmc).1]
                have h1 : (cur.take R)[m]? = ((esc L).map u8v)[m]? := by rw [htk2]
                rw [List.getElem?_take_of_lt (by omega), List.getElem?_eq_getElem hmc, List.getElem?_map, List.getElem?_eq_getElem hm] at h1
                simpa using h1
              have hst := byts_string (P := Tryd.prog) Tryd.underlying22 Tryd.underlying5 Tryd.underlying9 hby
              clear hfull hJR htk2 hby hbyw hle
              go_wp2_with fail
              go_ret
              exact ⟨rfl, (HKX.out.trans (cv_keep s wX)).trans' HKP.out fun j hj e => by subst e; omega⟩
        · have h64i : ¬ (R : Int) ≤ 64 := by omega
          go_wp2_with fail
          generalize hwA : w1.alloc _ = wA
          obtain ⟨g, hg⟩ : ∃ g, g = w1.heap.size + 1 := ⟨_, rfl⟩
          have hsA : wA.heap.size = w1.heap.size + 1 := by rw [← hwA]; simp
          have hkA : Keep w wA := by rw [← hwA]; exact HK1.out.alloc _
          generalize hwX : wA.alloc _ = wX
          have hrow : wX.heap[g]? = some (.cells (List.replicate R (u8v 0)).toArray 5 (0, 0)) := by
            rw [← hwX, hg, ← hsA, heap_alloc_new]; simp
          have hXs0 : wX.heap.size = g + 1 := by rw [← hwX, hg, ← hsA]; simp
          have hkX0 : Keep w wX := by rw [← hwX]; exact hkA.alloc _
          have HXS := Lib.hid hXs0
          have hgX : g < wX.heap.size := lt_of_block hrow
          have hwg : w.heap.size ≤ g := by rw [hg, ← hsA]; exact hkA.size
          rw [← hg]
          have HROW := Lib.hid hrow
          have HKX := Lib.hid hkX0
          have hcap : R ≤ R := Nat.le_refl _
          clear hwA hwX hg hrow hkX0 hkA hmk h64 hsA hXs0
          go_loopw [13, 78] (fun jv iv wr => ∃ (q : Nat) (cur : List Value), q ≤ i ∧ jv = .int .i64 ((esc (L.take q)).length : Nat) ∧ iv = .int .i64 q ∧ wr.heap[g]? = some (.cells cur.toArray 5 (0, 0)) ∧ cur.length = R ∧ cur.take (esc (L.take q)).length = (esc (L.take q)).map u8v ∧ Kp (fun m => m = g) (cvW s wX) wr) (fun _ iv _ => i - (intOf iv).toNat)
          case atStart => exact ⟨0, _, Nat.zero_le _, rfl, rfl, ((cv_keep s wX).block g hgX (fun x => x)).trans HROW.out, by simp, by simp [esc], Kp.refl _ _⟩
          case round =>
            obtain ⟨q, cur, hq, rfl, rfl, hrw, hcl, htk, hkp⟩ := hrel
            have HRW := Lib.hid hrw
            have HCL := Lib.hid hcl
            have HTK := Lib.hid htk
            have HKP := Lib.hid hkp
            have hbyw := HCV.out wX (fun m => m = g) (by omega) wr hkp
            have htw : UTab wr := (HT.out.keep (HKX.out.trans (cv_keep s wX))).kpS hkp (by omega)
            have HTW := Lib.hid htw
            have hgw : g < wr.heap.size := lt_of_block hrw
            have hle := esc_take_le L (q + 1)
            rw [HRL.out] at hle
            obtain ⟨J, hJ⟩ : ∃ J, J = (esc (L.take q)).length := ⟨_, rfl⟩
            rw [← hJ] at HTK ⊢
            have HJ := Lib.hid hJ
            clear hrw hcl htk hkp htw hJ HROW
            by_cases hlt : q < i
            · have hil : q < L.length := by rw [← HNL.out]; exact hlt
              have hm5 := hbyw.of_eq.2.2.2.2
              obtain ⟨g2, off, hA, hc⟩ := hm5 (by omega)
              obtain ⟨u, hu, hur⟩ := hc q hil
              have hur' : u = .int .u8 (L[q].toNat : Int) := hur
              subst hur'
              simp only [Option.some.injEq, Addr.mk.injEq] at hA
              obtain ⟨rfl, rfl, -⟩ := hA
              rw [Nat.zero_add, HXS.out] at hu
              have hsn : esc (L.take (q + 1)) = esc (L.take q) ++ escB L[q] := by
                rw [take_snoc L q hil, esc_append]; simp [esc]
              obtain ⟨c, hcc⟩ : ∃ c, c = L[q] := ⟨_, rfl⟩
              rw [← hcc] at hu hsn
              have hcl := c.toNat_lt
              have HSN := Lib.hid hsn
              have HSE := Lib.hid (fun (wx : World) (hx : UTab wx) => shouldEscape_any c.toNat wx hcl hx)
              have hsafe : safe c = safeN c.toNat := rfl
              rw [hsn, List.length_append, ← HJ.out] at hle
              clear hm5 hc hur hsn hcc hil hbyw
              cases hqs : safeN c.toNat with
              | true =>
                rw [hqs] at HSE hsafe
                have hesc := escB_safe c hsafe
                rw [hesc] at hle
                simp only [List.length_cons, List.length_nil] at hle
                have HESC := Lib.hid hesc
                have hr0 := row_at HRW.out J (by rw [HCL.out]; omega)
                have hc0 := hr0.1
                have hf0 := hr0.2
                have hJ1 : (J : Int) < (R : Int) := by omega
                have h32 : ((c.toNat : Int) == 32) = false := by
                  rw [beq_eq_false_iff_ne]; intro h9
                  have h8 : c.toNat = 32 := by omega
                  rw [h8, safe_space] at hqs; cases hqs
                clear hsafe hqs hesc hr0
                go_wp2_with (go_at_call 141
                             refine (HSE.out _ HTW.out).mono ?_
                             rintro e w2 ⟨rfl, rfl⟩)
                go_roundw
                case rel =>
                  have hl1 : (esc (L.take (q + 1))).length = J + 1 := by rw [HSN.out, HESC.out, List.length_append, ← HJ.out]; rfl
                  refine ⟨q + 1, cur.set J (u8v c), hlt, by rw [hl1]; go_num, by go_num, row_set HRW.out J _, by simp [HCL.out], ?_, HKP.out.setCell (fun _ => rfl) _⟩
                  rw [hl1, take_set cur J _ (by rw [HCL.out]; omega), HTK.out, HSN.out, HESC.out, List.map_append]; rfl
                case measure => simp [intOf]; omega
              | false =>
                rw [hqs] at HSE hsafe
                have hesc := escB_not c hsafe
                rw [hesc] at hle
                simp only [List.length_cons, List.length_nil] at hle
                obtain ⟨D1, hD1⟩ : ∃ D, D = c.toNat / 16 := ⟨_, rfl⟩
                obtain ⟨D2, hD2⟩ : ∃ D, D = c.toNat % 16 := ⟨_, rfl⟩
                have hsh : (c.toNat : Int) / 16 = (D1 : Int) := by omega
                have hand := and_15 c.toNat hcl
                rw [← hD2] at hand hesc
                rw [← hD1] at hesc
                have hi1 := hex_at D1 (by omega)
                have hi2 := hex_at D2 (by omega)
                have HESC := Lib.hid hesc
                have hr0 := row_at HRW.out J (by rw [HCL.out]; omega)
                have hr1 := row_at HRW.out (J + 1) (by rw [HCL.out]; omega)
                have hr2 := row_at HRW.out (J + 2) (by rw [HCL.out]; omega)
                have hc0 := hr0.1
                have hf0 := hr0.2
                have hc1 := hr1.1
                have hf1 := hr1.2
                have hc2 := hr2.1
                have hf2 := hr2.2
                have hJ1 : (J : Int) < (R : Int) := by omega
                have hJ2 : (J : Int) + 1 < (R : Int) := by omega
                have hJ3 : (J : Int) + 2 < (R : Int) := by omega
                clear hsafe hqs hesc hr0 hr1 hr2 hD1 hD2
                cases h32 : ((c.toNat : Int) == 32)
                all_goals
                  go_wp2_with (go_at_call 141
                               refine (HSE.out _ HTW.out).mono ?_
                               rintro e w2 ⟨rfl, rfl⟩)
                  go_roundw
                  case rel =>
                    have hl1 : (esc (L.take (q + 1))).length = J + 3 := by rw [HSN.out, HESC.out, List.length_append, ← HJ.out]; rfl
                    refine ⟨q + 1, ((cur.set J (u8v 37)).set (J + 1) (u8v (up D1))).set (J + 2) (u8v (up D2)), hlt, by rw [hl1]; go_num, by go_num, row_set (row_set (row_set HRW.out J _) (J + 1) _) (J + 2) _, by simp [HCL.out], ?_, ((HKP.out.setCell (fun _ => rfl) _).setCell (fun _ => rfl) _).setCell (fun _ => rfl) _⟩
                    have hcl2 := HCL.out
                    rw [hl1, show J + 3 = J + 2 + 1 from rfl, take_set _ (J + 2) _ (by simp; omega), show J + 2 = J + 1 + 1 from rfl, take_set _ (J + 1) _ (by simp; omega), take_set _ J _ (by omega), HTK.out, HSN.out, HESC.out, List.map_append, List.append_assoc, List.append_assoc]; rfl
                  case measure => simp [intOf]; omega
            · obtain rfl : q = i := by omega
              have hfull : L.take q = L := List.take_of_length_le (by rw [← HNL.out]; exact Nat.le_refl _)
              have hJR : J = R := by rw [HJ.out, hfull, HRL.out]
              have htk2 := HTK.out
              rw [hfull, hJR] at htk2
              have hby : Byts wr (.slice (some ⟨g, 0, none⟩) R R) (esc L) := by
                have hl := HRL.out
                refine ⟨_, R, by rw [hl], by rw [hl]; exact hcap, by unfold maxLen; omega, (fun e => by cases e), fun _ => ⟨g, 0, rfl, fun m hm => ⟨u8v (esc L)[m], ?_, rfl⟩⟩⟩
                have hmc : m < cur.length := by rw [HCL.out]; omega
                rw [Nat.zero_add, (row_at HRW.out m hmc).1]
                have h1 : (cur.take R)[m]? = ((esc L).map u8v)[m]? := by rw [htk2]
                rw [List.getElem?_take_of_lt (by omega), List.getElem?_eq_getElem hmc, List.getElem?_map, List.getElem?_eq_getElem hm] at h1
                simpa using h1
              have hst := byts_string (P := Tryd.prog) Tryd.underlying22 Tryd.underlying5 Tryd.underlying9 hby
              clear hfull hJR htk2 hby hbyw hle
              go_wp2_with fail
              go_ret
              exact ⟨rfl, (HKX.out.trans (cv_keep s wX)).trans' HKP.out fun j hj e => by subst e; omega⟩
end Go.Proofs.YtfodkjpjejoemaaDoor
