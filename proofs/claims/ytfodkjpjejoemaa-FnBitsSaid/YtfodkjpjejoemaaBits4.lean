/-
  Lists of bits cut, taken from each other and turned: And, Sub, Not.
  Conditions: the arrays are known whole.
-/
import Derived.Test.YtfodkjpjejoemaaBits3
namespace Go.Proofs.Ytfodkjpjejoemaa
open Go Go.RowKit
attribute [local go_sem ↓] Go.wp_at_zero Go.wp_at_succ

set_option maxRecDepth 100000 in
set_option maxHeartbeats 4000000 in
theorem and_any (b g n : Nat) (ws : List Nat) (b' g' n' : Nat) (ws' : List Nat) (w : World) (h : BA w b g n ws) (h' : BA w b' g' n' ws') :
    Calls Try.prog 48 #[.pointer (some ⟨b, 0, none⟩), .pointer (some ⟨b', 0, none⟩)] w fun e w' => ∃ c d, e = .returned (.pointer (some ⟨c, 0, none⟩)) ∧
      BA w' c d (min n n') (layTo (· &&& ·) (fitTo ws (min n n')) ws' ((min n n' + 63) / 64)) ∧ Keep w w' := by
  obtain ⟨c0, c1, c2⟩ := h.cells
  obtain ⟨d0, d1, d2⟩ := h'.cells
  have hb := h.bound
  have hb' := h'.bound
  have hl := h.len
  have hl' := h'.len
  have H := Lib.hid h
  have H' := Lib.hid h'
  have HL := Lib.hid hl
  have HL' := Lib.hid hl'
  have hM : min (n : Int) (n' : Int) = ((min n n' : Nat) : Int) := by omega
  have HM := Lib.hid hM
  have hm : min n n' ≤ 4294967296 := by omega
  clear h h' c2 d2 hl hl' hM
  go_enter Try.func48, Try.ntmps48
  go_wp2
  go_region_held3 (fun w' => Keep w w' ∧ w'.cell? ⟨b, 0, none⟩ = some (.int .i64 n) ∧ w'.cell? ⟨b', 0, none⟩ = some (.int .i64 n'))
    (first
      | exact ⟨(Kp.refl _ _).drew, by assumption, by assumption⟩
      | (go_split_ands; exact ⟨by assumption, by assumption, by assumption⟩)
      | (go_split_ands; exact ⟨Kp.trans (by assumption) (by assumption), Kp.cell_of (by assumption) (by assumption) (fun x => x), Kp.cell_of (by assumption) (by assumption) (fun x => x)⟩))
    (first
      | (go_at_call 47; refine (MinInt_any _ _ _).mono ?_; rintro e w2 ⟨rfl, rfl⟩; rw [HM.out])
      | (go_at_call 45; go_split_ands; refine (copyBits_any b g n ws (min n n') _ (H.out.kp (by assumption) (fun x => x) (fun x => x)) hm).mono ?_; rintro e w3 ⟨c, d, rfl, hc, hd, hba, hk3⟩))
  have hkw : Keep w w3 := by go_split_ands; assumption
  have a1 : w3.cell? ⟨b, 1, none⟩ = some (.slice (some ⟨g, 0, none⟩) ws.length ws.length) := hkw.cell_of c1 (fun x => x)
  have a2 : w3.cell? ⟨b', 1, none⟩ = some (.slice (some ⟨g', 0, none⟩) ws'.length ws'.length) := hkw.cell_of d1 (fun x => x)
  have HK := Lib.hid hkw
  have HBA := Lib.hid hba
  clear hkw hk3 c0 c1 d0 d1 hba
  go_wp2
  have hmm : (min n n' + 63) / 64 ≤ (fitTo ws (min n n')).length := by rw [fitTo_length]; omega
  have hmm0 : (min n n' + 63) / 64 = (fitTo ws (min n n')).length := by rw [fitTo_length]
  have hmm1 : (min n n' + 63) / 64 ≤ ws'.length := by have := HL'.out; omega
  have hmm2 : (min n n' + 63) / 64 ≤ 4294967296 := by omega
  obtain ⟨m, hm1⟩ : ∃ m, m = (min n n' + 63) / 64 := ⟨_, rfl⟩
  rw [← hm1] at hmm hmm0 hmm1 hmm2
  have HM0 := Lib.hid hmm0
  clear hmm0
  have HM1 := Lib.hid hm1
  clear hm1
  clear a1 a2
  go_loopw [6] (fun i wr => ∃ k : Nat, k ≤ m ∧ i = .int .i64 k ∧ BA wr c d (min n n') (layTo (· &&& ·) (fitTo ws (min n n')) ws' k) ∧ Keep w wr) (fun i _ => m - (intOf i).toNat)
  case atStart => exact ⟨0, Nat.zero_le _, rfl, HBA.out, HK.out⟩
  case round =>
    obtain ⟨k, hk, rfl, hba, hkp⟩ := hrel
    by_cases hlt : k < m
    · have hbo := H'.out.kp hkp (fun x => x) (fun x => x)
      obtain ⟨e0, e1, e2⟩ := hba.cells
      obtain ⟨o0, o1, o2⟩ := hbo.cells
      have hlen := layTo_length (· &&& ·) (fitTo ws (min n n')) ws' k
      have HS := Lib.hid (show layTo (· &&& ·) (fitTo ws (min n n')) ws' (k + 1) = (layTo (· &&& ·) (fitTo ws (min n n')) ws' k).set k ((layTo (· &&& ·) (fitTo ws (min n n')) ws' k).getD k 0 &&& ws'.getD k 0) from rfl)
      obtain ⟨cs, hcs⟩ : ∃ cs, cs = layTo (· &&& ·) (fitTo ws (min n n')) ws' k := ⟨_, rfl⟩
      rw [← hcs] at hba e1 e2 hlen HS
      clear hcs
      have hlen2 := HM0.out
      have hcm : cs.length = m := by omega
      have hj : k < cs.length := by omega
      have hj' : k < ws'.length := by omega
      have e3 := e2 k hj
      have o3 := o2 k hj'
      have ef : wr.frozen? ⟨d, k, none⟩ = false := frozen_of_row _ _ _ _ _ hba.body
      have i1 : (0 : Int) ≤ (k : Int) := by omega
      have i2 : (k : Int) < (cs.length : Int) := by omega
      have i3 : (k : Int) < (ws'.length : Int) := by omega
      have s1 := Lib.hid (hba.small cs[k] (List.getElem_mem hj))
      have s2 := Lib.hid (hbo.small ws'[k] (List.getElem_mem hj'))
      have HB := Lib.hid hba
      have HKP := Lib.hid hkp
      have HCM := Lib.hid hcm
      clear e2 o2 e0 o0 hba hbo hkp hlen hlen2 hcm
      go_wp2
      go_still_tail 16, (by kernel_rfl)
      change wpList _ _ _ _ _ wr.drew
      go_wp2
      go_roundw
      case rel =>
        have hd' : w.heap.size ≤ d := hd
        refine ⟨k + 1, by omega, by go_num, ?_, (HKP.out.setCell (p := ⟨d, k, none⟩) (fun hh => by have : d < w.heap.size := hh; omega) _).drew⟩
        rw [HS.out, u64_and_nat cs[k] ws'[k] (by simpa using s1.out) (by simpa using s2.out)]
        have := (HB.out.store k (cs[k] &&& ws'[k]) (Nat.lt_of_le_of_lt Nat.and_le_left s1.out)).kp ((Kp.refl (fun _ => False) _).drew) (fun x => x) (fun x => x)
        simpa [hj, hj'] using this
      case measure => simp [intOf]; omega
    · obtain ⟨e0, e1, e2⟩ := hba.cells
      have hlen := layTo_length (· &&& ·) (fitTo ws (min n n')) ws' k
      have hlen2 := HM0.out
      obtain rfl : k = m := by omega
      rw [hlen, ← hlen2] at e1
      have HB := Lib.hid hba
      clear e0 e2 hlen hlen2
      have HKP := Lib.hid hkp
      clear hba hkp
      go_wp2
      go_ret
      exact ⟨c, d, rfl, by have := HM1.out; rw [← this]; exact HB.out, HKP.out⟩
def andNot (x y : Nat) : Nat := x &&& (18446744073709551615 - y)

set_option maxRecDepth 100000 in
set_option maxHeartbeats 4000000 in
theorem Sub_any (b g n : Nat) (ws : List Nat) (b' g' n' : Nat) (ws' : List Nat) (w : World) (h : BA w b g n ws) (h' : BA w b' g' n' ws') :
    Calls Try.prog 31 #[.pointer (some ⟨b, 0, none⟩), .pointer (some ⟨b', 0, none⟩)] w fun e w' => ∃ c d, e = .returned (.pointer (some ⟨c, 0, none⟩)) ∧
      BA w' c d n (layTo andNot (fitTo ws n) ws' (min ws.length ws'.length)) ∧ Keep w w' := by
  obtain ⟨c0, c1, c2⟩ := h.cells
  obtain ⟨d0, d1, d2⟩ := h'.cells
  have hb := h.bound
  have hb' := h'.bound
  have hl := h.len
  have hl' := h'.len
  have H := Lib.hid h
  have H' := Lib.hid h'
  have HL := Lib.hid hl
  have HL' := Lib.hid hl'
  clear h h' c2 d2 hl hl'
  go_enter Try.func31, Try.ntmps31
  go_wp2_with (go_at_call 45; refine (copyBits_any b g n ws n _ H.out hb).mono ?_; rintro e w3 ⟨c, d, rfl, hc, hd, hba, hk3⟩)
  have hkw : Keep w w3 := hk3
  have a1 : w3.cell? ⟨b, 1, none⟩ = some (.slice (some ⟨g, 0, none⟩) ws.length ws.length) := hkw.cell_of c1 (fun x => x)
  have a2 : w3.cell? ⟨b', 1, none⟩ = some (.slice (some ⟨g', 0, none⟩) ws'.length ws'.length) := hkw.cell_of d1 (fun x => x)
  have HK := Lib.hid hkw
  have HBA := Lib.hid hba
  clear hkw hk3 c0 c1 d0 d1 hba
  have hmn : min (ws.length : Int) (ws'.length : Int) = ((min ws.length ws'.length : Nat) : Int) := by omega
  have HMN := Lib.hid hmn
  clear hmn
  go_wp2
  go_quiet ((go_at_call 47; exact quiet_same (MinInt_any _ _ _)))
  rw [HMN.out]
  go_wp2
  have hmm : min ws.length ws'.length ≤ (fitTo ws n).length := by rw [fitTo_length]; have := HL.out; omega
  have hmm1 : min ws.length ws'.length ≤ ws'.length := by omega
  have hmm2 : min ws.length ws'.length ≤ 4294967296 := by have := HL'.out; omega
  obtain ⟨m, hm1⟩ : ∃ m, m = min ws.length ws'.length := ⟨_, rfl⟩
  rw [← hm1] at hmm hmm1 hmm2 ⊢
  have HM1 := Lib.hid hm1
  clear hm1
  clear a1 a2
  go_loopw [7] (fun i wr => ∃ k : Nat, k ≤ m ∧ i = .int .i64 k ∧ BA wr c d n (layTo andNot (fitTo ws n) ws' k) ∧ Keep w wr) (fun i _ => m - (intOf i).toNat)
  case atStart => exact ⟨0, Nat.zero_le _, rfl, HBA.out.kp ((Kp.refl (fun _ => False) _).drewN _) (fun x => x) (fun x => x), HK.out.drewN _⟩
  case round =>
    obtain ⟨k, hk, rfl, hba, hkp⟩ := hrel
    by_cases hlt : k < m
    · have hbo := H'.out.kp hkp (fun x => x) (fun x => x)
      obtain ⟨e0, e1, e2⟩ := hba.cells
      obtain ⟨o0, o1, o2⟩ := hbo.cells
      have hlen := layTo_length andNot (fitTo ws n) ws' k
      have HS := Lib.hid (show layTo andNot (fitTo ws n) ws' (k + 1) = (layTo andNot (fitTo ws n) ws' k).set k ((layTo andNot (fitTo ws n) ws' k).getD k 0 &&& (18446744073709551615 - ws'.getD k 0)) from rfl)
      obtain ⟨cs, hcs⟩ : ∃ cs, cs = layTo andNot (fitTo ws n) ws' k := ⟨_, rfl⟩
      rw [← hcs] at hba e1 e2 hlen HS
      clear hcs
      have hj : k < cs.length := by omega
      have hj' : k < ws'.length := by omega
      have e3 := e2 k hj
      have o3 := o2 k hj'
      have ef : wr.frozen? ⟨d, k, none⟩ = false := frozen_of_row _ _ _ _ _ hba.body
      have i1 : (0 : Int) ≤ (k : Int) := by omega
      have i2 : (k : Int) < (cs.length : Int) := by omega
      have i3 : (k : Int) < (ws'.length : Int) := by omega
      have s1 := Lib.hid (hba.small cs[k] (List.getElem_mem hj))
      have s2 := Lib.hid (hbo.small ws'[k] (List.getElem_mem hj'))
      have HB := Lib.hid hba
      have HKP := Lib.hid hkp
      clear e2 o2 e0 o0 hba hbo hkp hlen
      go_wp2
      go_still_tail 16, (by kernel_rfl)
      change wpList _ _ _ _ _ wr.drew
      go_wp2
      go_roundw
      case rel =>
        have hd' : w.heap.size ≤ d := hd
        refine ⟨k + 1, by omega, by go_num, ?_, (HKP.out.setCell (p := ⟨d, k, none⟩) (fun hh => by have : d < w.heap.size := hh; omega) _).drew⟩
        rw [HS.out, u64_andNot_nat cs[k] ws'[k] (by simpa using s1.out) (by simpa using s2.out)]
        have := (HB.out.store k (cs[k] &&& (18446744073709551615 - ws'[k])) (Nat.lt_of_le_of_lt Nat.and_le_left s1.out)).kp ((Kp.refl (fun _ => False) _).drew) (fun x => x) (fun x => x)
        simpa [hj, hj'] using this
      case measure => simp [intOf]; omega
    · obtain rfl : k = m := by omega
      have HB := Lib.hid hba
      have HKP := Lib.hid hkp
      clear hba hkp
      go_wp2
      go_ret
      exact ⟨c, d, rfl, by have := HM1.out; rw [← this]; exact HB.out, HKP.out⟩

theorem And_any (b g n : Nat) (ws : List Nat) (b' g' n' : Nat) (ws' : List Nat) (w : World) (h : BA w b g n ws) (h' : BA w b' g' n' ws') :
    Calls Try.prog 30 #[.pointer (some ⟨b, 0, none⟩), .pointer (some ⟨b', 0, none⟩)] w fun e w' => ∃ c d, e = .returned (.pointer (some ⟨c, 0, none⟩)) ∧
      BA w' c d (min n n') (layTo (· &&& ·) (fitTo ws (min n n')) ws' ((min n n' + 63) / 64)) ∧ Keep w w' := by
  have HA := Lib.hid (and_any b g n ws b' g' n' ws' w h h')
  clear h h'
  go_enter Try.func30, Try.ntmps30
  go_wp2_with (go_at_call 48; refine HA.out.mono ?_; rintro e w1 ⟨c, d, rfl, hb, hk⟩)
  go_ret
  exact ⟨c, d, rfl, hb, hk⟩

set_option maxHeartbeats 800000 in
theorem copy_any (b g n : Nat) (ws : List Nat) (w : World) (h : BA w b g n ws) :
    Calls Try.prog 59 #[.pointer (some ⟨b, 0, none⟩)] w fun e w' => ∃ b' g', e = .returned (.pointer (some ⟨b', 0, none⟩)) ∧ w.heap.size ≤ b' ∧ w.heap.size ≤ g' ∧ BA w' b' g' n ws ∧ Keep w w' := by
  obtain ⟨c0, c1, c2⟩ := h.cells
  have hlt := h.lt
  have hl := h.len
  have hb := h.bound
  have H := Lib.hid h
  have hlb : ws.length ≤ 4294967296 := by omega
  have hmk := fun W => run_make_words ws.length ws.length ws.length (by omega) (by omega) (by omega) W
  have hcb : w.cell? ⟨b, 0, none⟩ = some (.int .i64 n) := c0
  have HL := Lib.hid hl
  clear c2 h hl hcb
  go_enter Try.func59, Try.ntmps59
  go_wp2_with (with_reducible refine wpList_cpy rfl (.tmp 10) (.tmp 14) _ _ rfl Try.underlying60 u64_size rfl rfl (g := w.heap.size) (off := 0) (cur := wordsL (List.replicate ws.length 0)) (heap_alloc_new _ _) (words_src (t := 63) ((Below.heap_alloc _ _ _ hlt.2).trans H.out.body)) (words_one ws) (fun _ => rfl) (by simp [wordsL]) ?_)
  intro w1 hw1 hk1
  have hz : w.heap.size + 1 ≤ w1.heap.size := by have := hk1.out.size; simpa using this
  have hk2 : Keep w w1 := ((Kp.refl _ _).alloc _).trans' hk1.out fun i hi e => by omega
  have c3 : w1.cell? ⟨b, 0, none⟩ = some (.int .i64 n) := hk2.cell_of c0 (fun x => x)
  have HK2 := Lib.hid hk2
  clear hmk c0 c1 hk2
  go_wp2
  go_ret
  refine ⟨w1.heap.size, w.heap.size, rfl, by omega, Nat.le_refl _, ?_, HK2.out.alloc _⟩
  have h1 := hw1.out
  have e : (spl (wordsL (List.replicate ws.length 0)) 0 (wordsL ws) ws.length).toArray = wordsV ws := by
    unfold spl wordsV wordsL; simp; try exact List.take_of_length_le (by simp)
  rw [e] at h1
  exact
    { head := by rw [heap_alloc_new]
      body := (Below.heap_alloc _ _ _ (by omega)).trans h1
      len := HL.out
      small := H.out.small
      bound := hb }

def notW (x _ : Nat) : Nat := 18446744073709551615 - x

set_option maxRecDepth 100000 in
set_option maxHeartbeats 4000000 in
theorem not_any (b g n : Nat) (ws : List Nat) (w : World) (h : BA w b g n ws) :
    Calls Try.prog 49 #[.pointer (some ⟨b, 0, none⟩)] w fun e w' => ∃ c d, e = .returned (.pointer (some ⟨c, 0, none⟩)) ∧ BA w' c d n (layTo notW ws [] ws.length) ∧ Keep w w' := by
  have HC := Lib.hid (copy_any b g n ws w h)
  have hl := h.len
  have hb := h.bound
  have hlb : ws.length ≤ 4294967296 := by omega
  clear h hl
  go_enter Try.func49, Try.ntmps49
  go_wp2_with (go_at_call 59; refine HC.out.mono ?_; rintro e w1 ⟨c, d, rfl, hc, hd, hba, hk⟩)
  have HBA := Lib.hid hba
  have HK := Lib.hid hk
  clear hba hk
  obtain ⟨m, hm1⟩ : ∃ m, m = ws.length := ⟨_, rfl⟩
  rw [← hm1] at hlb
  have HM1 := Lib.hid hm1
  clear hm1
  go_loopw [4] (fun i wr => ∃ k : Nat, k ≤ m ∧ i = .int .i64 k ∧ BA wr c d n (layTo notW ws [] k) ∧ Keep w wr) (fun i _ => m - (intOf i).toNat)
  case atStart => exact ⟨0, Nat.zero_le _, rfl, HBA.out, HK.out⟩
  case round =>
    obtain ⟨k, hk, rfl, hba, hkp⟩ := hrel
    obtain ⟨e0, e1, e2⟩ := hba.cells
    have hlen := layTo_length notW ws [] k
    have hlen2 := HM1.out
    by_cases hlt : k < m
    · have HS := Lib.hid (show layTo notW ws [] (k + 1) = (layTo notW ws [] k).set k (18446744073709551615 - (layTo notW ws [] k).getD k 0) from rfl)
      obtain ⟨cs, hcs⟩ : ∃ cs, cs = layTo notW ws [] k := ⟨_, rfl⟩
      rw [← hcs] at hba e1 e2 hlen HS
      clear hcs
      have hcm : cs.length = m := by omega
      have hj : k < cs.length := by omega
      have e3 := e2 k hj
      have ef : wr.frozen? ⟨d, k, none⟩ = false := frozen_of_row _ _ _ _ _ hba.body
      have i1 : (0 : Int) ≤ (k : Int) := by omega
      have i2 : (k : Int) < (cs.length : Int) := by omega
      have i3 : cs.length ≤ 4294967296 := by omega
      have s1 := Lib.hid (hba.small cs[k] (List.getElem_mem hj))
      have HB := Lib.hid hba
      have HKP := Lib.hid hkp
      clear e2 e0 hba hkp hlen hlen2 hcm
      go_wp2
      go_still_tail 14, (by kernel_rfl)
      change wpList _ _ _ _ _ wr.drew
      go_wp2
      go_roundw
      case rel =>
        have hd' : w.heap.size ≤ d := hd
        refine ⟨k + 1, by omega, by go_num, ?_, (HKP.out.setCell (p := ⟨d, k, none⟩) (fun hh => by have : d < w.heap.size := hh; omega) _).drew⟩
        rw [HS.out, show (if IntKind.u64.signed = true then (-1 : Int) else IntKind.u64.max) = IntKind.u64.max from rfl, not_word cs[k] s1.out]
        have := (HB.out.store k (2 ^ 64 - 1 - cs[k]) (by omega)).kp ((Kp.refl (fun _ => False) _).drew) (fun x => x) (fun x => x)
        simpa [hj] using this
      case measure => simp [intOf]; omega
    · obtain rfl : k = m := by omega
      rw [show (layTo notW ws [] k).length = k by omega] at e1
      have HB := Lib.hid hba
      have HKP := Lib.hid hkp
      clear hba hkp e0 e2 hlen hlen2
      go_wp2
      go_ret
      exact ⟨c, d, rfl, by have := HM1.out; rw [← this]; exact HB.out, HKP.out⟩

theorem Not_any (b g n : Nat) (ws : List Nat) (w : World) (h : BA w b g n ws) :
    Calls Try.prog 32 #[.pointer (some ⟨b, 0, none⟩)] w fun e w' => ∃ c d, e = .returned (.pointer (some ⟨c, 0, none⟩)) ∧ BA w' c d n (layTo notW ws [] ws.length) ∧ Keep w w' := by
  have HA := Lib.hid (not_any b g n ws w h)
  clear h
  go_enter Try.func32, Try.ntmps32
  go_wp2_with (go_at_call 49; refine HA.out.mono ?_; rintro e w1 ⟨c, d, rfl, hb, hk⟩)
  go_ret
  exact ⟨c, d, rfl, hb, hk⟩
end Go.Proofs.Ytfodkjpjejoemaa
