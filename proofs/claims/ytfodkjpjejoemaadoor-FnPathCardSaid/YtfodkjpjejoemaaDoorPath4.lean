/-
  Paths as text: keys and how each is written, as one text, walked.
  Conditions: the keys read as bytes, the choices as booleans; the lengths are bounded.
-/
import Derived.Test.YtfodkjpjejoemaaDoorPath3
namespace Go.Proofs.YtfodkjpjejoemaaDoor
open Go Go.RowKit
attribute [local go_sem ↓] Go.wp_at_zero Go.wp_at_succ

def BoolU (_ : World) (u : Value) (x : Bool) : Prop := u = .bool x
/-- a slice of booleans -/
abbrev Blns (w : World) (v : Value) (L : List Bool) : Prop := Slc BoolU w v L
theorem Blns.keep {w w' : World} {v : Value} {L : List Bool} (h : Blns w v L) (k : Keep w w') : Blns w' v L := Slc.keep h k fun _ _ h => h
theorem szBo (w : World) : (Go.sizeOf 4).run Tryd.prog w = .ok 1 w := by kernel_rfl

set_option maxRecDepth 100000 in
set_option maxHeartbeats 2000000 in
theorem keyPathText_any (v hv : Value) (KL : List (List UInt8)) (HL : List Bool) (w : World) (h1 : Mat w v KL) (h2 : Blns w hv HL) (hn : KL.length = HL.length) (hl : KL.length ≤ 300) (hb : ∀ k ∈ KL, k.length ≤ 2000) (ht : UTab w) :
    Calls Tryd.prog 67 #[v, hv] w fun e w' => e = .returned (strV (pathL (KL.zip HL))) ∧ Keep w w' := by
  have H1 := Lib.hid h1
  have H2 := Lib.hid h2
  have HT := Lib.hid ht
  have HB := Lib.hid hb
  obtain ⟨A, c, rfl, a1, a2, a3, a4⟩ := h1
  obtain ⟨B, d, rfl, b1, b2, b3, b4⟩ := h2
  obtain ⟨n, hnn⟩ : ∃ n, n = KL.length := ⟨_, rfl⟩
  have hHn : HL.length = n := by omega
  have HKN := Lib.hid hnn
  have HHN := Lib.hid hHn
  have A4 := Lib.hid a4
  have B4 := Lib.hid b4
  rw [← hnn] at a1 hl ⊢
  rw [hHn] at b1 ⊢
  unfold maxLen at a2 b2
  clear ht hb hn hnn hHn a3 a4 b3 b4
  go_enter Tryd.func67, Tryd.ntmps67
  go_wp2_with fail
  go_loopw [5, 10] (fun pv iv wr => ∃ (i : Nat) (KS : List (Value × Bool)), i ≤ n ∧ iv = .int .i64 i ∧ KS.length = i ∧ KRow wr w.heap.size pv KS ∧ (∀ k (h : k < KS.length) (h1 : k < KL.length) (h2 : k < HL.length), KS[k].2 = HL[k] ∧ Byts w KS[k].1 KL[k]) ∧ Keep w wr) (fun _ iv _ => n - (intOf iv).toNat)
  case atStart => exact ⟨0, [], Nat.zero_le _, rfl, rfl, KRow.nil_ _ _, fun k h => absurd h (by simp), Kp.refl _ _⟩
  case round =>
    obtain ⟨i, KS, hi, rfl, hkl, hrow, hel, hkp⟩ := hrel
    have HKL := Lib.hid hkl
    have HRW := Lib.hid hrow
    have HEL := Lib.hid hel
    have HKP := Lib.hid hkp
    have hws := hkp.size
    clear hkl hrow hel hkp
    by_cases hlt : i < n
    · have hiK : i < KL.length := by rw [← HKN.out]; exact hlt
      have hiH : i < HL.length := by rw [HHN.out]; exact hlt
      obtain ⟨g, off, rfl, hc⟩ := A4.out (by omega)
      obtain ⟨g2, off2, rfl, hc2⟩ := B4.out (by omega)
      obtain ⟨u, hu, hur⟩ := hc i hiK
      obtain ⟨u2, hu2, hur2⟩ := hc2 i hiH
      have hur2' : u2 = .bool HL[i] := hur2
      subst hur2'
      have hx1 := HKP.out.cell_of hu (fun x => x)
      have hx2 := HKP.out.cell_of hu2 (fun x => x)
      obtain ⟨x, hx⟩ : ∃ x, x = KL[i] := ⟨_, rfl⟩
      obtain ⟨hb, hhb⟩ : ∃ hb, hb = HL[i] := ⟨_, rfl⟩
      rw [← hx] at hur
      rw [← hhb] at hx2
      have HX := Lib.hid hx
      have HHB := Lib.hid hhb
      have HUR := Lib.hid hur
      obtain ⟨A3, c3, rfl, -, -, -, -⟩ := hur
      have hks : KS.length ≤ 1000000 := by rw [HKL.out]; omega
      have HKS := Lib.hid hks
      clear hc hc2 hu hu2 hur2 hx hhb hks
      cases hb with
      | true =>
        go_wp2_with (go_at_call 96
                     refine (appendKey_any w.heap.size _ KS A3 x.length c3 true _ HRW.out HKS.out hws).mono ?_
                     rintro e w2 ⟨v2, rfl, ho2, hk2⟩
                     have HO2 := Lib.hid ho2
                     have HK2 := Lib.hid hk2
                     clear ho2 hk2)
        go_roundw
        case rel =>
          refine ⟨i + 1, _, hlt, by go_num, by simp [HKL.out], HO2.out, ?_, HKP.out.trans' HK2.out fun j hj e => by omega⟩
          intro k hk hk1 hk2
          by_cases hki : k < KS.length
          · rw [List.getElem_append_left hki]; exact HEL.out k hki hk1 hk2
          · have hkv : k = i := by simp at hk; have := HKL.out; omega
            subst hkv
            have e1 : (KS ++ [(Value.slice A3 x.length c3, true)])[k]'hk = (.slice A3 x.length c3, true) := by
              rw [List.getElem_append_right (by omega)]; simp
            rw [e1, ← HX.out, ← HHB.out]
            exact ⟨rfl, HUR.out⟩
        case measure => simp [intOf]; omega
      | false =>
        go_wp2_with (go_at_call 96
                     refine (appendKey_any w.heap.size _ KS A3 x.length c3 false _ HRW.out HKS.out hws).mono ?_
                     rintro e w2 ⟨v2, rfl, ho2, hk2⟩
                     have HO2 := Lib.hid ho2
                     have HK2 := Lib.hid hk2
                     clear ho2 hk2)
        go_roundw
        case rel =>
          refine ⟨i + 1, _, hlt, by go_num, by simp [HKL.out], HO2.out, ?_, HKP.out.trans' HK2.out fun j hj e => by omega⟩
          intro k hk hk1 hk2
          by_cases hki : k < KS.length
          · rw [List.getElem_append_left hki]; exact HEL.out k hki hk1 hk2
          · have hkv : k = i := by simp at hk; have := HKL.out; omega
            subst hkv
            have e1 : (KS ++ [(Value.slice A3 x.length c3, false)])[k]'hk = (.slice A3 x.length c3, false) := by
              rw [List.getElem_append_right (by omega)]; simp
            rw [e1, ← HX.out, ← HHB.out]
            exact ⟨rfl, HUR.out⟩
        case measure => simp [intOf]; omega
    · obtain rfl : i = n := by omega
      have hz : (KL.zip HL).length = KS.length := by rw [List.length_zip, ← HKN.out, HHN.out, HKL.out]; omega
      have hke : ∀ k (h : k < KS.length) (h2 : k < (KL.zip HL).length), (KL.zip HL)[k].2 = KS[k].2 ∧ Byts wr KS[k].1 (KL.zip HL)[k].1 := fun k h h2 => by
        have hk1 : k < KL.length := by rw [← HKN.out, ← HKL.out]; exact h
        have hk2 : k < HL.length := by rw [HHN.out, ← HKL.out]; exact h
        have h9 := HEL.out k h hk1 hk2
        rw [List.getElem_zip]
        exact ⟨h9.1.symm, Byts.keep h9.2 HKP.out⟩
      have hkb : ∀ p ∈ KL.zip HL, p.1.length ≤ 2000 := fun p hp => HB.out _ (List.of_mem_zip hp).1
      have HSTR := Lib.hid (keyString_any w.heap.size _ KS (KL.zip HL) wr HRW.out hz (by rw [HKL.out]; omega) hke hkb (HT.out.keep HKP.out))
      clear hz hke hkb
      go_wp2_with (go_at_call 97
                   refine HSTR.out.mono ?_
                   rintro e w2 ⟨rfl, hk2⟩
                   have HK2 := Lib.hid hk2
                   clear hk2)
      go_ret
      exact ⟨rfl, HKP.out.trans HK2.out⟩

theorem pathText_any (v hv : Value) (KL : List (List UInt8)) (HL : List Bool) (w : World) (h1 : Mat w v KL) (h2 : Blns w hv HL) (hn : KL.length = HL.length) (hl : KL.length ≤ 300) (hb : ∀ k ∈ KL, k.length ≤ 2000) (ht : UTab w) :
    Calls Tryd.prog 32 #[v, hv] w fun e w' => e = .returned (strV (pathL (KL.zip HL))) ∧ Keep w w' := by
  have HP := Lib.hid (keyPathText_any v hv KL HL w h1 h2 hn hl hb ht)
  clear h1 h2 hn hl hb ht
  go_enter Tryd.func32, Tryd.ntmps32
  go_wp2_with (go_at_call 67
               refine HP.out.mono ?_
               rintro e w2 ⟨rfl, hk2⟩
               have HK2 := Lib.hid hk2
               clear hk2)
  go_ret
  exact ⟨rfl, HK2.out⟩
end Go.Proofs.YtfodkjpjejoemaaDoor
