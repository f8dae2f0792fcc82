
/-
  Messages: the fields of an operation's message read one by one.
  Conditions: the slice reads as fields; the function takes each.
-/
import Derived.Test.YtfodkjpjejoemaaGreatDoorMsg5
namespace Go.Proofs.YtfodkjpjejoemaaGreatDoor
open Go Go.RowKit
attribute [local go_sem ↓] Go.wp_at_zero Go.wp_at_succ

set_option maxRecDepth 100000 in
set_option maxHeartbeats 4000000 in
theorem wireFields2_any (cv : Value) (fs : List Fld) (v : Value) (w : World) (S : Nat → Prop) (I : Nat → World → Prop)
    (hok : ∀ f ∈ fs, f.ok) (hv : Byp w S v (fs.flatMap Fld.enc)) (hlen : (fs.flatMap Fld.enc).length ≤ 1099511627000) (hI : I 0 w)
    (hstep : ∀ k (hk : k < fs.length) (wr : World) (x : Value), I k wr → Kp S w wr → Byts wr x fs[k].load →
      Calls Tryz.prog 69 #[.int .i64 (fs[k].tag : Int), .int .i64 (fs[k].kind : Int), .int .u64 (fs[k].val : Int), x, cv] wr fun e w' => e = .returned (.bool true) ∧ I (k + 1) w' ∧ Kp S wr w') :
    Calls Tryz.prog 68 #[v, .func (.func 69) #[] #[cv]] w fun e w' => e = .returned .nilIface ∧ I fs.length w' ∧ Kp S w w' := by
  have HOK := Lib.hid hok
  have HV := Lib.hid hv
  have HST := Lib.hid hstep
  have HI0 := Lib.hid hI
  obtain ⟨A, c, rfl, h1, h2, h3, h4⟩ := hv.at_
  clear hok hv hstep hI h1 h2 h3 h4
  go_enter Tryz.func68, Tryz.ntmps68
  go_wp2_with fail
  go_loopw [0] (fun v wr => ∃ k : Nat, k ≤ fs.length ∧ Byp w S v ((fs.drop k).flatMap Fld.enc) ∧ I k wr ∧ Kp S w wr) (fun v _ => lenV v)
  case atStart => exact ⟨0, Nat.zero_le _, by simpa using HV.out, HI0.out, Kp.refl _ _⟩
  case round =>
    obtain ⟨k, hk, hb, hi, hkp⟩ := hrel
    have HB := Lib.hid hb
    have HI := Lib.hid hi
    have HK := Lib.hid hkp
    obtain ⟨A0, c0, rfl, a1, a2, a3, a4⟩ := hb.at_
    have hfl : ((fs.drop k).flatMap Fld.enc).length ≤ 1099511627000 := by
      have e : fs = fs.take k ++ fs.drop k := (List.take_append_drop k fs).symm
      rw [e, List.flatMap_append, List.length_append] at hlen
      omega
    clear a1 a2 a3 a4 hb hi hkp HI0 HV
    by_cases hlt : k < fs.length
    · have hd : (fs.drop k).flatMap Fld.enc = fs[k].enc ++ (fs.drop (k + 1)).flatMap Fld.enc := by
        rw [List.drop_eq_getElem_cons hlt, List.flatMap_cons]
      rw [hd] at HB hfl ⊢
      have HSK := Lib.hid (HST.out k hlt)
      obtain ⟨ht1, ht15, hv64, hld⟩ := HOK.out _ (List.getElem_mem hlt)
      obtain ⟨R, hR⟩ : ∃ R, R = (fs.drop (k + 1)).flatMap Fld.enc := ⟨_, rfl⟩
      rw [← hR] at HB hfl ⊢
      have HR := Lib.hid hR
      generalize fs[k] = f at *
      clear hd hR
      cases f with
      | num t n =>
        simp only [Fld.tag, Fld.val, Fld.load, Fld.kind] at ht1 ht15 hv64 hld HSK
        obtain ⟨K, hK⟩ : ∃ K, K = 8 * t := ⟨_, rfl⟩
        have hKu : uvar K = [UInt8.ofNat (8 * t)] := by rw [uvar_small (by omega), hK]
        have hsplit : (Fld.num t n).enc ++ R = uvar K ++ (uvar n ++ R) := by rw [hKu]; simp [Fld.enc]
        rw [hsplit] at HB hfl ⊢
        obtain ⟨l0, hl0⟩ : ∃ l, l = (uvar K ++ (uvar n ++ R)).length := ⟨_, rfl⟩
        obtain ⟨U, hU⟩ : ∃ U, U = (uvar n).length := ⟨_, rfl⟩
        have hu10 := uvar_ten n hv64
        have hup := uvar_pos n
        have hl0e : l0 = 1 + (U + R.length) := by rw [hl0, hKu, hU]; simp; omega
        rw [← hl0] at HB hfl ⊢
        rw [← hU] at hu10 hup
        obtain ⟨A1, c1, hs1, hb1⟩ := byp_from HB.out 1 (by rw [← hl0]; omega)
        have e1 : (uvar K ++ (uvar n ++ R)).drop 1 = uvar n ++ R := by rw [hKu]; rfl
        rw [e1] at hb1
        obtain ⟨l1, hl1⟩ : ∃ l, l = l0 - 1 := ⟨_, rfl⟩
        rw [← hl1] at hs1 hb1
        replace hs1 : ∀ w', (Instr.slice 24 (.slice A0 l0 c0) (some (.int .i64 1)) none none).run Tryz.prog w' = .ok (.slice A1 l1 c1) w' := hs1
        obtain ⟨A2, c2, hs2, hb2⟩ := byp_from hb1 U (by rw [List.length_append]; omega)
        have e2 : (uvar n ++ R).drop U = R := by rw [hU]; exact List.drop_left
        rw [e2] at hb2
        obtain ⟨l2, hl2⟩ : ∃ l, l = l1 - U := ⟨_, rfl⟩
        rw [← hl2] at hs2 hb2
        have HB1 := Lib.hid hb1
        have HB2 := Lib.hid hb2
        obtain ⟨-, g1, g2⟩ := HB.out.len
        obtain ⟨-, g3, g4⟩ := hb1.len
        obtain ⟨-, g5, g6⟩ := hb2.len
        have hKl : (uvar K).length = 1 := by rw [hKu]; rfl
        have HKL := Lib.hid hKl
        have HUU := Lib.hid hU
        have fK3 : (K : Int) / 8 = (t : Int) := by omega
        have ft0 : ((t : Int) == 0) = false := by rw [beq_eq_false_iff_ne]; omega
        have ft9 : ¬ (536870911 : Int) < (t : Int) := by omega
        have hand : bits .and .u64 (K : Int) 7 = 0 := by rw [and_7 K (by omega)]; omega
        have hU0 : ¬ (U : Int) ≤ 0 := by omega
        have hU1 : (U : Int) ≤ (l1 : Int) := by omega
        have hl0p : 0 < l0 := by omega
        have hl01 : 1 ≤ l0 := by omega
        have hl2l : l2 < l0 := by omega
        have hl132 : l1 ≤ 1099511627000 := by omega
        have hl032 : l0 ≤ 1099511627000 := by omega
        have hRl : R.length ≤ 1099511627000 := by omega
        have hK128 : K ≤ 120 := by omega
        have hUR : (uvar n ++ R).length ≤ 1099511627776 := by rw [List.length_append]; omega
        have hK64 : K < 18446744073709551616 := by omega
        clear hl0 hl0e hl1 hl2 hb1 hb2 e1 e2 hKl hU hK hKu hsplit hfl
        go_wp2_with fail
        refine (uvarint_any (.slice A0 l0 c0) K (uvar n ++ R) _ (HB.out _ HK.out) hK64 hUR).mono ?_
        rintro e w' ⟨rfl, rfl⟩
        rw [HKL.out]
        go_wp2_with fail
        refine (uvarint_any (.slice A1 l1 c1) n R _ (HB1.out _ HK.out) hv64 (by omega)).mono ?_
        rintro e w' ⟨rfl, rfl⟩
        rw [← HUU.out]
        go_wp2_with fail
        refine (HSK.out _ _ HI.out HK.out (nil_byts _)).mono ?_
        rintro e w3 ⟨rfl, hi3, hk3⟩
        have HI3 := Lib.hid hi3
        have HK3 := Lib.hid hk3
        clear hi3 hk3
        go_wp2_with fail
        go_roundw
        case rel => exact ⟨k + 1, hlt, by rw [← HR.out]; exact HB2.out, HI3.out, HK.out.trans HK3.out⟩
        case measure => simp [lenV]; omega
      | byt t b =>
        simp only [Fld.tag, Fld.val, Fld.load, Fld.kind] at ht1 ht15 hv64 hld HSK
        obtain ⟨K, hK⟩ : ∃ K, K = 8 * t + 2 := ⟨_, rfl⟩
        have hKu : uvar K = [UInt8.ofNat (8 * t + 2)] := by rw [uvar_small (by omega), hK]
        have hsplit : (Fld.byt t b).enc ++ R = uvar K ++ (uvar b.length ++ (b ++ R)) := by rw [hKu]; simp [Fld.enc, fByt]
        rw [hsplit] at HB hfl ⊢
        obtain ⟨n, hn⟩ : ∃ n, n = b.length := ⟨_, rfl⟩
        rw [← hn] at HB hfl hv64 hld HSK ⊢
        obtain ⟨l0, hl0⟩ : ∃ l, l = (uvar K ++ (uvar n ++ (b ++ R))).length := ⟨_, rfl⟩
        obtain ⟨U, hU⟩ : ∃ U, U = (uvar n).length := ⟨_, rfl⟩
        have hu10 := uvar_ten n hv64
        have hup := uvar_pos n
        have hl0e : l0 = 1 + (U + (n + R.length)) := by rw [hl0, hKu, hU, hn]; simp; omega
        rw [← hl0] at HB hfl ⊢
        rw [← hU] at hu10 hup
        obtain ⟨A1, c1, hs1, hb1⟩ := byp_from HB.out 1 (by rw [← hl0]; omega)
        have e1 : (uvar K ++ (uvar n ++ (b ++ R))).drop 1 = uvar n ++ (b ++ R) := by rw [hKu]; rfl
        rw [e1] at hb1
        obtain ⟨l1, hl1⟩ : ∃ l, l = l0 - 1 := ⟨_, rfl⟩
        rw [← hl1] at hs1 hb1
        replace hs1 : ∀ w', (Instr.slice 24 (.slice A0 l0 c0) (some (.int .i64 1)) none none).run Tryz.prog w' = .ok (.slice A1 l1 c1) w' := hs1
        obtain ⟨ue, hue⟩ : ∃ u, u = U + n := ⟨_, rfl⟩
        have hL1 : (uvar n ++ (b ++ R)).length = U + (n + R.length) := by rw [hU, hn]; simp
        obtain ⟨A3, c3, hs3, hb3⟩ := byp_of hb1 U ue (by omega) (by omega)
        have e3 : ((uvar n ++ (b ++ R)).take ue).drop U = b := by
          rw [hue, hU, List.take_length_add_append, List.drop_left, hn, List.take_left]
        rw [e3] at hb3
        obtain ⟨A2, c2, hs2, hb2⟩ := byp_from hb1 ue (by omega)
        have e2 : (uvar n ++ (b ++ R)).drop ue = R := by rw [hue, hU, List.drop_length_add_append, hn, List.drop_left]
        rw [e2] at hb2
        obtain ⟨l2, hl2⟩ : ∃ l, l = l1 - ue := ⟨_, rfl⟩
        obtain ⟨l3, hl3⟩ : ∃ l, l = ue - U := ⟨_, rfl⟩
        rw [← hl2] at hs2 hb2
        rw [← hl3] at hs3 hb3
        obtain ⟨r1, hr1⟩ : ∃ r, r = n + R.length := ⟨_, rfl⟩
        have HB1 := Lib.hid hb1
        have HB2 := Lib.hid hb2
        have HB3 := Lib.hid hb3
        obtain ⟨-, g1, g2⟩ := HB.out.len
        obtain ⟨-, g3, g4⟩ := hb1.len
        obtain ⟨-, g5, g6⟩ := hb2.len
        obtain ⟨-, g7, g8⟩ := hb3.len
        have hKl : (uvar K).length = 1 := by rw [hKu]; rfl
        have HKL := Lib.hid hKl
        have HUU := Lib.hid hU
        have fK3 : (K : Int) / 8 = (t : Int) := by omega
        have ft0 : ((t : Int) == 0) = false := by rw [beq_eq_false_iff_ne]; omega
        have ft9 : ¬ (536870911 : Int) < (t : Int) := by omega
        have hand : bits .and .u64 (K : Int) 7 = 2 := by rw [and_7 K (by omega)]; omega
        have hU0 : ¬ (U : Int) ≤ 0 := by omega
        have hsub : (l1 : Int) - (U : Int) = (r1 : Int) := by omega
        have hgt : ¬ (r1 : Int) < (n : Int) := by omega
        have hun : (U : Int) + (n : Int) = (ue : Int) := by omega
        have hU1 : (ue : Int) ≤ (l1 : Int) := by omega
        have hU2 : (U : Int) ≤ (ue : Int) := by omega
        have hl0p : 0 < l0 := by omega
        have hl01 : 1 ≤ l0 := by omega
        have hl2l : l2 < l0 := by omega
        have hl132 : l1 ≤ 1099511627000 := by omega
        have hl032 : l0 ≤ 1099511627000 := by omega
        have hr132 : r1 ≤ 1099511627000 := by omega
        have hn32 : n ≤ 4294967296 := by omega
        have hK128 : K ≤ 122 := by omega
        have hUR : (uvar n ++ (b ++ R)).length ≤ 1099511627776 := by omega
        have hBR : (b ++ R).length ≤ 1099511627776 := by rw [List.length_append]; omega
        have hK64 : K < 18446744073709551616 := by omega
        clear hl0 hl0e hl1 hl2 hl3 hb1 hb2 hb3 e1 e2 e3 hKl hU hK hKu hsplit hfl hL1 hue hr1 hn hld
        go_wp2_with fail
        refine (uvarint_any (.slice A0 l0 c0) K (uvar n ++ (b ++ R)) _ (HB.out _ HK.out) hK64 hUR).mono ?_
        rintro e w' ⟨rfl, rfl⟩
        rw [HKL.out]
        go_wp2_with fail
        refine (uvarint_any (.slice A1 l1 c1) n (b ++ R) _ (HB1.out _ HK.out) hv64 hBR).mono ?_
        rintro e w' ⟨rfl, rfl⟩
        rw [← HUU.out]
        go_wp2_with fail
        refine (HSK.out _ _ HI.out HK.out (HB3.out _ HK.out)).mono ?_
        rintro e w3 ⟨rfl, hi3, hk3⟩
        have HI3 := Lib.hid hi3
        have HK3 := Lib.hid hk3
        clear hi3 hk3
        go_wp2_with fail
        go_roundw
        case rel => exact ⟨k + 1, hlt, by rw [← HR.out]; exact HB2.out, HI3.out, HK.out.trans HK3.out⟩
        case measure => simp [lenV]; omega
    · obtain rfl : k = fs.length := by omega
      have e0 : (fs.drop fs.length).flatMap Fld.enc = [] := by rw [List.drop_eq_nil_of_le (Nat.le_refl _)]; rfl
      rw [e0] at HB ⊢
      go_wp2_with fail
      go_ret
      exact ⟨rfl, HI.out, HK.out⟩
end Go.Proofs.YtfodkjpjejoemaaGreatDoor
