/-
  Messages: a proof as a message, by the package.
  Conditions: the proof is known in memory; the message has at most 2^40 bytes.
-/
import Derived.Test.YtfodkjpjejoemaaDoorMsg1
import Derived.Deep.DeepCutAuto
namespace Go.Proofs.YtfodkjpjejoemaaDoor
open Go Go.RowKit
attribute [local go_sem ↓] Go.wp_at_zero Go.wp_at_succ

theorem wrap_asU64 (z : Int) : IntKind.u64.wrap z = (asU64 z : Int) := by simp [IntKind.wrap, IntKind.bits, IntKind.signed]; unfold asU64; omega
theorem fNum_nz {tag n : Nat} (h : n ≠ 0) : fNum tag n = UInt8.ofNat tag :: uvar n := by unfold fNum; rw [if_neg h]
theorem fNum_z {tag : Nat} : fNum tag 0 = [] := by unfold fNum; rw [if_pos rfl]

/-- what was there when the call began stays where only newer blocks are written -/
theorem Byts.byp' {w w1 : World} {v : Value} {L : List UInt8} (h1 : Byts w1 v L) (B : Nat) (h : Byts w v L) (k : Keep w w1) (hB : B = w.heap.size := by rfl) : Byp w1 (fun i => B ≤ i) v L := fun wx kx => by
  subst hB
  obtain ⟨A, c, hv, a1, a2, a3, a4⟩ := h
  refine ⟨A, c, hv, a1, a2, a3, fun hn => ?_⟩
  obtain ⟨b', off, hA, hc⟩ := a4 hn
  refine ⟨b', off, hA, fun i hi => ?_⟩
  obtain ⟨u, hu, hr⟩ := hc i hi
  exact ⟨u, kx.cell_of (k.cell_of hu (fun x => x)) (fun e => by have := World.block_lt_of_cell? w _ hu; simp at e this; omega), hr⟩
theorem flat_take_le (L : List (List UInt8)) (f : List UInt8 → List UInt8) (k : Nat) : ((L.take k).flatMap f).length ≤ (L.flatMap f).length := by
  conv => rhs; rw [← List.take_append_drop k L]
  rw [List.flatMap_append, List.length_append]; omega
theorem flat_take_succ (L : List (List UInt8)) (f : List UInt8 → List UInt8) (k : Nat) (h : k < L.length) : (L.take (k + 1)).flatMap f = (L.take k).flatMap f ++ f L[k] := by
  rw [List.take_succ_eq_append_getElem h, List.flatMap_append]; simp

set_option maxRecDepth 100000 in
set_option maxHeartbeats 4000000 in
theorem marshal_any (b : Nat) (p : Prf) (w : World) (h : PrfAt w b p) (hl : p.leaf.length ≤ 4294967296) (ha : ∀ a ∈ p.aunts, a.length ≤ 4294967296) (hm : (msgOf p).length ≤ 1099511626000) :
    Calls Tryd.prog 55 #[.pointer (some ⟨b, 0, none⟩)] w fun e w' => ∃ v', e = .returned v' ∧ Own w' w.heap.size 5 v' ((msgOf p).map u8v) ∧ Keep w w' := by
  obtain ⟨lv, av, hc0, hc1, hc2, hc3, hlv, hav, b1, b2, b3, b4⟩ := h
  have HC0 := Lib.hid hc0
  have HC1 := Lib.hid hc1
  have HC2 := Lib.hid hc2
  have HC3 := Lib.hid hc3
  have HLV := Lib.hid hlv
  have HAV := Lib.hid hav
  have HA := Lib.hid ha
  obtain ⟨A0, d0, rfl, g1, g2, g3, g4⟩ := hlv
  obtain ⟨A1, d1, rfl, k1, k2, k3, k4⟩ := hav
  unfold maxLen at g2 k2
  have hml : (msgOf p).length = (fNum 8 (asU64 p.total)).length + ((fNum 16 (asU64 p.index)).length + ((if p.leaf = [] then [] else fByt 26 p.leaf).length + (p.aunts.flatMap (fByt 34)).length)) := by simp [msgOf]
  have HML := Lib.hid hml
  have ww0 := wrap_asU64 p.total
  have ww1 := wrap_asU64 p.index
  have u0 := uvar_ten _ (asU64_lt p.total)
  have u1 := uvar_ten _ (asU64_lt p.index)
  have bw := World.block_lt_of_cell? w _ hc0
  simp only at bw
  clear g3 g4 k3 k4 hml ha hc1 hc2 hc3
  go_enter Tryd.func55, Tryd.ntmps55
  go_upto_if 10 with fail
  go_cut [3] (fun v wc => Own wc w.heap.size 5 v ((fNum 8 (asU64 p.total)).map u8v) ∧ Keep w wc)
  case first =>
    by_cases h0 : p.total = 0
    · have hz : (p.total != 0) = false := by simp [h0]
      have e0 : fNum 8 (asU64 p.total) = [] := by rw [(asU64_zero _ b1 b2).2 h0]; exact fNum_z
      have HE := Lib.hid e0
      clear h0 e0
      go_wp2_with fail
      go_meet
      exact ⟨by rw [HE.out]; exact Own.nil_ _ _ _, Kp.refl _ _⟩
    · have hz : (p.total != 0) = true := by simp [h0]
      have e0 : fNum 8 (asU64 p.total) = UInt8.ofNat 8 :: uvar (asU64 p.total) := fNum_nz (fun e => h0 ((asU64_zero _ b1 b2).1 e))
      have HE := Lib.hid e0
      clear h0 e0
      go_wp2_with fail
      go_region_held3 (fun w' => w'.cell? ⟨b, 0, none⟩ = some (.int .i64 p.total)) (first | go_keep | exact Kp.cell_of HK3.out (by assumption) (fun e => by simp at e; omega) | exact Kp.cell_of HKX.out (by assumption) (fun e => by cases e)) (first
        | (refine step_app rfl (.tmp 11) (.tmp 12) 22 rfl appB rfl (Own.nil_ _ w.heap.size 5) rfl (news := [.int .u8 8]) (Src.one (by simp)) (by intro u hu; simp at hu; subst hu; rfl) (fun e => by cases e) (by simp) (by simp) ?_
           intro v2 w2 h2 hk2 _
           have HO2 : Hid (Own w2 w.heap.size 5 v2 ([UInt8.ofNat 8].map u8v)) := Lib.hid h2
           have HKX := Lib.hid hk2
           clear h2 hk2)
        | (go_at_call 84
           refine (appendUvarint_any w.heap.size _ [UInt8.ofNat 8] (asU64 p.total) _ HO2.out (asU64_lt _) (by simp) (by have h9 := HKX.out.size; simp at h9; omega)).mono ?_
           rintro e w3 ⟨v3, rfl, ho3, hk3⟩
           have HO3 := Lib.hid ho3
           have HK3 := Lib.hid hk3
           clear ho3 hk3))
      all_goals
        go_wp2_with fail
        go_meet
        refine ⟨by rw [HE.out]; exact HO3.out, Kp.trans' (Kp.trans' (?_ : Keep w _) HKX.out (fun i hi e => by cases e)) HK3.out (fun i hi e => by omega)⟩
        repeat (first | exact Kp.refl _ _ | apply Kp.drew | apply Kp.drewN | apply Kp.alloc)
  case rest =>
    obtain ⟨hown, hkw⟩ := hcut
    have HO1 := Lib.hid hown
    have HKW := Lib.hid hkw
    have hbs := hkw.size
    have hc1 := hkw.cell_of HC1.out (fun x => x)
    obtain ⟨X1, hX1⟩ : ∃ X, X = fNum 8 (asU64 p.total) := ⟨_, rfl⟩
    rw [← hX1] at HO1 HML
    have HX1 := Lib.hid hX1
    have hx1l : X1.length ≤ 1099511626000 := by have := HML.out; omega
    clear hown hkw hX1
    go_upto_if 24 with fail
    go_cut [3] (fun v wc => Own wc w.heap.size 5 v ((X1 ++ fNum 16 (asU64 p.index)).map u8v) ∧ Keep w wc)
    case first =>
      by_cases h0 : p.index = 0
      · have hz : (p.index != 0) = false := by simp [h0]
        have e0 : fNum 16 (asU64 p.index) = [] := by rw [(asU64_zero _ b3 b4).2 h0]; exact fNum_z
        have HE := Lib.hid e0
        clear h0 e0
        go_wp2_with fail
        go_meet
        exact ⟨by rw [HE.out]; rw [List.append_nil]; exact HO1.out, HKW.out⟩
      · have hz : (p.index != 0) = true := by simp [h0]
        have e0 : fNum 16 (asU64 p.index) = UInt8.ofNat 16 :: uvar (asU64 p.index) := fNum_nz (fun e => h0 ((asU64_zero _ b3 b4).1 e))
        have HE := Lib.hid e0
        clear h0 e0
        go_wp2_with fail
        go_region_held3 (fun w' => w'.cell? ⟨b, 1, none⟩ = some (.int .i64 p.index)) (first | go_keep | exact Kp.cell_of HK3.out (by assumption) (fun e => by simp at e; omega) | exact Kp.cell_of HKX.out (by assumption) (fun e => by have h9 := (HO1.out.lt _ e.symm).1; simp at h9; omega)) (first
          | (refine step_app rfl (.tmp 25) (.tmp 26) 22 rfl appB rfl (by first | exact HO1.out.alloc _ | exact Own.drew (HO1.out.alloc _) | exact Own.drewN (HO1.out.alloc _) _) rfl (news := [.int .u8 16]) (Src.one (by simp)) (by intro u hu; simp at hu; subst hu; rfl) (fun e => by cases e) (by simp; omega) (by simp; omega) ?_
             intro v2 w2 h2 hk2 _
             have HO2 : Hid (Own w2 w.heap.size 5 v2 ((X1 ++ [UInt8.ofNat 16]).map u8v)) := Lib.hid (by rw [List.map_append]; exact h2)
             have HKX := Lib.hid hk2
             clear h2 hk2)
          | (go_at_call 84
             refine (appendUvarint_any w.heap.size _ (X1 ++ [UInt8.ofNat 16]) (asU64 p.index) _ HO2.out (asU64_lt _) (by simp; omega) (by have h9 := HKX.out.size; simp at h9; omega)).mono ?_
             rintro e w3 ⟨v3, rfl, ho3, hk3⟩
             have HO3 := Lib.hid ho3
             have HK3 := Lib.hid hk3
             clear ho3 hk3))
        all_goals
          go_wp2_with fail
          go_meet
          refine ⟨by rw [HE.out]; have h8 := HO3.out; rw [List.append_assoc] at h8; exact h8, Kp.trans' (Kp.trans' (?_ : Keep w _) HKX.out (fun i hi e => by have h9 := (HO1.out.lt _ e.symm).1; omega)) HK3.out (fun i hi e => by omega)⟩
          repeat (first | exact Kp.refl _ _ | exact HKW.out | apply Kp.drew | apply Kp.drewN | apply Kp.alloc)
    case rest =>
      clear HO1 HKW hbs hc1
      obtain ⟨hown, hkw⟩ := hcut
      have hbs := hkw.size
      obtain ⟨X2, hX2⟩ : ∃ X, X = X1 ++ fNum 16 (asU64 p.index) := ⟨_, rfl⟩
      rw [← hX2] at hown
      have HO1 := Lib.hid hown
      have HKW := Lib.hid hkw
      have hc2 := hkw.cell_of HC2.out (fun x => x)
      have HX2 := Lib.hid hX2
      have hx2l : X2.length = X1.length + (fNum 16 (asU64 p.index)).length := by rw [hX2, List.length_append]
      have HX2L := Lib.hid hx2l
      have hx2b : X2.length ≤ 1099511626000 := by have := HML.out; omega
      clear hown hkw hX2 hx2l
      go_upto_if 39 with fail
      go_cut [3] (fun v wc => Own wc w.heap.size 5 v ((X2 ++ (if p.leaf = [] then [] else fByt 26 p.leaf)).map u8v) ∧ Keep w wc)
      case first =>
        by_cases hlf : p.leaf.length = 0
        · have e0 : p.leaf = [] := List.eq_nil_of_length_eq_zero hlf
          have HE := Lib.hid e0
          have hz : ¬ 0 < p.leaf.length := by omega
          clear hlf e0
          go_wp2_with fail
          go_meet
          exact ⟨by rw [if_pos HE.out, List.append_nil]; exact HO1.out, HKW.out⟩
        · have hz : 0 < p.leaf.length := by omega
          have e0 : ¬ p.leaf = [] := fun e => by rw [e] at hlf; exact hlf rfl
          have HE := Lib.hid e0
          clear hlf e0
          go_wp2_with (go_at_call 85
                       refine (putBytes_any w.heap.size _ _ X2 p.leaf 3 _ HO1.out ((HLV.out.keep HKW.out).byp' w.heap.size (HLV.out) HKW.out) (by omega) (by omega) hl hbs).mono ?_
                       rintro e w3 ⟨v3, rfl, ho3, hk3⟩
                       have HO3 := Lib.hid ho3
                       have HK3 := Lib.hid hk3
                       clear ho3 hk3)
          go_meet
          exact ⟨by rw [if_neg HE.out]; exact HO3.out, HKW.out.trans' HK3.out (fun i hi e => by omega)⟩
      case rest =>
        clear HO1 HKW hbs hc2
        obtain ⟨hown, hkw⟩ := hcut
        have hbs := hkw.size
        obtain ⟨X3, hX3⟩ : ∃ X, X = X2 ++ (if p.leaf = [] then [] else fByt 26 p.leaf) := ⟨_, rfl⟩
        rw [← hX3] at hown
        have HO1 := Lib.hid hown
        have HKW := Lib.hid hkw
        have hc3 := hkw.cell_of HC3.out (fun x => x)
        have HX3 := Lib.hid hX3
        have hx3b : X3.length + (p.aunts.flatMap (fByt 34)).length ≤ 1099511626000 := by have h1 := HML.out; have h2 := HX2L.out; rw [hX3, List.length_append]; omega
        clear hown hkw hX3
        go_wp2_with fail
        go_loopw [3, 51] (fun v i wr => ∃ k : Nat, k ≤ p.aunts.length ∧ i = .int .i64 k ∧ Own wr w.heap.size 5 v ((X3 ++ (p.aunts.take k).flatMap (fByt 34)).map u8v) ∧ Keep w wr) (fun _ i _ => p.aunts.length - (intOf i).toNat)
        case atStart => exact ⟨0, Nat.zero_le _, rfl, by simpa using HO1.out, HKW.out⟩
        case round =>
          obtain ⟨k, hk, rfl, hown, hkr⟩ := hrel
          have HOW := Lib.hid hown
          have HKR := Lib.hid hkr
          have hbr := hkr.size
          have hft := flat_take_le p.aunts (fByt 34) k
          clear hown hkr HO1 HKW hc3 hbs
          by_cases hlt : k < p.aunts.length
          · obtain ⟨A1', c1', e1, f1, f2, f3, f4⟩ := HAV.out
            simp only [Value.slice.injEq] at e1
            obtain ⟨rfl, -, rfl⟩ := e1
            obtain ⟨ab, aoff, rfl, hcell⟩ := f4 (by omega)
            obtain ⟨u, hu, hub⟩ := hcell k hlt
            have hu2 := HKR.out.cell_of hu (fun x => x)
            have HUB := Lib.hid hub
            have HAK := Lib.hid (HA.out _ (List.getElem_mem hlt))
            have HFS := Lib.hid (flat_take_succ p.aunts (fByt 34) k hlt)
            clear hcell hub f1 f2 f3 f4
            go_wp2_with (go_at_call 85
                         refine (putBytes_any w.heap.size _ _ (X3 ++ (p.aunts.take k).flatMap (fByt 34)) p.aunts[k] 4 _ HOW.out ((HUB.out.keep HKR.out).byp' w.heap.size HUB.out HKR.out) (by omega) (by rw [List.length_append]; omega) HAK.out hbr).mono ?_
                         rintro e w3 ⟨v3, rfl, ho3, hk3⟩
                         have HO3 := Lib.hid ho3
                         have HK3 := Lib.hid hk3
                         clear ho3 hk3)
            go_roundw
            case rel => exact ⟨k + 1, by omega, by go_num, by rw [HFS.out, ← List.append_assoc]; exact HO3.out, HKR.out.trans' HK3.out (fun i hi e => by omega)⟩
            case measure => simp [intOf]; omega
          · obtain rfl : k = p.aunts.length := by omega
            obtain ⟨A9, c9, e9, _⟩ := HOW.out.form
            go_wp2_with fail
            go_ret
            refine ⟨_, rfl, ?_, HKR.out⟩
            have h1 := HOW.out
            rw [List.take_of_length_le (Nat.le_refl _), HX3.out, HX2.out, HX1.out] at h1
            rw [show msgOf p = fNum 8 (asU64 p.total) ++ fNum 16 (asU64 p.index) ++ (if p.leaf = [] then [] else fByt 26 p.leaf) ++ p.aunts.flatMap (fByt 34) by simp [msgOf]]
            exact h1
end Go.Proofs.YtfodkjpjejoemaaDoor
