/-
  Messages: a proof as a message, by the thin package and by the specification.
  Conditions: the proof reads as numbers and lists of bytes; the message has at most 2^40 bytes.
-/
import Derived.Test.YtfodkjpjejoemaaDoorMsg2
namespace Go.Proofs.YtfodkjpjejoemaaDoor
open Go Go.RowKit
attribute [local go_sem ↓] Go.wp_at_zero Go.wp_at_succ

set_option maxHeartbeats 1000000 in
theorem toProto_any (b : Nat) (p : Prf) (w : World) (h : PrfAt w b p) :
    Calls Tryd.prog 54 #[.pointer (some ⟨b, 0, none⟩)] w fun e w' => (∃ b', e = .returned (.pointer (some ⟨b', 0, none⟩)) ∧ PrfAt w' b' p) ∧ Keep w w' := by
  obtain ⟨lv, av, hc0, hc1, hc2, hc3, hlv, hav, b1, b2, b3, b4⟩ := h
  have HLV := Lib.hid hlv
  have HAV := Lib.hid hav
  obtain ⟨A0, d0, rfl, g1, g2, g3, g4⟩ := hlv
  obtain ⟨A1, d1, rfl, k1, k2, k3, k4⟩ := hav
  unfold maxLen at g2 k2
  have bw := World.block_lt_of_cell? w _ hc0
  simp only at bw
  clear g3 g4 k3 k4
  go_enter Tryd.func54, Tryd.ntmps54
  go_wp2
  go_ret
  have hk : Keep w (w.alloc (Obj.cells #[.int .i64 p.total, .int .i64 p.index, .slice A0 p.leaf.length d0, .slice A1 p.aunts.length d1] 90)) := (Kp.refl _ _).alloc _
  exact ⟨⟨w.heap.size, rfl, _, _, by simp, by simp, by simp, by simp, HLV.out.keep hk, HAV.out.keep hk, b1, b2, b3, b4⟩, hk⟩

theorem PrfAt.keep {w w' : World} {b : Nat} {p : Prf} (h : PrfAt w b p) (k : Keep w w') : PrfAt w' b p := by
  obtain ⟨lv, av, hc0, hc1, hc2, hc3, hlv, hav, h⟩ := h
  exact ⟨lv, av, k.cell_of hc0 (fun x => x), k.cell_of hc1 (fun x => x), k.cell_of hc2 (fun x => x), k.cell_of hc3 (fun x => x), hlv.keep k, hav.keep k, h⟩
theorem PrfV.at_new {w : World} {lv av : Value} {p : Prf} (t : TypeId) (h : PrfV w (.agg #[.int .i64 p.total, .int .i64 p.index, lv, av]) p) : PrfAt (w.alloc (.cells #[.int .i64 p.total, .int .i64 p.index, lv, av] t)) w.heap.size p := by
  obtain ⟨lv', av', e, hl, ha, hb⟩ := h
  simp at e
  obtain ⟨rfl, rfl⟩ := e
  have hk : Keep w (w.alloc (.cells #[.int .i64 p.total, .int .i64 p.index, lv, av] t)) := (Kp.refl _ _).alloc _
  exact ⟨lv, av, by simp, by simp, by simp, by simp, hl.keep hk, ha.keep hk, hb⟩

set_option maxHeartbeats 1000000 in
theorem implMessage_any (v : Value) (p : Prf) (w : World) (h : PrfV w v p) (hl : p.leaf.length ≤ 4294967296) (ha : ∀ a ∈ p.aunts, a.length ≤ 4294967296) (hm : (msgOf p).length ≤ 1099511626000) :
    Calls Tryd.prog 19 #[v] w fun e w' => (∃ v' B, e = .returned v' ∧ w.heap.size ≤ B ∧ Own w' B 5 v' ((msgOf p).map u8v)) ∧ Keep w w' := by
  have HH := Lib.hid h
  obtain ⟨lv, av, rfl, hlv, hav, b1, b2, b3, b4⟩ := h
  have hk0 : Keep w (w.alloc (.cells #[.int .i64 p.total, .int .i64 p.index, lv, av] 25)) := (Kp.refl _ _).alloc _
  have HK0 := Lib.hid hk0
  have HA := Lib.hid ha
  have HI := Lib.hid (implProof_any _ p _ (HH.out.keep hk0))
  obtain ⟨A0, d0, rfl, g1, g2, g3, g4⟩ := hlv
  obtain ⟨A1, d1, rfl, k1, k2, k3, k4⟩ := hav
  unfold maxLen at g2 k2
  clear g3 g4 k3 k4 hk0 ha
  go_enter Tryd.func19, Tryd.ntmps19
  go_wp2_with (first
    | (go_at_call 48
       refine HI.out.mono ?_
       rintro e w1 ⟨rfl, hk1⟩
       have HK1 := Lib.hid (HK0.out.trans hk1)
       clear hk1)
    | (go_at_call 54
       refine (toProto_any w1.heap.size p _ (PrfV.at_new 76 (HH.out.keep HK1.out))).mono ?_
       rintro e w2 ⟨⟨b2', rfl, hp2⟩, hk2⟩
       have HP2 := Lib.hid hp2
       have HK2 := Lib.hid hk2
       clear hp2 hk2)
    | (go_at_call 55
       refine (marshal_any b2' p _ HP2.out hl HA.out hm).mono ?_
       rintro e w3 ⟨v3, rfl, ho3, hk3⟩
       have HO3 := Lib.hid ho3
       have HK3 := Lib.hid hk3
       clear ho3 hk3))
  go_ret
  have hka : Keep w w2 := (HK1.out.alloc _).trans HK2.out
  exact ⟨⟨v3, _, rfl, hka.size, HO3.out⟩, hka.trans HK3.out⟩

set_option maxHeartbeats 1000000 in
theorem sized_any (x : Value) (bs : List UInt8) (w : World) (hx : Byts w x bs) (hbl : bs.length ≤ 4294967296) :
    Calls Tryd.prog 60 #[x] w fun e w' => ∃ v', e = .returned v' ∧ Own w' w.heap.size 5 v' ((uvar bs.length ++ bs).map u8v) ∧ Keep w w' := by
  have HX := Lib.hid hx
  obtain ⟨A, c, rfl, h1, h2, h3, h4⟩ := hx
  have H3 := Lib.hid h3
  have hau : asU64 (bs.length : Int) = bs.length := by unfold asU64; omega
  have HAU := Lib.hid hau
  unfold maxLen at h2
  clear h3 h4 hau
  go_enter Tryd.func60, Tryd.ntmps60
  go_wp2_with (first
    | (go_at_call 59
       refine (counted_any (bs.length : Int) w (by omega) (by omega)).mono ?_
       rintro e w1 ⟨v1, rfl, ho1, hk1⟩
       rw [HAU.out] at ho1
       have HO1 := Lib.hid ho1
       have HK1 := Lib.hid hk1
       have hul := uvar_ten bs.length (by omega)
       clear ho1 hk1)
    | (at_builtin
       refine wpList_app rfl (.tmp 5) (.tmp 6) 22 rfl appB rfl HO1.out rfl (Src.of_slc u8v (fun _ _ h => h) (HX.out.keep HK1.out)) (one1 _) (fun e => by have h5 := H3.out e; omega) (by simp; omega) HK1.out.size ?_
       intro v2 w2 ho2 hk2 _
       have HO2 := Lib.hid ho2
       have HK2 := Lib.hid hk2
       clear ho2 hk2))
  go_ret
  refine ⟨v2, rfl, ?_, HK1.out.trans' HK2.out (fun i hi e => by have h9 := (HO1.out.lt _ e.symm).1; omega)⟩
  rw [List.map_append]
  exact HO2.out

set_option maxRecDepth 100000 in
set_option maxHeartbeats 4000000 in
theorem specMessage_any (v : Value) (p : Prf) (w : World) (h : PrfV w v p) (hl : p.leaf.length ≤ 4294967296) (ha : ∀ a ∈ p.aunts, a.length ≤ 4294967296) (hm : (msgOf p).length ≤ 1099511626000) :
    Calls Tryd.prog 21 #[v] w fun e w' => (∃ v' B, e = .returned v' ∧ w.heap.size ≤ B ∧ Own w' B 5 v' ((msgOf p).map u8v)) ∧ Keep w w' := by
  have HH := Lib.hid h
  obtain ⟨lv, av, rfl, hlv, hav, b1, b2, b3, b4⟩ := h
  have hpa := PrfV.at_new 28 HH.out
  have HA := Lib.hid ha
  obtain ⟨lv', av', hc0, hc1, hc2, hc3, hlv', hav', _⟩ := hpa
  have e2 : lv' = lv := by simpa using hc2.symm
  have e3 : av' = av := by simpa using hc3.symm
  subst e2 e3
  have HK0 : Hid (Keep w (w.alloc (.cells #[.int .i64 p.total, .int .i64 p.index, lv', av'] 28))) := Lib.hid ((Kp.refl _ _).alloc _)
  have hb0 := HK0.out.size
  obtain ⟨A0, d0, rfl, g1, g2, g3, g4⟩ := hlv
  obtain ⟨A1, d1, rfl, k1, k2, k3, k4⟩ := hav
  unfold maxLen at g2 k2
  have hml : (msgOf p).length = (fNum 8 (asU64 p.total)).length + ((fNum 16 (asU64 p.index)).length + ((if p.leaf = [] then [] else fByt 26 p.leaf).length + (p.aunts.flatMap (fByt 34)).length)) := by simp [msgOf]
  have HML := Lib.hid hml
  have u0 := uvar_ten _ (asU64_lt p.total)
  have u1 := uvar_ten _ (asU64_lt p.index)
  clear g3 g4 k3 k4 hml ha
  go_enter Tryd.func21, Tryd.ntmps21
  go_upto_if 8 with fail
  generalize hw0 : World.alloc _ _ = w0
  rw [hw0] at hc0 hc1 hc2 hc3 HK0 hb0
  have HC0 := Lib.hid hc0
  have HC1 := Lib.hid hc1
  have HC2 := Lib.hid hc2
  have HC3 := Lib.hid hc3
  have HLV := Lib.hid (hlv'.keep (Kp.refl _ _))
  have HAV := Lib.hid (hav'.keep (Kp.refl _ _))
  rw [hw0] at HLV HAV
  obtain ⟨bx, hbx⟩ : ∃ b, b = w.heap.size := ⟨_, rfl⟩
  rw [← hbx] at hc0 hc1 hc2 hc3 HC0 HC1 HC2 HC3 ⊢
  have bw := World.block_lt_of_cell? w0 _ hc0
  simp only at bw
  clear hc1 hc2 hc3 hlv' hav' hw0 hb0 hbx
  go_cut [3] (fun v wc => Own wc w0.heap.size 5 v ((fNum 8 (asU64 p.total)).map u8v) ∧ Keep w0 wc)
  case first =>
    by_cases h0 : p.total = 0
    · have hz : (p.total != 0) = false := by simp [h0]
      have e0 : fNum 8 (asU64 p.total) = [] := by rw [(asU64_zero _ b1 b2).2 h0]; exact fNum_z
      have HE := Lib.hid e0
      clear h0 e0
      go_wp2_with fail
      go_meet
      exact ⟨by rw [HE.out]; exact Own.nil_ _ _ _, Kp.refl _ _⟩
    · have hz : (p.total != 0) = true := by simp [h0]
      have e0 : fNum 8 (asU64 p.total) = UInt8.ofNat 8 :: uvar (asU64 p.total) := fNum_nz (fun e => h0 ((asU64_zero _ b1 b2).1 e))
      have HE := Lib.hid e0
      clear h0 e0
      go_wp2_with fail
      go_region_held3 (fun w' => w'.cell? ⟨bx, 0, none⟩ = some (.int .i64 p.total)) (first | go_keep | exact hc0 | exact Kp.cell_of HK4.out (by assumption) (fun e => by have h9 := (HO2.out.lt _ e.symm).1; simp at h9; omega) | exact Kp.cell_of HK3.out (by assumption) (fun x => x) | exact Kp.cell_of HKX.out (by assumption) (fun e => by cases e)) (first
        | (refine step_app rfl (.tmp 9) (.tmp 10) 22 rfl appB rfl (Own.nil_ _ w0.heap.size 5) rfl (news := [.int .u8 8]) (Src.one (by simp)) (by intro u hu; simp at hu; subst hu; rfl) (fun e => by cases e) (by simp) (by simp) ?_
           intro v2 w2 h2 hk2 _
           have HO2 : Hid (Own w2 w0.heap.size 5 v2 ([UInt8.ofNat 8].map u8v)) := Lib.hid h2
           have HKX := Lib.hid hk2
           clear h2 hk2)
        | (go_at_call 59
           refine (counted_any p.total _ b1 b2).mono ?_
           rintro e w3 ⟨v3, rfl, ho3, hk3⟩
           obtain ⟨A3, c3, rfl, f1, f2, f3, f4⟩ := ho3.form
           have hl3 : ((uvar (asU64 p.total)).map u8v).length = (uvar (asU64 p.total)).length := by simp
           rw [hl3] at f1
           have HO3 := Lib.hid (Own.slc_map u8v ho3 (R := U8) fun _ _ => rfl)
           rw [hl3] at HO3 ⊢
           have HK3 := Lib.hid hk3
           have F3 := Lib.hid f3
           clear ho3 hk3 f2 f3 f4 hl3)
        | (refine step_app rfl (.tmp 11) (.tmp 14) 22 rfl appB rfl (HO2.out.keep HK3.out) rfl (Src.of_slc u8v (fun _ _ h => h) HO3.out) (one1 _) (fun e => by have h8 := F3.out e; omega) (by simp; omega) (by have h9 := HKX.out.size; have h8 := HK3.out.size; simp at h9; omega) ?_
           intro v4 w4 h4 hk4 _
           have HO4 : Hid (Own w4 w0.heap.size 5 v4 (([UInt8.ofNat 8] ++ uvar (asU64 p.total)).map u8v)) := Lib.hid (by rw [List.map_append]; exact h4)
           have HK4 := Lib.hid hk4
           clear h4 hk4))
      all_goals
        go_wp2_with fail
        go_meet
        refine ⟨by rw [HE.out]; exact HO4.out, Kp.trans' (Kp.trans (Kp.trans' (?_ : Keep w0 _) HKX.out (fun i hi e => by cases e)) HK3.out) HK4.out (fun i hi e => by have h9 := (HO2.out.lt _ e.symm).1; omega)⟩
        repeat (first | exact Kp.refl _ _ | apply Kp.drew | apply Kp.drewN | apply Kp.alloc)
  case rest =>
    obtain ⟨hown, hkw⟩ := hcut
    have HO1 := Lib.hid hown
    have HKW := Lib.hid hkw
    have hbs := hkw.size
    have hc1 := hkw.cell_of HC1.out (fun x => x)
    obtain ⟨X1, hX1⟩ : ∃ X, X = fNum 8 (asU64 p.total) := ⟨_, rfl⟩
    rw [← hX1] at HO1 HML
    have HX1 := Lib.hid hX1
    have hx1l : X1.length ≤ 1099511626000 := by have := HML.out; omega
    clear hown hkw hX1 hc0
    go_upto_if 18 with fail
    go_cut [3] (fun v wc => Own wc w0.heap.size 5 v ((X1 ++ fNum 16 (asU64 p.index)).map u8v) ∧ Keep w0 wc)
    case first =>
      by_cases h0 : p.index = 0
      · have hz : (p.index != 0) = false := by simp [h0]
        have e0 : fNum 16 (asU64 p.index) = [] := by rw [(asU64_zero _ b3 b4).2 h0]; exact fNum_z
        have HE := Lib.hid e0
        clear h0 e0
        go_wp2_with fail
        go_meet
        exact ⟨by rw [HE.out]; rw [List.append_nil]; exact HO1.out, HKW.out⟩
      · have hz : (p.index != 0) = true := by simp [h0]
        have e0 : fNum 16 (asU64 p.index) = UInt8.ofNat 16 :: uvar (asU64 p.index) := fNum_nz (fun e => h0 ((asU64_zero _ b3 b4).1 e))
        have HE := Lib.hid e0
        clear h0 e0
        go_wp2_with fail
        go_region_held3 (fun w' => w'.cell? ⟨bx, 1, none⟩ = some (.int .i64 p.index)) (first | go_keep | exact hc1 | exact Kp.cell_of HK4.out (by assumption) (fun e => by have h9 := (HO2.out.lt _ e.symm).1; simp at h9; omega) | exact Kp.cell_of HK3.out (by assumption) (fun x => x) | exact Kp.cell_of HKX.out (by assumption) (fun e => by have h9 := (HO1.out.lt _ e.symm).1; simp at h9; omega)) (first
          | (refine step_app rfl (.tmp 19) (.tmp 20) 22 rfl appB rfl (by first | exact HO1.out.alloc _ | exact Own.drew (HO1.out.alloc _) | exact Own.drewN (HO1.out.alloc _) _) rfl (news := [.int .u8 16]) (Src.one (by simp)) (by intro u hu; simp at hu; subst hu; rfl) (fun e => by cases e) (by simp; omega) (by simp; omega) ?_
             intro v2 w2 h2 hk2 _
             have HO2 : Hid (Own w2 w0.heap.size 5 v2 ((X1 ++ [UInt8.ofNat 16]).map u8v)) := Lib.hid (by rw [List.map_append]; exact h2)
             have HKX := Lib.hid hk2
             clear h2 hk2)
          | (go_at_call 59
             refine (counted_any p.index _ b3 b4).mono ?_
             rintro e w3 ⟨v3, rfl, ho3, hk3⟩
             obtain ⟨A3, c3, rfl, f1, f2, f3, f4⟩ := ho3.form
             have hl3 : ((uvar (asU64 p.index)).map u8v).length = (uvar (asU64 p.index)).length := by simp
             rw [hl3] at f1
             have HO3 := Lib.hid (Own.slc_map u8v ho3 (R := U8) fun _ _ => rfl)
             rw [hl3] at HO3 ⊢
             have HK3 := Lib.hid hk3
             have F3 := Lib.hid f3
             clear ho3 hk3 f2 f3 f4 hl3)
          | (refine step_app rfl (.tmp 21) (.tmp 24) 22 rfl appB rfl (HO2.out.keep HK3.out) rfl (Src.of_slc u8v (fun _ _ h => h) HO3.out) (one1 _) (fun e => by have h8 := F3.out e; omega) (by simp; omega) (by have h9 := HKX.out.size; have h8 := HK3.out.size; simp at h9; omega) ?_
             intro v4 w4 h4 hk4 _
             have HO4 : Hid (Own w4 w0.heap.size 5 v4 (((X1 ++ [UInt8.ofNat 16]) ++ uvar (asU64 p.index)).map u8v)) := Lib.hid (by rw [List.map_append]; exact h4)
             have HK4 := Lib.hid hk4
             clear h4 hk4))
        all_goals
          go_wp2_with fail
          go_meet
          refine ⟨by rw [HE.out]; have h8 := HO4.out; rw [List.append_assoc] at h8; exact h8, Kp.trans' (Kp.trans (Kp.trans' (?_ : Keep w0 _) HKX.out (fun i hi e => by have h9 := (HO1.out.lt _ e.symm).1; omega)) HK3.out) HK4.out (fun i hi e => by have h9 := (HO2.out.lt _ e.symm).1; omega)⟩
          repeat (first | exact Kp.refl _ _ | exact HKW.out | apply Kp.drew | apply Kp.drewN | apply Kp.alloc)
    case rest =>
      clear HO1 HKW hbs hc1
      obtain ⟨hown, hkw⟩ := hcut
      have hbs := hkw.size
      obtain ⟨X2, hX2⟩ : ∃ X, X = X1 ++ fNum 16 (asU64 p.index) := ⟨_, rfl⟩
      rw [← hX2] at hown
      have HO1 := Lib.hid hown
      have HKW := Lib.hid hkw
      have hc2 := hkw.cell_of HC2.out (fun x => x)
      have HX2 := Lib.hid hX2
      have hx2l : X2.length = X1.length + (fNum 16 (asU64 p.index)).length := by rw [hX2, List.length_append]
      have HX2L := Lib.hid hx2l
      have hx2b : X2.length ≤ 1099511626000 := by have := HML.out; omega
      clear hown hkw hX2 hx2l
      go_upto_if 29 with fail
      go_cut [3] (fun v wc => Own wc w0.heap.size 5 v ((X2 ++ (if p.leaf = [] then [] else fByt 26 p.leaf)).map u8v) ∧ Keep w0 wc)
      case first =>
        by_cases hlf : p.leaf.length = 0
        · have e0 : p.leaf = [] := List.eq_nil_of_length_eq_zero hlf
          have HE := Lib.hid e0
          have hz : ¬ 0 < p.leaf.length := by omega
          clear hlf e0
          go_wp2_with fail
          go_meet
          exact ⟨by rw [if_pos HE.out, List.append_nil]; exact HO1.out, HKW.out⟩
        · have hz : 0 < p.leaf.length := by omega
          have e0 : ¬ p.leaf = [] := fun e => by rw [e] at hlf; exact hlf rfl
          have HE := Lib.hid e0
          clear hlf e0
          go_wp2_with fail
          go_region_held3 (fun w' => w'.cell? ⟨bx, 2, none⟩ = some (.slice A0 p.leaf.length d0) ∧ Keep w0 w') (first
            | (refine ⟨by assumption, ?_⟩; repeat (first | exact HKW.out | apply Kp.drew | apply Kp.drewN))
            | (go_split_ands; refine ⟨Kp.cell_of HK4.out (by assumption) (fun e => by have h9 := (HO2.out.lt _ e.symm).1; simp at h9; omega), Kp.trans' (by assumption) HK4.out (fun i hi e => by have h9 := (HO2.out.lt _ e.symm).1; omega)⟩)
            | (go_split_ands; refine ⟨Kp.cell_of HK3.out (by assumption) (fun x => x), Kp.trans (by assumption) HK3.out⟩)
            | (go_split_ands; refine ⟨Kp.cell_of HKX.out (by assumption) (fun e => by have h9 := (HO1.out.lt _ e.symm).1; simp at h9; omega), Kp.trans' (by assumption) HKX.out (fun i hi e => by have h9 := (HO1.out.lt _ e.symm).1; omega)⟩)
            | (go_split_ands; refine ⟨?_, Kp.alloc (by assumption) _⟩; go_keep)) (first
            | (refine step_app rfl (.tmp 30) (.tmp 31) 22 rfl appB rfl (by first | exact HO1.out.alloc _ | exact Own.drew (HO1.out.alloc _) | exact Own.drewN (HO1.out.alloc _) _) rfl (news := [.int .u8 26]) (Src.one (by simp)) (by intro u hu; simp at hu; subst hu; rfl) (fun e => by cases e) (by simp; omega) (by simp; omega) ?_
               intro v2 w2 h2 hk2 _
               have HO2 : Hid (Own w2 w0.heap.size 5 v2 ((X2 ++ [UInt8.ofNat 26]).map u8v)) := Lib.hid (by rw [List.map_append]; exact h2)
               have HKX := Lib.hid hk2
               clear h2 hk2)
            | (go_at_call 60
               go_split_ands
               refine (sized_any _ p.leaf _ (HLV.out.keep (by assumption)) hl).mono ?_
               rintro e w3 ⟨v3, rfl, ho3, hk3⟩
               obtain ⟨A3, c3, rfl, f1, f2, f3, f4⟩ := ho3.form
               have hl3 : ((uvar p.leaf.length ++ p.leaf).map u8v).length = (uvar p.leaf.length).length + p.leaf.length := by simp
               rw [hl3] at f1
               have hul := uvar_ten p.leaf.length (by omega)
               have HO3 := Lib.hid (Own.slc_map u8v ho3 (R := U8) fun _ _ => rfl)
               rw [hl3] at HO3 ⊢
               have HK3 := Lib.hid hk3
               have F3 := Lib.hid f3
               clear ho3 hk3 f2 f3 f4 hl3)
            | (refine step_app rfl (.tmp 32) (.tmp 35) 22 rfl appB rfl (HO2.out.keep HK3.out) rfl (Src.of_slc u8v (fun _ _ h => h) HO3.out) (one1 _) (fun e => by have h8 := F3.out e; omega) (by simp; omega) (by have h9 := HKX.out.size; have h8 := HK3.out.size; simp at h9; omega) ?_
               intro v4 w4 h4 hk4 _
               have HO4 : Hid (Own w4 w0.heap.size 5 v4 ((X2 ++ [UInt8.ofNat 26] ++ (uvar p.leaf.length ++ p.leaf)).map u8v)) := Lib.hid (by rw [List.map_append]; exact h4)
               have HK4 := Lib.hid hk4
               clear h4 hk4))
          all_goals
            go_split_ands
            go_wp2_with fail
            go_meet
            refine ⟨by rw [if_neg HE.out]; have h8 := HO4.out; rw [List.append_assoc] at h8; exact h8, by assumption⟩
      case rest =>
        clear HO1 HKW hbs hc2
        obtain ⟨hown, hkw⟩ := hcut
        have hbs := hkw.size
        obtain ⟨X3, hX3⟩ : ∃ X, X = X2 ++ (if p.leaf = [] then [] else fByt 26 p.leaf) := ⟨_, rfl⟩
        rw [← hX3] at hown
        have HO1 := Lib.hid hown
        have HKW := Lib.hid hkw
        have hc3 := hkw.cell_of HC3.out (fun x => x)
        have HX3 := Lib.hid hX3
        have hx3b : X3.length + (p.aunts.flatMap (fByt 34)).length ≤ 1099511626000 := by have h1 := HML.out; have h2 := HX2L.out; rw [hX3, List.length_append]; omega
        clear hown hkw hX3
        go_wp2_with fail
        go_loopw [3, 40] (fun v i wr => ∃ k : Nat, k ≤ p.aunts.length ∧ i = .int .i64 k ∧ Own wr w0.heap.size 5 v ((X3 ++ (p.aunts.take k).flatMap (fByt 34)).map u8v) ∧ Keep w0 wr) (fun _ i _ => p.aunts.length - (intOf i).toNat)
        case atStart => exact ⟨0, Nat.zero_le _, rfl, by simpa using HO1.out, HKW.out⟩
        case round =>
          obtain ⟨k, hk, rfl, hown, hkr⟩ := hrel
          have HOW := Lib.hid hown
          have HKR := Lib.hid hkr
          have hbr := hkr.size
          have hft := flat_take_le p.aunts (fByt 34) k
          clear hown hkr HO1 HKW hc3 hbs
          by_cases hlt : k < p.aunts.length
          · obtain ⟨A1', c1', e1, f1, f2, f3, f4⟩ := HAV.out
            simp only [Value.slice.injEq] at e1
            obtain ⟨rfl, -, rfl⟩ := e1
            obtain ⟨ab, aoff, rfl, hcell⟩ := f4 (by omega)
            obtain ⟨u, hu, hub⟩ := hcell k hlt
            have hu2 := HKR.out.cell_of hu (fun x => x)
            have HUB := Lib.hid hub
            have HAK := Lib.hid (HA.out _ (List.getElem_mem hlt))
            have HFS := Lib.hid (flat_take_succ p.aunts (fByt 34) k hlt)
            have hal := HAK.out
            obtain ⟨F, hF⟩ : ∃ F, F = (p.aunts.take k).flatMap (fByt 34) := ⟨_, rfl⟩
            rw [← hF] at HOW HFS hft
            have hfl : X3.length + F.length ≤ 1099511626000 := by omega
            clear hcell hub f1 f2 f3 f4 hF hft
            go_wp2_with (first
              | (at_builtin
                 refine wpList_app rfl (.tmp 44) (.tmp 45) 22 rfl appB rfl (HOW.out.alloc _) rfl (news := [.int .u8 34]) (Src.one (by simp)) (by intro u hu; simp at hu; subst hu; rfl) (fun e => by cases e) (by simp; omega) (by simp; omega) ?_
                 intro v2 w2 h2 hk2 _
                 have HO2 : Hid (Own w2 w0.heap.size 5 v2 ((X3 ++ F ++ [UInt8.ofNat 34]).map u8v)) := Lib.hid (by rw [List.map_append]; exact h2)
                 have HK2 : Hid (Keep w0 w2) := Lib.hid ((HKR.out.alloc _).trans' hk2 (fun i hi e => by have h9 := (HOW.out.lt _ e.symm).1; omega))
                 clear h2 hk2)
              | (go_at_call 60
                 refine (sized_any _ p.aunts[k] _ (HUB.out.keep HK2.out) hal).mono ?_
                 rintro e w3 ⟨v3, rfl, ho3, hk3⟩
                 obtain ⟨A3, c3, rfl, f1, f2, f3, f4⟩ := ho3.form
                 have hl3 : ((uvar p.aunts[k].length ++ p.aunts[k]).map u8v).length = (uvar p.aunts[k].length).length + p.aunts[k].length := by simp
                 rw [hl3] at f1
                 have hul := uvar_ten p.aunts[k].length (by omega)
                 have HO3 := Lib.hid (Own.slc_map u8v ho3 (R := U8) fun _ _ => rfl)
                 rw [hl3] at HO3 ⊢
                 have HK3 := Lib.hid hk3
                 have F3 := Lib.hid f3
                 clear ho3 hk3 f2 f3 f4 hl3)
              | (at_builtin
                 refine wpList_app rfl (.tmp 46) (.tmp 48) 22 rfl appB rfl (HO2.out.keep HK3.out) rfl (Src.of_slc u8v (fun _ _ h => h) HO3.out) (one1 _) (fun e => by have h8 := F3.out e; omega) (by simp; omega) (by have h9 := HK2.out.size; have h8 := HK3.out.size; omega) ?_
                 intro v4 w4 h4 hk4 _
                 have HO4 : Hid (Own w4 w0.heap.size 5 v4 ((X3 ++ F ++ [UInt8.ofNat 34] ++ (uvar p.aunts[k].length ++ p.aunts[k])).map u8v)) := Lib.hid (by rw [List.map_append]; exact h4)
                 have HK4 : Hid (Keep w0 w4) := Lib.hid ((HK2.out.trans HK3.out).trans' hk4 (fun i hi e => by have h9 := (HO2.out.lt _ e.symm).1; omega))
                 clear h4 hk4))
            go_roundw
            case rel => exact ⟨k + 1, by omega, by go_num, by rw [HFS.out]; have h8 := HO4.out; simp only [List.append_assoc] at h8 ⊢; exact h8, HK4.out⟩
            case measure => simp [intOf]; omega
          · obtain rfl : k = p.aunts.length := by omega
            obtain ⟨A9, c9, e9, _⟩ := HOW.out.form
            go_wp2_with fail
            go_ret
            refine ⟨⟨_, w0.heap.size, rfl, HK0.out.size, ?_⟩, HK0.out.trans HKR.out⟩
            have h1 := HOW.out
            rw [List.take_of_length_le (Nat.le_refl _), HX3.out, HX2.out, HX1.out] at h1
            rw [show msgOf p = fNum 8 (asU64 p.total) ++ fNum 16 (asU64 p.index) ++ (if p.leaf = [] then [] else fByt 26 p.leaf) ++ p.aunts.flatMap (fByt 34) by simp [msgOf]]
            exact h1
end Go.Proofs.YtfodkjpjejoemaaDoor
