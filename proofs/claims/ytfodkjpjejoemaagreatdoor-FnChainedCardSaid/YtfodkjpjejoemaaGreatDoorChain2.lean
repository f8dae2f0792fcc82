
/-
  Chains: an operation as a message, written.
  Conditions: the operation's key reads as bytes, not none; its proof lies in a block.
-/
import Derived.Test.YtfodkjpjejoemaaGreatDoorChain0
import Derived.Test.YtfodkjpjejoemaaGreatDoorZu
namespace Go.Proofs.YtfodkjpjejoemaaGreatDoor
open Go Go.RowKit
attribute [local go_sem ↓] Go.wp_at_zero Go.wp_at_succ

/-- where an appended slice lies: in the old one's block, or in a new one -/
def Near (w : World) (v v' : Value) : Prop := v'.ownBlock = v.ownBlock ∨ ∃ b, v'.ownBlock = some b ∧ w.heap.size ≤ b
theorem Near.refl (w : World) (v : Value) : Near w v v := .inl rfl
theorem Near.step {w wr : World} {v v1 v2 : Value} (h : Near w v v1) (hs : w.heap.size ≤ wr.heap.size) (h2 : v2.ownBlock = v1.ownBlock ∨ v2.ownBlock = some wr.heap.size) : Near w v v2 := by
  rcases h2 with h2 | h2
  · rcases h with h | ⟨b, h, hb⟩
    · exact .inl (h2.trans h)
    · exact .inr ⟨b, h2.trans h, hb⟩
  · exact .inr ⟨_, h2, hs⟩
theorem Near.kp {w wr w2 : World} {v v1 : Value} (h : Near w v v1) (k : Kp (fun i => some i = v.ownBlock) w wr) (k2 : Kp (fun i => some i = v1.ownBlock) wr w2) : Kp (fun i => some i = v.ownBlock) w w2 :=
  k.trans' k2 fun i hi e => by
    rcases h with h | ⟨b, h, hb⟩
    · rw [e, h]
    · rw [h] at e; simp at e; omega
theorem Near.trans {w wr : World} {v v1 v2 : Value} (h : Near w v v1) (hs : w.heap.size ≤ wr.heap.size) (h2 : Near wr v1 v2) : Near w v v2 := by
  rcases h2 with h2 | ⟨b, h2, hb⟩
  · rcases h with h | ⟨b, h, hb⟩
    · exact .inl (h2.trans h)
    · exact .inr ⟨b, h2.trans h, hb⟩
  · exact .inr ⟨b, h2, by omega⟩

set_option maxHeartbeats 1000000 in
theorem appendUvarint_at (base : Nat) (v : Value) (xs : List UInt8) (n : Nat) (w : World) (ho : Own w base 5 v (xs.map u8v)) (hn : n < 18446744073709551616) (hl : xs.length ≤ 1099511627776) (hb : base ≤ w.heap.size) :
    Calls Tryz.prog 55 #[v, .int .u64 n] w fun e w' => ∃ v', e = .returned v' ∧ Own w' base 5 v' ((xs ++ uvar n).map u8v) ∧ Kp (fun i => some i = v.ownBlock) w w' ∧ Near w v v' := by
  have HO := Lib.hid ho
  have HN10 := Lib.hid (uvar_ten n hn)
  obtain ⟨v0, hv0⟩ : ∃ v0, v0 = v := ⟨_, rfl⟩
  rw [show (fun (e : Ending) (w' : World) => ∃ v', e = .returned v' ∧ Own w' base 5 v' ((xs ++ uvar n).map u8v) ∧ Kp (fun i => some i = v.ownBlock) w w' ∧ Near w v v') = (fun e w' => ∃ v', e = .returned v' ∧ Own w' base 5 v' ((xs ++ uvar n).map u8v) ∧ Kp (fun i => some i = v0.ownBlock) w w' ∧ Near w v0 v') by rw [hv0]]
  have HV0 : Hid (Near w v0 v) := Lib.hid (by rw [hv0]; exact Near.refl _ _)
  clear ho hv0
  go_enter Tryz.func55, Tryz.ntmps55
  go_wp2_with fail
  go_loopw [0, 1] (fun v u wr => ∃ (done : List UInt8) (m : Nat), Own wr base 5 v ((xs ++ done).map u8v) ∧ u = .int .u64 m ∧ done ++ uvar m = uvar n ∧ m < 18446744073709551616 ∧ Kp (fun i => some i = v0.ownBlock) w wr ∧ Near w v0 v) (fun _ u _ => (intOf u).toNat)
  case atStart => exact ⟨[], n, by simpa using HO.out, rfl, rfl, hn, Kp.refl _ _, HV0.out⟩
  case round =>
    obtain ⟨done, m, hown, rfl, hd, hm, hkp, hnr⟩ := hrel
    have HW := Lib.hid hown
    have HD := Lib.hid hd
    have HK := Lib.hid hkp
    have HNR := Lib.hid hnr
    have hdl : done.length ≤ 10 := by have h1 := HN10.out; rw [← hd, List.length_append] at h1; omega
    obtain ⟨A1, c1, rfl, f1, f2, f3, f4⟩ := hown.form
    have hll : ((xs ++ done).map u8v).length = xs.length + done.length := by simp
    have HLL := Lib.hid hll
    rw [hll] at f1 HW HNR ⊢
    unfold maxLen at f2
    clear hown hd hkp f3 f4 hll hnr
    by_cases hb128 : m < 128
    · have hbi : ¬ (128 : Int) ≤ (m : Int) := by omega
      have e1 : (m : Int) % 256 = ((m : Nat) : Int) := by omega
      go_wp2_with (at_builtin
                   rw [u8v_of (x := m) (by omega) (by omega)]
                   refine wpList_app rfl (.tmp 15) (.tmp 18) 24 rfl appB rfl (HW.out.alloc _) rfl (oneB _ _) (one1 [_]) (fun e => by cases e) (by rw [HLL.out]; omega) (by have := HK.out.size; simp; omega) ?_
                   intro v2 w2 h2 hk2 hn2
                   have HO2 := Lib.hid h2
                   have HK2 := Lib.hid (HNR.out.kp (HK.out.alloc _) hk2)
                   have HN2 := Lib.hid (HNR.out.step (HK.out.alloc _).size hn2)
                   clear h2 hk2 hn2)
      go_ret
      refine ⟨v2, rfl, ?_, HK2.out, HN2.out⟩
      have h1 := HO2.out
      rw [← List.map_append, List.append_assoc, ← uvar_small hb128, HD.out, List.map_append] at h1
      exact h1
    · have hbi : (128 : Int) ≤ (m : Int) := by omega
      have hm2 : m / 128 < 18446744073709551616 := by omega
      go_wp2_with (at_builtin
                   rw [u8_or_128 m, u8v_of (x := m % 128 + 128) (by omega) rfl]
                   refine wpList_app rfl (.tmp 7) (.tmp 11) 24 rfl appB rfl (HW.out.alloc _) rfl (oneB _ _) (one1 [_]) (fun e => by cases e) (by rw [HLL.out]; omega) (by have := HK.out.size; simp; omega) ?_
                   intro v2 w2 h2 hk2 hn2
                   have HO2 := Lib.hid h2
                   have HK2 := Lib.hid (HNR.out.kp (HK.out.alloc _) hk2)
                   have HN2 := Lib.hid (HNR.out.step (HK.out.alloc _).size hn2)
                   clear h2 hk2 hn2)
      go_roundw
      case rel =>
        refine ⟨done ++ [UInt8.ofNat (m % 128 + 128)], m / 128, ?_, by first | rfl | go_num, ?_, hm2, HK2.out, HN2.out⟩
        · have h1 := HO2.out
          rw [← List.map_append, List.append_assoc] at h1
          exact h1
        · rw [List.append_assoc, List.cons_append, List.nil_append, ← uvar_big hb128]; exact HD.out
      case measure => simp [intOf]; omega

set_option maxHeartbeats 1000000 in
theorem putBytes_at (base : Nat) (v x : Value) (xs bs : List UInt8) (w : World) (ho : Own w base 5 v (xs.map u8v)) (hx : Byp w (fun i => some i = v.ownBlock) x bs) (hl : xs.length ≤ 1099511627000) (hbl : bs.length ≤ 4294967296) (hb : base ≤ w.heap.size) :
    Calls Tryz.prog 42 #[v, .int .i64 2, x] w fun e w' => ∃ v', e = .returned v' ∧ Own w' base 5 v' ((xs ++ fByt 18 bs).map u8v) ∧ Kp (fun i => some i = v.ownBlock) w w' := by
  have HO := Lib.hid ho
  have HX := Lib.hid hx
  obtain ⟨A, c, rfl, h1, h2, h3, h4⟩ := hx.at_
  obtain ⟨n, hn⟩ : ∃ n, n = bs.length := ⟨_, rfl⟩
  have HN := Lib.hid hn
  rw [← hn] at h1 HX ⊢
  have hnl : n ≤ 4294967296 := by omega
  have H3 := Lib.hid h3
  obtain ⟨A1, c1, rfl, f1, f2, f3, f4⟩ := ho.form
  have hll : (xs.map u8v).length = xs.length := by simp
  rw [hll] at f1 HO HX ⊢
  unfold maxLen at f2 h2
  have hl2 : xs.length ≤ 1099511627000 := hl
  have HLL := Lib.hid hll
  clear ho hx hn h3 h4 f3 f4 hll hbl hl
  have b2 : bits .or .i64 16 2 = 18 := by decide
  have hnc : n ≤ c := h1
  go_enter Tryz.func42, Tryz.ntmps42
  go_wp2_with (first
    | (at_builtin
       refine wpList_app rfl (.tmp 7) (.tmp 12) 24 rfl appB rfl (HO.out.alloc _) rfl (news := [.int .u8 18]) (Src.one (by simp)) (by intro u hu; simp at hu; subst hu; rfl) (fun e => by cases e) (by rw [HLL.out]; omega) (by simp; omega) ?_
       intro v2 w2 h2 hk2 hn2
       have HO2 : Hid (Own w2 base 5 v2 ((xs ++ [UInt8.ofNat 18]).map u8v)) := Lib.hid (by rw [List.map_append]; exact h2)
       have HK2 := Lib.hid ((Near.refl w (.slice A1 xs.length c1)).kp ((Kp.refl _ _).alloc _) hk2)
       have HN2 := Lib.hid ((Near.refl w (.slice A1 xs.length c1)).step ((Kp.refl (fun _ => False) w).alloc _).size hn2)
       clear h2 hk2 hn2)
    | (go_at_call 55
       refine (appendUvarint_at base _ (xs ++ [UInt8.ofNat 18]) n _ HO2.out (by omega) (by simp; omega) (Nat.le_trans hb HK2.out.size)).mono ?_
       rintro e w3 ⟨v3, rfl, ho3, hk3, hn3⟩
       have HO3 := Lib.hid ho3
       have HK3 := Lib.hid (HN2.out.kp HK2.out hk3)
       have HN3 := Lib.hid (HN2.out.trans HK2.out.size hn3)
       have hul := uvar_ten n (by omega)
       have hl3 : ((xs ++ [UInt8.ofNat 18] ++ uvar n).map u8v).length ≤ xs.length + 11 := by simp; omega
       have HL3 := Lib.hid hl3
       clear ho3 hk3 hl3 hul hn3)
    | (at_builtin
       refine wpList_app rfl (.tmp 19) (.tmp 20) 24 rfl appB rfl HO3.out rfl (Src.of_slc u8v (fun _ _ h => h) (HX.out _ HK3.out)) (one1 _) (fun e => by have h5 := H3.out e; omega) (by have := HL3.out; omega) (Nat.le_trans hb HK3.out.size) ?_
       intro v4 w4 h4 hk4 _
       have HO4 := Lib.hid h4
       have HK4 := Lib.hid (HN3.out.kp HK3.out hk4)
       clear h4 hk4))
  go_ret
  refine ⟨v4, rfl, ?_, HK4.out⟩
  have h5 := HO4.out
  rw [← List.map_append, HN.out] at h5
  rw [show xs ++ fByt 18 bs = xs ++ [UInt8.ofNat 18] ++ uvar bs.length ++ bs by simp [fByt]]
  exact h5

/-- an operation's message in memory -/
def MsgAt (w : World) (b bp : Nat) (kv : Value) : Prop := w.cell? ⟨b, 0, none⟩ = some kv ∧ w.cell? ⟨b, 1, none⟩ = some (.pointer (some ⟨bp, 0, none⟩))

set_option maxHeartbeats 1000000 in
theorem marshalOp_any (b bp : Nat) (kv : Value) (k : List UInt8) (p : Prf) (w : World) (h : MsgAt w b bp kv) (hk : Byts w kv k) (hk0 : 0 < k.length) (hkl : k.length ≤ 4294967296) (hp : PrfAt w bp p) (hl : p.leaf.length ≤ 4294967296) (ha : ∀ a ∈ p.aunts, a.length ≤ 4294967296) (hm : (msgOf p).length ≤ 4294967296) :
    Calls Tryz.prog 35 #[.pointer (some ⟨b, 0, none⟩)] w fun e w' => ∃ v', e = .returned (.tuple #[v', .nilIface]) ∧ Own w' w.heap.size 5 v' ((opMsg k p).map u8v) ∧ Keep w w' := by
  obtain ⟨c0, c1⟩ := h
  have HK := Lib.hid hk
  have HP := Lib.hid hp
  have HA := Lib.hid ha
  have HC := Lib.hid (show w.cell? ⟨b, 1, none⟩ = some (.pointer (some ⟨bp, 0, none⟩)) from c1)
  obtain ⟨A, c, rfl, k1, k2, -, -⟩ := hk
  unfold maxLen at k2
  obtain ⟨n, hn⟩ : ∃ n, n = k.length := ⟨_, rfl⟩
  have HN := Lib.hid hn
  rw [← hn] at hk0 k1 HK c0
  have hnl : n ≤ 4294967296 := by omega
  clear hp ha hn hkl
  go_enter Tryz.func35, Tryz.ntmps35
  go_wp2_with (first
    | (go_at_call 43
       refine (marshal_any bp p _ (HP.out.keep HK1.out) hl HA.out (by omega)).mono ?_
       rintro e w2 ⟨v2, rfl, ho2, hk2⟩
       have HO2 := Lib.hid ho2
       have HO1' := Lib.hid (HO1.out.keep hk2)
       have HK2 := Lib.hid (HK1.out.trans hk2)
       clear ho2 hk2)
    | (go_at_call 42
       first
       | (refine (putBytes_at w.heap.size v1 v2 (fByt 10 k) (msgOf p) _ HO1'.out (fun wx kx => Own.slc_map u8v (HO2.out.kp kx fun g hg e => by have h1 := (HO2.out.lt _ hg).1; have h2 := (HO1.out.lt _ e.symm).2; omega) (fun _ _ => rfl)) (by have h7 := HN.out; have := uvar_ten k.length (by omega); simp [fByt]; omega) hm HK2.out.size).mono ?_
          rintro e w3 ⟨v3, rfl, ho3, hk3⟩
          have HO3 := Lib.hid ho3
          have HK3 := Lib.hid (HK2.out.trans' hk3 (fun i hi e => by have h9 := (HO1'.out.lt _ e.symm).1; omega))
          clear ho3 hk3)
       | (refine (putBytes_any w.heap.size (.slice none 0 0) _ [] k 1 _ (Own.nil_ _ _ _) (by have h9 := HK.out.byp w.heap.size (Nat.le_refl _); exact h9) (.inl rfl) (by simp) (by have := HN.out; omega) (Nat.le_refl _)).mono ?_
          rintro e w1 ⟨v1, rfl, ho1, hk1⟩
          have HO1 : Hid (Own w1 w.heap.size 5 v1 ((fByt 10 k).map u8v)) := Lib.hid ho1
          have hk1' : Keep w w1 := hk1.mono fun i hi e => by omega
          have HK1 := Lib.hid hk1'
          have cc1 := hk1'.cell_of HC.out (fun x => x)
          clear ho1 hk1 hk1')))
  go_ret2
  exact ⟨v3, rfl, HO3.out, HK3.out⟩
end Go.Proofs.YtfodkjpjejoemaaGreatDoor
