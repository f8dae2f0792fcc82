
/-
  Roots of trees: the package's split.
  Conditions: the number is at least 2 and bounded.
-/
import Derived.Test.YtfodkjpjejoemaaGreatDoorZf
import Derived.Test.YtfodkjpjejoemaaGreatDoorShelf
namespace Go.Proofs.YtfodkjpjejoemaaGreatDoor
open Go Go.RowKit
attribute [local go_sem ↓] Go.wp_at_zero Go.wp_at_succ

theorem bitLenAux_zero (f : Nat) : Lib.bitLenAux f 0 = 0 := by
  cases f with
  | zero => rfl
  | succ f => simp [Lib.bitLenAux]
theorem bitLenAux_log : ∀ (f x : Nat), 0 < x → x < 2 ^ f → Lib.bitLenAux f x = Nat.log2 x + 1
  | 0, x, h, h2 => by simp at h2; omega
  | f + 1, x, h, h2 => by
    rw [Lib.bitLenAux, if_neg (by omega), Nat.log2_def]
    by_cases hx : 2 ≤ x
    · rw [if_pos hx, bitLenAux_log f (x / 2) (by omega) (by rw [Nat.pow_succ] at h2; omega)]
      omega
    · have : x / 2 = 0 := by omega
      rw [if_neg hx, this, bitLenAux_zero]

set_option maxHeartbeats 1000000 in
theorem split_any (n : Nat) (w : World) (h2 : 2 ≤ n) (h : n ≤ 9223372036854775807) :
    Calls Tryz.prog 52 #[.int .i64 n] w fun e w' => e = .returned (.int .i64 (splt n)) ∧ w = w' := by
  obtain ⟨j, hj⟩ : ∃ j, j = Nat.log2 n := ⟨_, rfl⟩
  have hl := (Nat.log2_eq_iff (n := n) (k := j) (by omega)).1 hj.symm
  rw [Nat.pow_succ] at hl
  have hj62 : j < 63 := by
    rcases Nat.lt_or_ge j 63 with h' | h'
    · exact h'
    · have := Nat.pow_le_pow_right (show 0 < 2 by omega) h'
      omega
  have hbl : Lib.bitLen n = j + 1 := by
    unfold Lib.bitLen
    rw [bitLenAux_log 64 n (by omega) (by omega), hj]
  have hsp : splt n = if 2 ^ j = n then 2 ^ j / 2 else 2 ^ j := by
    split
    · rename_i he
      obtain ⟨i, rfl⟩ : ∃ i, j = i + 1 := ⟨j - 1, by
        rcases j with _ | j
        · simp at he; omega
        · rfl⟩
      rw [Nat.pow_succ] at he hl ⊢
      rw [splt_of n i (by have := Nat.pow_pos (n := i) (show 0 < 2 by omega); omega) (by omega)]
      omega
    · exact splt_of n j (by omega) (by omega)
  obtain ⟨P, hP⟩ : ∃ P, P = 2 ^ j := ⟨_, rfl⟩
  rw [← hP] at hl hsp
  have hpi : (2 : Int) ^ j = (P : Int) := by rw [hP]; simp
  have hsh1 : IntKind.i64.wrap ((2 : Int) ^ j) = (P : Int) := by rw [hpi]; simp [IntKind.wrap, IntKind.bits, IntKind.signed]; omega
  have HBL := Lib.hid hbl
  have HSP := Lib.hid hsp
  have h1 : ¬ (n : Int) < 1 := by omega
  clear hbl hj hP hsp hpi
  by_cases he : P = n
  · have he' : ((P : Int) == (n : Int)) = true := by rw [beq_iff_eq]; omega
    have hr := HSP.out
    rw [if_pos he] at hr
    have HR := Lib.hid hr
    clear hr he
    go_enter Tryz.func52, Tryz.ntmps52
    go_wp2_with (go_at_call 64
                 refine (Tryz.bits_Len n _ (by omega) (by omega)).mono ?_
                 rintro e w1 ⟨rfl, rfl⟩
                 rw [Int.toNat_natCast, HBL.out])
    go_ret
    exact ⟨by rw [HR.out]; first | rfl | go_num, rfl⟩
  · have he' : ((P : Int) == (n : Int)) = false := by rw [beq_eq_false_iff_ne]; omega
    have hr := HSP.out
    rw [if_neg he] at hr
    have HR := Lib.hid hr
    clear hr he
    go_enter Tryz.func52, Tryz.ntmps52
    go_wp2_with (go_at_call 64
                 refine (Tryz.bits_Len n _ (by omega) (by omega)).mono ?_
                 rintro e w1 ⟨rfl, rfl⟩
                 rw [Int.toNat_natCast, HBL.out])
    go_ret
    exact ⟨by rw [HR.out]; first | rfl | go_num, rfl⟩

end Go.Proofs.YtfodkjpjejoemaaGreatDoor

/-
  Roots of trees: the package's leaf, its empty tree.
  Conditions: the arguments read as bytes; SHA-256's table holds its numbers.
-/
namespace Go.Proofs.YtfodkjpjejoemaaGreatDoor
open Go Go.RowKit
attribute [local go_sem ↓] Go.wp_at_zero Go.wp_at_succ

theorem leafPre_any (w : World) :
    Calls Tryz.prog 63 #[] w fun e w' => ∃ v, e = .returned v ∧ Own w' w.heap.size 5 v ([(0 : UInt8)].map u8v) ∧ Keep w w' := by
  go_enter Tryz.func63, Tryz.ntmps63
  go_wp2
  go_ret
  exact ⟨_, rfl, Own.made w w.heap.size 5 ([(0 : UInt8)].map u8v) (Nat.le_refl _) (by simp [maxLen]), (Kp.refl _ _).alloc _⟩
theorem innerPre_any (w : World) :
    Calls Tryz.prog 65 #[] w fun e w' => ∃ v, e = .returned v ∧ Own w' w.heap.size 5 v ([(1 : UInt8)].map u8v) ∧ Keep w w' := by
  go_enter Tryz.func65, Tryz.ntmps65
  go_wp2
  go_ret
  exact ⟨_, rfl, Own.made w w.heap.size 5 ([(1 : UInt8)].map u8v) (Nat.le_refl _) (by simp [maxLen]), (Kp.refl _ _).alloc _⟩

set_option maxHeartbeats 1000000 in
theorem emptyHash_any (w : World) (hK : KTab w) :
    Calls Tryz.prog 50 #[] w fun e w' => ∃ v, e = .returned v ∧ Nw w.heap.size w' v (sha []) ∧ Keep w w' := by
  have HK := Lib.hid hK
  clear hK
  go_enter Tryz.func50, Tryz.ntmps50
  go_wp2_with (go_at_call 62
               refine (mSum_any _ [] _ (Own.slc_map (L := []) (R := U8) u8v (Own.bare w w.heap.size 5 (Nat.le_refl _)) (fun _ _ => rfl)) (HK.out.keep ((Kp.refl (fun _ => False) w).alloc _) (fun x => x)) (by simp)).mono ?_
               rintro e w3 ⟨v3, rfl, h3, hk3⟩
               have HB3 := Lib.hid h3
               have HK3 := Lib.hid hk3
               clear h3 hk3)
  go_ret
  exact ⟨v3, rfl, HB3.out.mono (by simp), ((Kp.refl _ _).alloc _).trans HK3.out⟩

set_option maxHeartbeats 1000000 in
theorem leafHash_any (v : Value) (b : List UInt8) (w : World) (hv : Byts w v b) (hK : KTab w) (hb : b.length ≤ 1073741824) :
    Calls Tryz.prog 124 #[v] w fun e w' => ∃ v', e = .returned v' ∧ Nw w.heap.size w' v' (leafS b) ∧ Keep w w' := by
  have HV := Lib.hid hv
  have HKT := Lib.hid hK
  obtain ⟨A, c, rfl, h1, h2, h3, h4⟩ := hv
  have H3 := Lib.hid h3
  unfold maxLen at h2
  clear h3 h4 hK
  go_enter Tryz.func124, Tryz.ntmps124
  go_wp2_with (first
    | (go_at_call 63
       refine (leafPre_any _).mono ?_
       rintro e w1 ⟨v1, rfl, ho1, hk1⟩
       have HO1 := Lib.hid ho1
       have HK1 := Lib.hid hk1
       obtain ⟨A1, c1, rfl, f1, f2, -, -⟩ := ho1.form
       clear ho1 hk1)
    | (at_builtin
       refine wpList_app rfl (.tmp 3) (.tmp 4) 24 rfl appB rfl HO1.out rfl (Src.of_slc u8v (fun _ _ h => h) (HV.out.keep HK1.out)) (one1 _) (fun e => by have h5 := H3.out e; omega) (by simp; omega) HK1.out.size ?_
       intro v2 w2 ho2 hk2 _
       have HO2 : Hid (Own w2 w.heap.size 5 v2 ((0 :: b).map u8v)) := Lib.hid ho2
       have HK2 : Hid (Keep w w2) := Lib.hid (HK1.out.trans' hk2 (fun i hi e => by have h9 := (HO1.out.lt _ e.symm).1; omega))
       clear ho2 hk2)
    | (go_at_call 62
       refine (mSum_any _ (0 :: b) _ (HO2.out.slc_map (R := U8) u8v (fun _ _ => rfl)) (HKT.out.keep HK2.out (fun x => x)) (by rw [List.length_cons]; omega)).mono ?_
       rintro e w3 ⟨v3, rfl, h3, hk3⟩
       have HB3 := Lib.hid h3
       have HK3 := Lib.hid hk3
       clear h3 hk3))
  go_ret
  exact ⟨v3, rfl, HB3.out.mono HK2.out.size, HK2.out.trans HK3.out⟩

/-- the digest's value as a hash -/
def hshV (b : Nat) : Value := .iface 119 (.pointer (some ⟨b, 0, none⟩))
theorem reset_dg (b : Nat) (w : World) (h : ∃ bs, Dg w b bs) :
    Calls Tryz.prog 66 #[.pointer (some ⟨b, 0, none⟩)] w fun e w' => e = .returned (.tuple #[]) ∧ Dg w' b [] ∧ Kp (fun i => i = b) w w' := by
  obtain ⟨bs, x, d, _⟩ := h
  refine (reset_any _ _ _ _ _ _ d).mono ?_
  rintro e w' ⟨rfl, h1, h2⟩
  exact ⟨rfl, ⟨x, h1, by simp⟩, h2⟩

theorem Own.down {w : World} {base base' : Nat} {e : TypeId} {v : Value} {xs : List Value} (h : Own w base e v xs) (hb : base' ≤ base) : Own w base' e v xs := by
  refine ⟨h.1, ?_⟩
  rcases h.2 with h2 | ⟨g, cap, cur, rfl, hg, h3⟩
  · exact .inl h2
  · exact .inr ⟨g, cap, cur, rfl, Nat.le_trans hb hg, h3⟩
theorem Bys.later {w w' : World} {b : Nat} {v : Value} {L : List UInt8} (h : Bys w b v L) (k : Kp (fun i => i = b) w w') : Bys w' b v L := fun wx kx => h wx (k.trans kx)
theorem Own.bys {w : World} {base b : Nat} {v : Value} {L : List UInt8} (h : Own w base 5 v (L.map u8v)) (hb : b < base) : Bys w b v L := fun wx kx =>
  (h.byp (f := u8v) (fun _ => rfl)) wx (kx.mono fun i _ e => by subst e; exact hb)
theorem Nw.bys {w : World} {B b : Nat} {v : Value} {L : List UInt8} (h : Nw B w v L) (hb : b < B) : Bys w b v L := fun wx kx => by
  obtain ⟨g, off, c, rfl, hB, hv⟩ := h
  refine hv.keepS kx (fun A c' b' off' e1 e2 e3 => ?_) (fun _ _ _ h => h)
  simp only [Value.slice.injEq] at e1
  rw [← e1.1] at e2
  simp at e2 <;> omega
theorem KTab.later {w w' : World} {b : Nat} (h : KTab w) (hb : 5 ≠ b) (k : Kp (fun i => i = b) w w') : KTab w' := h.keep k hb

theorem m_reset (a : Addr) (w : World) : (method 326 119 (.pointer (some a)) "Reset").run Tryz.prog w = .ok (66, .pointer (some a)) w := by kernel_rfl
theorem m_write (a : Addr) (w : World) : (method 326 119 (.pointer (some a)) "Write").run Tryz.prog w = .ok (84, .pointer (some a)) w := by kernel_rfl
theorem m_sum (a : Addr) (w : World) : (method 326 119 (.pointer (some a)) "Sum").run Tryz.prog w = .ok (85, .pointer (some a)) w := by kernel_rfl
theorem m_nil (a : Addr) (w : World) : (nilAhead 326 119 (.pointer (some a)) "Write").run Tryz.prog w = .ok (some false) w := by kernel_rfl

set_option maxRecDepth 100000 in
set_option maxHeartbeats 1000000 in
theorem leafHashOpt_big (b : Nat) (v : Value) (p : List UInt8) (w : World) (hd : ∃ bs, Dg w b bs) (hv : Bys w b v p) (hK : KTab w) (hp : p.length ≤ 4294960000) :
    Calls Tryz.prog 51 #[hshV b, v] w fun e w' => ∃ v', e = .returned v' ∧ Own w' w.heap.size 5 v' ((leafS p).map u8v) ∧ (∃ bs, Dg w' b bs) ∧ Kp (fun i => i = b) w w' := by
  have HD := Lib.hid hd
  have HV := Lib.hid hv
  have HK := Lib.hid hK
  have q1 := m_reset
  have q2 := m_write
  have q3 := m_sum
  have q4 := m_nil
  unfold hshV
  clear hd hv hK
  go_enter Tryz.func51, Tryz.ntmps51
  go_wp2_with (first
    | (go_at_call 66
       refine (reset_dg b _ HD.out).mono ?_
       rintro e w1 ⟨rfl, hd1, hk1⟩
       have HD1 := Lib.hid hd1
       have HK1 := Lib.hid hk1
       clear hd1 hk1))
  have hkb : 5 ≠ b := by obtain ⟨bs, h⟩ := HD.out; exact h.ktab HK.out
  have HKB := Lib.hid hkb
  have hb1 : b < w1.heap.size := HD1.out.lt
  have HE1 : Hid (KTab w1) := Lib.hid (HK.out.later hkb HK1.out)
  clear hkb
  go_region_with (first
    | (go_at_call 63
       refine (leafPre_any _).mono ?_
       rintro e w2 ⟨v2, rfl, ho2, hk2⟩
       have HW2 : Hid (Bys w2 b v2 [0]) := Lib.hid (ho2.bys hb1)
       have HK2 : Hid (Keep w1 w2) := Lib.hid (((Kp.refl _ w1).drew).trans hk2)
       clear ho2 hk2)
    | (go_at_call 84
       refine (write_any [] [0] b v2 _ (HD1.out.kp HK2.out (fun x => x)) HW2.out (HE1.out.keep HK2.out (fun x => x)) (by simp)).mono ?_
       rintro e w3 ⟨rfl, hd3, hk3⟩
       have HD3 : Hid (Dg w3 b [0]) := Lib.hid hd3
       have HK3 : Hid (Kp (fun i => i = b) w w3) := Lib.hid ((HK1.out.trans HK2.out.keep).trans hk3)
       have HE3 : Hid (KTab w3) := Lib.hid (HK.out.later HKB.out HK3.out)
       clear hd3 hk3))
  all_goals
    go_wp2_with (first
      | (go_at_call 84
         refine (write_any [0] p b v _ HD3.out (HV.out.later HK3.out) HE3.out (by simp; omega)).mono ?_
         rintro e w4 ⟨rfl, hd4, hk4⟩
         have HD4 : Hid (Dg w4 b (0 :: p)) := Lib.hid hd4
         have HK4 : Hid (Kp (fun i => i = b) w w4) := Lib.hid (HK3.out.trans hk4)
         have HE4 : Hid (KTab w4) := Lib.hid (HK.out.later HKB.out HK4.out)
         clear hd4 hk4)
      | (go_at_call 85
         refine (dSum_any (0 :: p) b _ HD4.out HE4.out (by simp; omega)).mono ?_
         rintro e w5 ⟨v5, rfl, ho5, hk5⟩
         have HO5 := Lib.hid ho5
         have HK5 := Lib.hid hk5
         clear ho5 hk5))
    go_ret
    exact ⟨v5, rfl, HO5.out.down HK4.out.size, ⟨_, HD4.out.kp HK5.out (fun x => x)⟩, HK4.out.trans HK5.out.keep⟩
theorem leafHashOpt_any (b : Nat) (v : Value) (p : List UInt8) (w : World) (hd : ∃ bs, Dg w b bs) (hv : Bys w b v p) (hK : KTab w) (hp : p.length ≤ 1073741824) :
    Calls Tryz.prog 51 #[hshV b, v] w fun e w' => ∃ v', e = .returned v' ∧ Own w' w.heap.size 5 v' ((leafS p).map u8v) ∧ (∃ bs, Dg w' b bs) ∧ Kp (fun i => i = b) w w' := leafHashOpt_big b v p w hd hv hK (by omega)
end Go.Proofs.YtfodkjpjejoemaaGreatDoor
