
/-
  Roots of trees: the package's inner node, its root by recursion.
  Conditions: the arguments read as bytes; SHA-256's table holds its numbers.
-/
import Derived.Test.YtfodkjpjejoemaaGreatDoorZg
namespace Go.Proofs.YtfodkjpjejoemaaGreatDoor
open Go Go.RowKit
attribute [local go_sem ↓] Go.wp_at_zero Go.wp_at_succ

set_option maxRecDepth 100000 in
set_option maxHeartbeats 1000000 in
theorem innerHashOpt_any (b : Nat) (v1 v2 : Value) (p q : List UInt8) (w : World) (hd : ∃ bs, Dg w b bs) (hv1 : Bys w b v1 p) (hv2 : Bys w b v2 q) (hK : KTab w) (hp : p.length ≤ 1073741824) (hq : q.length ≤ 1073741824) :
    Calls Tryz.prog 53 #[hshV b, v1, v2] w fun e w' => ∃ v', e = .returned v' ∧ Own w' w.heap.size 5 v' ((innerS p q).map u8v) ∧ (∃ bs, Dg w' b bs) ∧ Kp (fun i => i = b) w w' := by
  have HD := Lib.hid hd
  have HV1 := Lib.hid hv1
  have HV2 := Lib.hid hv2
  have HK := Lib.hid hK
  have q1 := m_reset
  have q2 := m_write
  have q3 := m_sum
  have q4 := m_nil
  unfold hshV
  clear hd hv1 hv2 hK
  go_enter Tryz.func53, Tryz.ntmps53
  go_wp2_with (first
    | (go_at_call 66
       refine (reset_dg b _ HD.out).mono ?_
       rintro e w1 ⟨rfl, hd1, hk1⟩
       have HD1 := Lib.hid hd1
       have HK1 := Lib.hid hk1
       clear hd1 hk1))
  have hkb : 5 ≠ b := by obtain ⟨bs, h⟩ := HD.out; exact h.ktab HK.out
  have HKB := Lib.hid hkb
  have hb1 : b < w1.heap.size := HD1.out.lt
  have HE1 : Hid (KTab w1) := Lib.hid (HK.out.later hkb HK1.out)
  clear hkb
  go_region_with (first
    | (go_at_call 65
       refine (innerPre_any _).mono ?_
       rintro e w2 ⟨v2x, rfl, ho2, hk2⟩
       have HW2 : Hid (Bys w2 b v2x [1]) := Lib.hid (ho2.bys hb1)
       have HK2 : Hid (Keep w1 w2) := Lib.hid (((Kp.refl _ w1).drew).trans hk2)
       clear ho2 hk2)
    | (go_at_call 84
       refine (write_any [] [1] b v2x _ (HD1.out.kp HK2.out (fun x => x)) HW2.out (HE1.out.keep HK2.out (fun x => x)) (by simp)).mono ?_
       rintro e w3 ⟨rfl, hd3, hk3⟩
       have HD3 : Hid (Dg w3 b [1]) := Lib.hid hd3
       have HK3 : Hid (Kp (fun i => i = b) w w3) := Lib.hid ((HK1.out.trans HK2.out.keep).trans hk3)
       have HE3 : Hid (KTab w3) := Lib.hid (HK.out.later HKB.out HK3.out)
       clear hd3 hk3))
  all_goals
    go_wp2_with fail
    refine (write_any [1] p b v1 _ HD3.out (HV1.out.later HK3.out) HE3.out (by simp; omega)).mono ?_
    rintro e w4 ⟨rfl, hd4, hk4⟩
    have HD4 : Hid (Dg w4 b (1 :: p)) := Lib.hid hd4
    have HK4 : Hid (Kp (fun i => i = b) w w4) := Lib.hid (HK3.out.trans hk4)
    have HE4 : Hid (KTab w4) := Lib.hid (HK.out.later HKB.out HK4.out)
    clear hd4 hk4
    go_wp2_with fail
    refine (write_any (1 :: p) q b v2 _ HD4.out (HV2.out.later HK4.out) HE4.out (by simp; omega)).mono ?_
    rintro e w5 ⟨rfl, hd5, hk5⟩
    have HD5 : Hid (Dg w5 b (1 :: (p ++ q))) := Lib.hid hd5
    have HK5 : Hid (Kp (fun i => i = b) w w5) := Lib.hid (HK4.out.trans hk5)
    have HE5 : Hid (KTab w5) := Lib.hid (HK.out.later HKB.out HK5.out)
    clear hd5 hk5
    go_wp2_with (go_at_call 85
                 refine (dSum_any (1 :: (p ++ q)) b _ HD5.out HE5.out (by simp; omega)).mono ?_
                 rintro e w6 ⟨v6, rfl, ho6, hk6⟩
                 have HO6 := Lib.hid ho6
                 have HK6 := Lib.hid hk6
                 clear ho6 hk6)
    go_ret
    exact ⟨v6, rfl, HO6.out.down HK5.out.size, ⟨_, HD5.out.kp HK6.out (fun x => x)⟩, HK5.out.trans HK6.out.keep⟩

theorem Slc.mono {α : Type} {R R' : World → Value → α → Prop} {w : World} {v : Value} {L : List α} (h : Slc R w v L) (hR : ∀ u x, R w u x → R' w u x) : Slc R' w v L := by
  obtain ⟨A, c, hv, h1, h2, h3, h4⟩ := h
  refine ⟨A, c, hv, h1, h2, h3, fun hn => ?_⟩
  obtain ⟨b, off, hA, hc⟩ := h4 hn
  refine ⟨b, off, hA, fun i hi => ?_⟩
  obtain ⟨u, hu, hr⟩ := hc i hi
  exact ⟨u, hu, hR u _ hr⟩
/-- a list of slices of bytes of which nothing lies in block b -/
def MatB (w : World) (b : Nat) (v : Value) (L : List (List UInt8)) : Prop := ∀ wx, Kp (fun i => i = b) w wx → Slc (fun wy u x => Bys wy b u x) wx v L
theorem MatB.later {w w' : World} {b : Nat} {v : Value} {L : List (List UInt8)} (h : MatB w b v L) (k : Kp (fun i => i = b) w w') : MatB w' b v L := fun wx kx => h wx (k.trans kx)
theorem MatB.at_ {w : World} {b : Nat} {v : Value} {L : List (List UInt8)} (h : MatB w b v L) : Slc (fun wy u x => Bys wy b u x) w v L := h w (Kp.refl _ _)
theorem MatB.of {w w' : World} {b : Nat} {v : Value} {L : List (List UInt8)} (h : Mat w v L) (k : Keep w w') (hb : w.heap.size ≤ b) : MatB w' b v L := fun wx kx => by
  have k1 : Keep w wx := k.trans' kx fun i hi e => by subst e; omega
  have h1 : Slc (fun _ u x => Byts w u x) w v L := h.mono fun _ _ h => h
  have h2 : Slc (fun _ u x => Byts w u x) wx v L := h1.keep k1 fun _ _ h => h
  exact h2.mono fun u x hu wy ky => Byts.keep hu (k1.trans' ky fun i hi e => by subst e; omega)

end Go.Proofs.YtfodkjpjejoemaaGreatDoor

/-
  Roots of trees: the package's root by recursion, and level by level.
  Conditions: the argument reads as a list of slices of bytes; SHA-256's table holds its numbers.
-/
namespace Go.Proofs.YtfodkjpjejoemaaGreatDoor
open Go Go.RowKit
attribute [local go_sem ↓] Go.wp_at_zero Go.wp_at_succ

theorem newDg_any (w : World) :
    Calls Tryz.prog 54 #[] w fun e w' => ∃ b, e = .returned (.pointer (some ⟨b, 0, none⟩)) ∧ w.heap.size ≤ b ∧ Dg w' b [] ∧ Keep w w' := by
  refine (new_any w).mono ?_
  rintro e w' ⟨b, x, rfl, h1, h2, h3⟩
  exact ⟨b, rfl, h1, ⟨x, h2, by simp⟩, h3⟩

theorem Nw.byp {w : World} {B : Nat} {S : Nat → Prop} {v : Value} {L : List UInt8} (h : Nw B w v L) (hS : ∀ i, S i → i < B) : Byp w S v L := fun wx kx => by
  obtain ⟨g, off, c, rfl, hB, hv⟩ := h
  refine hv.keepS kx (fun A c' b' off' e1 e2 e3 => ?_) (fun _ _ _ h => h)
  have h3 := hS _ e3
  simp only [Value.slice.injEq] at e1
  rw [← e1.1] at e2
  simp only [Option.some.injEq, Addr.mk.injEq] at e2
  omega

theorem makeM2 (n : Nat) (h : n ≤ 1099511627777) (w : World) : (Instr.makeSlice 22 (.int .i64 (n : Int)) (.int .i64 (n : Int))).run Tryz.prog w = .ok (.slice (some ⟨w.heap.size, 0, none⟩) n n) (w.alloc (.cells (List.replicate n (.slice none 0 0)).toArray 24)) := by
  obtain ⟨i0, hi, hz0, hz1, hz2⟩ := info_parts (show (Tryz.prog.info? 24).map (fun i => (i.zero, i.size, i.bytes)) = some (some (.slice none 0 0), 1, 24) by kernel_rfl)
  exact run_make_row1 22 24 i0 (.slice none 0 0) Tryz.underlying22 hi hz0 hz1 rfl n n n rfl rfl (by rw [hz2]; omega) (by omega) w
theorem Own.cell_ {w : World} {base g n c : Nat} {e : TypeId} {xs : List Value} (h : Own w base e (.slice (some ⟨g, 0, none⟩) n c) xs) (i : Nat) (hi : i < xs.length) : w.cell? ⟨g, i, none⟩ = some xs[i] ∧ w.frozen? ⟨g, i, none⟩ = false := by
  obtain ⟨_, cur, hh⟩ := h.block (g := g) rfl
  obtain ⟨A, c', hv, _, _, _, h4⟩ := h.form
  obtain ⟨g', hA, _, hc⟩ := h4 (by omega)
  simp only [Value.slice.injEq] at hv
  rw [hA] at hv
  simp at hv
  have := hc i hi
  rw [Nat.zero_add, ← hv.1] at this
  exact ⟨this, frozen_of_row _ _ _ _ _ hh⟩

/-- the items' block, and the digest's -/
def Two (bi bd : Nat) : Nat → Prop := fun i => i = bi ∨ i = bd
/-- the items: vals, of which those from lo to hi are these bytes -/
def Items (w : World) (B bi _ N : Nat) (vals : List Value) : Prop := vals.length = N ∧ Own w B 24 (.slice (some ⟨bi, 0, none⟩) N N) vals
theorem Items.keep {w w' : World} {B bi bd N : Nat} {vals : List Value} (h : Items w B bi bd N vals) (k : Kp (fun i => i = bd) w w') (hne : bi ≠ bd) : Items w' B bi bd N vals :=
  ⟨h.1, h.2.kp k fun b hb e => by simp [Value.ownBlock] at hb; omega⟩
theorem Items.set_ {w : World} {B bi bd N : Nat} {vals : List Value} (h : Items w B bi bd N vals) (i : Nat) (u : Value) : Items (w.setCell ⟨bi, i, none⟩ u) B bi bd N (vals.set i u) :=
  ⟨by simp [h.1], h.2.set_ i u⟩
end Go.Proofs.YtfodkjpjejoemaaGreatDoor

/-
  Roots of trees: the root level by level walked.
  Conditions: the argument reads as a list of slices of bytes; SHA-256's table holds its numbers.
-/
namespace Go.Proofs.YtfodkjpjejoemaaGreatDoor
open Go Go.RowKit
attribute [local go_sem ↓] Go.wp_at_zero Go.wp_at_succ

theorem lvl_all {α : Type} (g : α → α → α) (P : α → Prop) (hg : ∀ x y, P (g x y)) : ∀ (M : List α), (∀ x ∈ M, P x) → ∀ x ∈ lvl g M, P x
  | [], _, x, hx => by rw [lvl_nil] at hx; cases hx
  | [a], h, x, hx => by rw [lvl_one] at hx; exact h x hx
  | a :: b :: t, h, x, hx => by
    rw [lvl_two] at hx
    rcases List.mem_cons.1 hx with rfl | hx
    · exact hg _ _
    · exact lvl_all g P hg t (fun y hy => h y (by simp [hy])) x hx
theorem Byp.bys {w : World} {bi bd : Nat} {v : Value} {L : List UInt8} (h : Byp w (Two bi bd) v L) : Bys w bd v L := fun wx kx => h wx (kx.mono fun _ _ e => .inr e)
theorem take_snoc2 {α : Type} (L : List α) (k : Nat) (h : k < L.length) : L.take (k + 1) = L.take k ++ [L[k]] := by
  rw [List.take_add_one, List.getElem?_eq_getElem h]; rfl
theorem lvl_take {α : Type} (g : α → α → α) (M : List α) (r : Nat) (hr : r % 2 = 0) (h : r + 1 < M.length) : lvl g (M.take (r + 2)) = lvl g (M.take r) ++ [g (M[r]'(by omega)) M[r + 1]] := by
  have e : M.take (r + 2) = M.take r ++ [M[r]'(by omega), M[r + 1]] := by
    rw [show r + 2 = (r + 1) + 1 from rfl, take_snoc2 M (r + 1) h, take_snoc2 M r (by omega), List.append_assoc]; rfl
  rw [e, lvl_append g _ _ (by rw [List.length_take]; omega), lvl_two, lvl_nil]
theorem lvl_last {α : Type} (g : α → α → α) (M : List α) (r : Nat) (hr : r % 2 = 0) (h : r + 1 = M.length) : lvl g M = lvl g (M.take r) ++ [M[r]'(by omega)] := by
  have e : M = M.take r ++ [M[r]'(by omega)] := by
    rw [← take_snoc2 M r (by omega), h, List.take_length]
  conv => lhs; rw [e]
  rw [lvl_append g _ _ (by rw [List.length_take]; omega), lvl_one]

theorem wrap64r (z : Int) (h1 : -9223372036854775808 ≤ z) (h2 : z ≤ 9223372036854775807) : IntKind.i64.wrap z = z := by
  simp [IntKind.wrap, IntKind.bits, IntKind.signed]; omega

end Go.Proofs.YtfodkjpjejoemaaGreatDoor
