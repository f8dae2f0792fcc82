/-
  Roots of trees: the package's root by recursion, and level by level.
  Conditions: the argument reads as a list of slices of bytes; SHA-256's table holds its numbers.
-/
import Derived.Test.YtfodkjpjejoemaaDoorRoot6
namespace Go.Proofs.YtfodkjpjejoemaaDoor
open Go Go.RowKit
attribute [local go_sem ↓] Go.wp_at_zero Go.wp_at_succ

theorem newDg_any (w : World) :
    Calls Tryd.prog 112 #[] w fun e w' => ∃ b, e = .returned (.pointer (some ⟨b, 0, none⟩)) ∧ w.heap.size ≤ b ∧ Dg w' b [] ∧ Keep w w' := by
  refine (new_any w).mono ?_
  rintro e w' ⟨b, x, rfl, h1, h2, h3⟩
  exact ⟨b, rfl, h1, ⟨x, h2, by simp⟩, h3⟩

set_option maxHeartbeats 1000000 in
theorem hashRec_any (v : Value) (L : List (List UInt8)) (w : World) (hv : Mat w v L) (hK : KTab w) (hL : L.length ≤ 1073741824) (hb : ∀ x ∈ L, x.length ≤ 1073741824) :
    Calls Tryd.prog 94 #[v] w fun e w' => ∃ v', e = .returned v' ∧ Byts w' v' (rootS L) ∧ Keep w w' := by
  have HV := Lib.hid hv
  have HK := Lib.hid hK
  have HB := Lib.hid hb
  clear hv hK hb
  go_enter Tryd.func94, Tryd.ntmps94
  go_wp2_with (first
    | (go_at_call 112
       refine (newDg_any _).mono ?_
       rintro e w1 ⟨b, rfl, hb1, hd1, hk1⟩
       have HD1 := Lib.hid hd1
       have HK1 := Lib.hid hk1
       clear hd1 hk1)
    | (go_at_call 124
       refine (hash_n b L.length L v _ (Nat.le_refl _) (MatB.of HV.out HK1.out hb1) ⟨_, HD1.out⟩ (HK.out.keep HK1.out (fun x => x)) hL HB.out).mono ?_
       rintro e w2 ⟨v2, rfl, ho2, hd2, hk2⟩
       have HO2 := Lib.hid ho2
       have HK2 := Lib.hid hk2
       clear ho2 hd2 hk2))
  go_ret
  exact ⟨v2, rfl, HO2.out.byts, HK1.out.trans' HK2.out fun i hi e => by omega⟩

theorem Nw.byp {w : World} {B : Nat} {S : Nat → Prop} {v : Value} {L : List UInt8} (h : Nw B w v L) (hS : ∀ i, S i → i < B) : Byp w S v L := fun wx kx => by
  obtain ⟨g, off, c, rfl, hB, hv⟩ := h
  refine hv.keepS kx (fun A c' b' off' e1 e2 e3 => ?_) (fun _ _ _ h => h)
  have h3 := hS _ e3
  simp only [Value.slice.injEq] at e1
  rw [← e1.1] at e2
  simp only [Option.some.injEq, Addr.mk.injEq] at e2
  omega

theorem makeM2 (n : Nat) (h : n ≤ 1099511627777) (w : World) : (Instr.makeSlice 23 (.int .i64 (n : Int)) (.int .i64 (n : Int))).run Tryd.prog w = .ok (.slice (some ⟨w.heap.size, 0, none⟩) n n) (w.alloc (.cells (List.replicate n (.slice none 0 0)).toArray 22)) := by
  obtain ⟨i0, hi, hz0, hz1, hz2⟩ := info_parts (show (Tryd.prog.info? 22).map (fun i => (i.zero, i.size, i.bytes)) = some (some (.slice none 0 0), 1, 24) by kernel_rfl)
  exact run_make_row1 23 22 i0 (.slice none 0 0) Tryd.underlying23 hi hz0 hz1 rfl n n n rfl rfl (by rw [hz2]; omega) (by omega) w
theorem Own.cell_ {w : World} {base g n c : Nat} {e : TypeId} {xs : List Value} (h : Own w base e (.slice (some ⟨g, 0, none⟩) n c) xs) (i : Nat) (hi : i < xs.length) : w.cell? ⟨g, i, none⟩ = some xs[i] ∧ w.frozen? ⟨g, i, none⟩ = false := by
  obtain ⟨_, cur, hh⟩ := h.block (g := g) rfl
  obtain ⟨A, c', hv, _, _, _, h4⟩ := h.form
  obtain ⟨g', hA, _, hc⟩ := h4 (by omega)
  simp only [Value.slice.injEq] at hv
  rw [hA] at hv
  simp at hv
  have := hc i hi
  rw [Nat.zero_add, ← hv.1] at this
  exact ⟨this, frozen_of_row _ _ _ _ _ hh⟩

/-- the items' block, and the digest's -/
def Two (bi bd : Nat) : Nat → Prop := fun i => i = bi ∨ i = bd
/-- the items: vals, of which those from lo to hi are these bytes -/
def Items (w : World) (B bi bd N : Nat) (vals : List Value) : Prop := vals.length = N ∧ Own w B 22 (.slice (some ⟨bi, 0, none⟩) N N) vals
theorem Items.keep {w w' : World} {B bi bd N : Nat} {vals : List Value} (h : Items w B bi bd N vals) (k : Kp (fun i => i = bd) w w') (hne : bi ≠ bd) : Items w' B bi bd N vals :=
  ⟨h.1, h.2.kp k fun b hb e => by simp [Value.ownBlock] at hb; omega⟩
theorem Items.set_ {w : World} {B bi bd N : Nat} {vals : List Value} (h : Items w B bi bd N vals) (i : Nat) (u : Value) : Items (w.setCell ⟨bi, i, none⟩ u) B bi bd N (vals.set i u) :=
  ⟨by simp [h.1], h.2.set_ i u⟩
end Go.Proofs.YtfodkjpjejoemaaDoor
