
/-
  Chains: bytes behind their number written into a buffer.
  Conditions: the buffer is the call's own; the bytes lie below it.
-/
import Derived.Test.YtfodkjpjejoemaaGreatDoorChain0
import Derived.Test.YtfodkjpjejoemaaGreatDoorZt
import Derived.Test.YtfodkjpjejoemaaGreatDoorShelfB
namespace Go.Proofs.YtfodkjpjejoemaaGreatDoor
open Go Go.RowKit
attribute [local go_sem ↓] Go.wp_at_zero Go.wp_at_succ

abbrev IsBuf (B b : Nat) (L : List UInt8) (w : World) : Prop := Lib.IsBuffer 214 5 B b (L.map u8v) w
theorem IsBuf.keep {B b : Nat} {L : List UInt8} {w w' : World} (h : IsBuf B b L w) (k : Keep w w') : IsBuf B b L w' := by
  obtain ⟨hB, v, lr, hbk, hown, hne⟩ := h
  exact ⟨hB, v, lr, (k.block b (lt_of_block hbk) (fun x => x)).trans hbk, Own.keep (xs := L.map u8v) hown k, hne⟩
/-- bytes below B, with their place -/
def BufSrc (w : World) (B : Nat) (v : Value) (x : List UInt8) : Prop :=
  ∃ g off c, v = .slice (some ⟨g, off, none⟩) x.length c ∧ x.length ≤ c ∧ c ≤ maxLen ∧ g < B ∧ ∀ i (h : i < x.length), w.cell? ⟨g, off + i, none⟩ = some (u8v x[i])
theorem BufSrc.of_byts {w : World} {B : Nat} {v : Value} {x : List UInt8} (h : Byts w v x) (h0 : 0 < x.length) (hB : w.heap.size ≤ B) : BufSrc w B v x := by
  obtain ⟨A, c, h1, h2, h3, -, h5⟩ := h
  obtain ⟨g, off, rfl, hc⟩ := h5 h0
  refine ⟨g, off, c, h1, h2, h3, ?_, fun i hi => ?_⟩
  · obtain ⟨u, hu, _⟩ := hc 0 h0
    have := World.block_lt_of_cell? w _ hu
    simp at this
    omega
  · obtain ⟨u, hu, hr⟩ := hc i hi
    rw [hu]
    exact congrArg some hr
theorem BufSrc.kp {S : Nat → Prop} {w w' : World} {B : Nat} {v : Value} {x : List UInt8} (h : BufSrc w B v x) (k : Kp S w w') (hS : ∀ i, i < B → ¬ S i) : BufSrc w' B v x := by
  obtain ⟨g, off, c, h1, h2, h3, h4, h5⟩ := h
  exact ⟨g, off, c, h1, h2, h3, h4, fun i hi => k.cell_of (h5 i hi) (hS g h4)⟩
theorem Kp.of_bel {B : Nat} {w w' : World} (h : Below B w w') : Kp (fun i => B ≤ i) w w' := ⟨h.os, h.tape, h.output, h.size, fun i _ hs => h.block i (by omega)⟩
theorem add_at (g off j : Nat) : (⟨g, off, none⟩ : Addr).add j = ⟨g, off + j, none⟩ := by unfold Addr.add; split <;> simp_all

set_option maxRecDepth 100000 in
set_option maxHeartbeats 2000000 in
theorem encode_any (B b : Nat) (L x : List UInt8) (xv : Value) (w : World) (h : IsBuf B b L w) (hBw : B ≤ w.heap.size) (hx : BufSrc w B xv x) (hxl : x.length ≤ 4294967296) (hx0 : 0 < x.length) (hL : L.length ≤ 17179869184) :
    Calls Tryz.prog 123 #[.pointer (some ⟨b, 0, none⟩), xv] w fun e w' => e = .returned .nilIface ∧ IsBuf B b (L ++ (uvar x.length ++ x)) w' ∧ Kp (fun i => B ≤ i) w w' := by
  have HH := Lib.hid h
  have HX := Lib.hid hx
  have hbl := h.lt
  have hBb := h.1
  obtain ⟨g, off, c, rfl, g2, g3, g4, g5⟩ := hx
  obtain ⟨n, hn⟩ : ∃ n, n = x.length := ⟨_, rfl⟩
  have HN := Lib.hid hn
  rw [← hn] at g2 hxl hx0 ⊢
  unfold maxLen at g3
  have HU := Lib.hid (uvar_ten n (by omega))
  have HUP := Lib.hid (uvar_pos n)
  clear h g5 hn
  go_enter Tryz.func123, Tryz.ntmps123
  go_wp2_with (first
    | (go_at_call 55
       refine (appendUvarint_any w.heap.size (.slice none 0 0) [] n w (Own.nil_ _ _ _) (by omega) (by simp) (Nat.le_refl _)).mono ?_
       rintro e w1 ⟨v1, rfl, ho1, hk1⟩
       have hk1' : Keep w w1 := hk1.mono fun i hi e => by omega
       have HK1 := Lib.hid hk1'
       obtain ⟨A1, c1, rfl, f1, f2, f3, f4⟩ := ho1.form
       obtain ⟨m, hm⟩ : ∃ m, m = (([] ++ uvar n : List UInt8).map u8v).length := ⟨_, rfl⟩
       have hmu : m = (uvar n).length := by rw [hm]; simp
       have HM := Lib.hid hmu
       obtain ⟨g1, rfl, hg1, hc1⟩ := f4 (by have := HUP.out; simp; omega)
       rw [← hm] at f1 ⊢
       have HC1 := Lib.hid hc1
       unfold maxLen at f2
       clear ho1 hk1 hk1' hm hmu f3 f4 hc1)
    | (go_at_call 127
       first
       | (refine (Tryz.Buffer_Write_any B b ((L ++ uvar n).map u8v) (x.map u8v) ⟨g, off, none⟩ n c _ HH2.out (Nat.le_trans hBw HK2.out.size) (one1 _) (by rw [HN.out]; simp) (by show g ≠ b; omega) (fun j u hj => ?_) (one1 _) (by have := HU.out; simp; omega)).mono ?_
          · obtain ⟨g', off', c', e', -, -, -, h5⟩ := HX2.out
            simp only [Value.slice.injEq, Option.some.injEq, Addr.mk.injEq] at e'
            obtain ⟨⟨rfl, rfl, -⟩, -, -⟩ := e'
            rw [List.getElem?_map] at hj
            obtain ⟨y, hy, rfl⟩ := Option.map_eq_some_iff.1 hj
            obtain ⟨hjl, rfl⟩ := List.getElem?_eq_some_iff.1 hy
            rw [add_at]
            exact h5 j hjl
          rintro e w3 ⟨rfl, hb3, hk3, -⟩
          have HH3 : Hid (IsBuf B b (L ++ (uvar n ++ x)) w3) := Lib.hid (by have h9 := hb3; rw [← List.map_append, List.append_assoc] at h9; exact h9)
          have HK3 := Lib.hid (HK2.out.trans (Kp.of_bel hk3))
          clear hb3 hk3)
       | (refine (Tryz.Buffer_Write_any B b (L.map u8v) ((uvar n).map u8v) ⟨g1, 0, none⟩ m c1 _ (HH.out.keep HK1.out) (Nat.le_trans hBw HK1.out.size) (one1 _) (by rw [HM.out]; simp) (by show g1 ≠ b; omega) (fun j u hj => ?_) (one1 _) (by have h7 := HU.out; have h8 := HM.out; simp; omega)).mono ?_
          · rw [List.getElem?_map] at hj
            obtain ⟨y, hy, rfl⟩ := Option.map_eq_some_iff.1 hj
            obtain ⟨hjl, rfl⟩ := List.getElem?_eq_some_iff.1 hy
            rw [add_at]
            have h9 := HC1.out j (by simpa using hjl)
            simpa using h9
          rintro e w2 ⟨rfl, hb2, hk2, -⟩
          have HH2 : Hid (IsBuf B b (L ++ uvar n) w2) := Lib.hid (by have h9 := hb2; rw [← List.map_append] at h9; exact h9)
          have hkk : Kp (fun i => B ≤ i) w w2 := HK1.out.keep.trans (Kp.of_bel hk2)
          have HK2 := Lib.hid hkk
          have HX2 := Lib.hid (HX.out.kp hkk (fun i hi e => by omega))
          clear hb2 hk2 hkk)))
  go_ret
  refine ⟨rfl, ?_, HK3.out⟩
  exact HH3.out
end Go.Proofs.YtfodkjpjejoemaaGreatDoor
