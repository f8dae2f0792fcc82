/-
  FnTold's parts: texts joined by nothing.
  Conditions: the list of texts is known; the lengths are bounded.
-/
import Derived.Test.YtfodkjpjejoemaaDoorTold3
namespace Go.Proofs.YtfodkjpjejoemaaDoor
open Go Go.RowKit
attribute [local go_sem ↓] Go.wp_at_zero Go.wp_at_succ

def StrR (_ : World) (u : Value) (s : ByteArray) : Prop := u = .string s
abbrev Strs (w : World) (v : Value) (L : List ByteArray) : Prop := Slc StrR w v L
theorem Strs.keep {w w' : World} {v : Value} {L : List ByteArray} (h : Strs w v L) (k : Keep w w') : Strs w' v L := Slc.keep h k fun _ _ h => h
theorem szS (w : World) : (Go.sizeOf 9).run Tryd.prog w = .ok 1 w := by kernel_rfl
/-- the bytes of texts, one behind the other -/
def allB (L : List ByteArray) : List UInt8 := L.flatMap fun s => s.data.toList
theorem allB_snoc (L : List ByteArray) (s : ByteArray) : allB (L ++ [s]) = allB L ++ s.data.toList := by simp [allB]
theorem allB_length (L : List ByteArray) (M : Nat) (h : ∀ s ∈ L, s.size ≤ M) : (allB L).length ≤ L.length * M := by
  induction L with
  | nil => simp [allB]
  | cons s r ih =>
    have h1 := ih fun x hx => h x (by simp [hx])
    have h2 := h s (by simp)
    rw [size_data] at h2
    show (s.data.toList ++ allB r).length ≤ _
    rw [List.length_append, List.length_cons, Nat.add_mul]
    omega
theorem add_nothing (S : ByteArray) (hs : S.size ≤ 1099511627776) (w : World) : (Op.stringOp .add (S : ByteArray) { data := #[] }).run Tryd.prog w = .ok (.string S) w :=
  addS S { data := #[] } S (by simp) (by have : ({ data := #[] } : ByteArray).size = 0 := rfl; omega) w

def JoinIs (L : List ByteArray) (e : Ending) : Prop := ∃ R : ByteArray, e = .returned (.string R) ∧ R.data.toList = allB L
theorem str_cell {w : World} {g off n c : Nat} {L : List ByteArray} (h : Strs w (.slice (some ⟨g, off, none⟩) n c) L) {k : Nat} (hk : k < L.length) : w.cell? ⟨g, off + k, none⟩ = some (.string L[k]) := by
  obtain ⟨_, _, _, _, h5⟩ := h.of_eq
  obtain ⟨b, o, he, hx⟩ := h5 (by omega)
  simp only [Option.some.injEq, Addr.mk.injEq] at he
  obtain ⟨rfl, rfl, -⟩ := he
  obtain ⟨u, hu, hr⟩ := hx k hk
  rw [hu, show u = _ from hr]

set_option maxRecDepth 100000 in
set_option maxHeartbeats 4000000 in
theorem join_any (v : Value) (L : List ByteArray) (w : World) (h : Strs w v L) (hn : L.length ≤ 1000) (hz : ∀ s ∈ L, s.size ≤ 1000) :
    Calls Tryd.prog 152 #[v, .string { data := #[] }] w fun e w' => JoinIs L e ∧ Keep w w' := by
  have H := Lib.hid h
  have HZ := Lib.hid hz
  obtain ⟨A, c, rfl, a1, a2, a3, a4⟩ := h
  unfold maxLen at a2
  clear hz a3
  rcases (show L.length = 0 ∨ L.length = 1 ∨ 2 ≤ L.length by omega) with h0 | h1 | h2
  · obtain rfl : L = [] := List.eq_nil_of_length_eq_zero h0
    clear h0 a4
    go_enter Tryd.func152, Tryd.ntmps152
    go_wp2_with fail
    go_ret
    exact ⟨⟨_, rfl, rfl⟩, Kp.refl _ _⟩
  · obtain ⟨s, rfl⟩ : ∃ s, L = [s] := List.length_eq_one_iff.1 h1
    obtain ⟨g, off, rfl, hx⟩ := a4 (by simp)
    obtain ⟨u, hu, hr⟩ := hx 0 (by simp)
    obtain rfl : u = .string s := hr
    simp only [Nat.add_zero] at hu
    clear h1 hx a4
    go_enter Tryd.func152, Tryd.ntmps152
    go_wp2_with fail
    go_ret
    exact ⟨⟨_, rfl, by simp [allB]⟩, Kp.refl _ _⟩
  · obtain ⟨g, off, rfl, hx⟩ := a4 (by omega)
    have hg : g < w.heap.size := by
      obtain ⟨u, hu, hr⟩ := hx 0 (by omega)
      have := World.block_lt_of_cell? w _ hu
      simpa using this
    obtain ⟨n, hnn⟩ : ∃ n, n = L.length := ⟨_, rfl⟩
    have hc0 := str_cell H.out (k := 0) (by omega)
    obtain ⟨s0, hs0⟩ : ∃ s0, s0 = L[0] := ⟨_, rfl⟩
    rw [← hs0] at hc0
    rw [Nat.add_zero] at hc0
    have hs0z : s0.size ≤ 1000 := by rw [hs0]; exact HZ.out _ (List.getElem_mem _)
    have HS0 := Lib.hid (show allB (L.take 1) = s0.data.toList by
      rw [show 1 = 0 + 1 from rfl, take_snoc L 0 (by omega), List.take_zero, ← hs0]; simp [allB])
    rw [← hnn] at a1 hn h2 H ⊢
    have HN := Lib.hid hnn
    obtain ⟨m, hm⟩ : ∃ m, n = m + 1 := ⟨n - 1, by omega⟩
    subst hm
    clear hnn hs0 hx a4
    go_enter Tryd.func152, Tryd.ntmps152
    go_wp2_with fail
    go_loop [5, 41] (fun av iv => ∃ i a : Nat, i ≤ m + 1 ∧ iv = .int .i64 i ∧ av = .int .i64 a ∧ a ≤ i * 1000) (fun _ iv => m + 1 - (intOf iv).toNat)
    case atStart => exact ⟨0, 0, Nat.zero_le _, rfl, rfl, by omega⟩
    case round =>
      obtain ⟨i, a, hi, rfl, rfl, ha⟩ := hrel
      by_cases hlt : i < m + 1
      · have hc1 := str_cell H.out (k := i) (by rw [← HN.out]; exact hlt)
        obtain ⟨s, hs⟩ : ∃ s, s = L[i]'(by rw [← HN.out]; exact hlt) := ⟨_, rfl⟩
        rw [← hs] at hc1
        have hsz : s.size ≤ 1000 := by rw [hs]; exact HZ.out _ (List.getElem_mem _)
        clear hs
        go_wp2_with fail
        go_round
        case rel => exact ⟨i + 1, a + s.size, by omega, by go_num, by go_num, by omega⟩
        case measure => simp [intOf]; omega
      · obtain rfl : i = m + 1 := by omega
        have hk0 : Keep w (w.alloc (.cells #[.pointer none, .slice none 0 0] 199)) := (Kp.refl _ _).alloc _
        go_wp2_with (first
          | (go_at_call 142
             refine (grow_any a w (by omega)).mono ?_
             rintro e w1 ⟨rfl, hb1, hk1⟩
             have HB1 := Lib.hid hb1
             have HK1 := Lib.hid hk1
             have hc01 := hk1.cell_of hc0 (fun x => x)
             clear hb1 hk1)
          | (go_at_call 159
             refine (wstr_any w.heap.size w.heap.size [] s0 _ HB1.out (by simp; omega)).mono ?_
             rintro e w2 ⟨rfl, hb2, hk2⟩
             rw [List.nil_append] at hb2
             have HB2 := Lib.hid hb2
             have HK2 := Lib.hid (HK1.out.then_below hk2)
             clear hb2 hk2))
        go_loopw [65] (fun iv wr => ∃ i : Nat, i ≤ m ∧ iv = .int .i64 i ∧ Bld wr w.heap.size w.heap.size (allB (L.take (i + 1))) ∧ Keep w wr) (fun iv _ => m - (intOf iv).toNat)
        case atStart => exact ⟨0, Nat.zero_le _, rfl, by rw [HS0.out]; exact HB2.out, HK2.out⟩
        case round =>
          obtain ⟨j, hj, rfl, hb, hk⟩ := hrel
          have HB := Lib.hid hb
          have HK := Lib.hid hk
          have hlen := allB_length (L.take (j + 1)) 1000 (fun s hs => HZ.out s (List.mem_of_mem_take hs))
          rw [List.length_take] at hlen
          have hlen2 : (allB (L.take (j + 1))).length ≤ 1001000 := by
            have := Nat.mul_le_mul_right 1000 (Nat.min_le_left (j + 1) L.length)
            omega
          clear hb hlen
          by_cases hlt2 : j < m
          · have hjl : j + 1 < L.length := by rw [← HN.out]; omega
            have hc1 := str_cell (Strs.keep H.out hk) (k := j + 1) hjl
            rw [show off + (j + 1) = off + 1 + j by omega] at hc1
            obtain ⟨s, hs⟩ : ∃ s, s = L[j + 1] := ⟨_, rfl⟩
            rw [← hs] at hc1
            have hsz : s.size ≤ 1000 := by rw [hs]; exact HZ.out _ (List.getElem_mem _)
            have HT := Lib.hid (show allB (L.take (j + 1 + 1)) = allB (L.take (j + 1)) ++ s.data.toList by rw [take_snoc L (j + 1) hjl, allB_snoc, hs])
            clear hs hk hjl
            go_wp2_with (first
              | (go_at_call 159; first
                 | (refine (wstr_any w.heap.size w.heap.size (allB (L.take (j + 1))) s _ HB3.out (by omega)).mono ?_
                    rintro e w4 ⟨rfl, hb4, hk4⟩
                    rw [← HT.out] at hb4
                    have HB4 := Lib.hid hb4
                    have HK4 := Lib.hid (HK3.out.then_below hk4)
                    clear hb4 hk4)
                 | (refine (wstr_any w.heap.size w.heap.size (allB (L.take (j + 1))) { data := #[] } _ HB.out (by have : ({ data := #[] } : ByteArray).size = 0 := rfl; omega)).mono ?_
                    rintro e w3 ⟨rfl, hb3, hk3⟩
                    have hb3' : Bld w3 w.heap.size w.heap.size (allB (L.take (j + 1))) := by simpa using hb3
                    have HB3 := Lib.hid hb3'
                    have HK3 := Lib.hid (HK.out.then_below hk3)
                    clear hb3 hk3 hb3')))
            go_roundw
            case rel => exact ⟨j + 1, by omega, by go_num, HB4.out, HK4.out⟩
            case measure => simp [intOf]; omega
          · obtain rfl : j = m := by omega
            have hall : L.take (j + 1) = L := List.take_of_length_le (by rw [← HN.out]; exact Nat.le_refl _)
            rw [hall] at HB
            clear hk hall
            go_wp2_with (go_at_call 144
                         refine (bstr_any w.heap.size w.heap.size (allB L) _ HB.out).mono ?_
                         rintro e w5 ⟨rfl, hk5⟩
                         have HK5 := Lib.hid (HK.out.then_below hk5)
                         clear hk5)
            go_ret
            exact ⟨⟨_, rfl, rfl⟩, HK5.out⟩
end Go.Proofs.YtfodkjpjejoemaaDoor
