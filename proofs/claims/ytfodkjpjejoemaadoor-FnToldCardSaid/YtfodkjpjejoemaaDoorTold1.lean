/-
  FnTold's parts: how many bits a word has; whether a list has none, has all; how many it has.
  Conditions: the array is known whole.
-/
import Derived.Test.YtfodkjpjejoemaaDoorTold0
import Derived.Laws.Bits128
import Derived.StillTailTactics
import Derived.Deep.DrawnRows
import Derived.Deep.RegionHeld3
import Derived.Deep.RegionLaw
namespace Go.Proofs.YtfodkjpjejoemaaDoor
open Go Go.RowKit
attribute [local go_sem ↓] Go.wp_at_zero Go.wp_at_succ

theorem and_lit (z C : Int) (n c r : Nat) (hz : z = n) (hC : C = (c : Int)) (hn : n < 18446744073709551616) (hc : c < 18446744073709551616) (hr : n &&& c = r) : bits .and .u64 z C = (r : Int) := by rw [hz, hC, u64_and_nat _ _ hn hc, hr]
theorem wrap_lit (z : Int) (n : Nat) (hz : z = n) (hn : n < 18446744073709551616) : IntKind.u64.wrap z = (n : Int) := by
  rw [hz]; simp [IntKind.wrap, IntKind.bits, IntKind.signed]; omega
theorem steps_of (x : Nat) (hx : x < 18446744073709551616) : ∃ p1 p2 x1 p3 p4 x2 q x3 : Nat, x / 2 &&& 6148914691236517205 = p1 ∧ x &&& 6148914691236517205 = p2 ∧ p1 + p2 = x1 ∧ x1 < 18446744073709551616 ∧
    x1 / 4 &&& 3689348814741910323 = p3 ∧ x1 &&& 3689348814741910323 = p4 ∧ p3 + p4 = x2 ∧ x2 < 18446744073709551616 ∧ x2 / 16 + x2 = q ∧ q < 18446744073709551616 ∧ q &&& 1085102592571150095 = x3 ∧ x3 = byteC 8 x := by
  have r1 : rep 85 8 = 6148914691236517205 := by decide
  have r2 : rep 51 8 = 3689348814741910323 := by decide
  have r3 : rep 15 8 = 1085102592571150095 := by decide
  have a1 : x / 2 &&& 6148914691236517205 ≤ 6148914691236517205 := Nat.and_le_right
  have a2 : x &&& 6148914691236517205 ≤ 6148914691236517205 := Nat.and_le_right
  obtain ⟨x1, hx1⟩ : ∃ x1, (x / 2 &&& 6148914691236517205) + (x &&& 6148914691236517205) = x1 := ⟨_, rfl⟩
  have a3 : x1 / 4 &&& 3689348814741910323 ≤ 3689348814741910323 := Nat.and_le_right
  have a4 : x1 &&& 3689348814741910323 ≤ 3689348814741910323 := Nat.and_le_right
  obtain ⟨x2, hx2⟩ : ∃ x2, (x1 / 4 &&& 3689348814741910323) + (x1 &&& 3689348814741910323) = x2 := ⟨_, rfl⟩
  refine ⟨_, _, x1, _, _, x2, _, _, rfl, rfl, hx1, by omega, rfl, rfl, hx2, by omega, rfl, by omega, rfl, ?_⟩
  rw [← steps_all 8 x]
  unfold st3 st2 st1
  rw [r1, r2, r3, hx1, hx2]

set_option maxHeartbeats 1000000 in
theorem onesCount_any (x : Nat) (hx : x < 18446744073709551616) (w : World) :
    Calls Tryd.prog 133 #[.int .u64 x] w fun e w' => e = .returned (.int .i64 (cntF x.testBit 64 : Nat)) ∧ w = w' := by
  obtain ⟨p1, p2, x1, p3, p4, x2, q, x3, h1, h2, h3, h4, h5, h6, h7, h8, h9, h10, h11, h12⟩ := steps_of x hx
  obtain ⟨y1, y2, y3, s1, s2, s3, s4, s5, s6, s7, s8⟩ := sum_bytes x
  rw [← h12] at s1 s4
  have hc := cntF_le x.testBit 64
  have f1 : bits .and .u64 ((x : Int) / 2) 6148914691236517205 = (p1 : Int) := and_lit _ _ (x / 2) 6148914691236517205 p1 (by omega) rfl (by omega) (by decide) h1
  have f2 : bits .and .u64 (x : Int) 6148914691236517205 = (p2 : Int) := and_lit _ _ x 6148914691236517205 p2 rfl rfl hx (by decide) h2
  have f3 : IntKind.u64.wrap ((p1 : Int) + p2) = (x1 : Int) := wrap_lit _ x1 (by omega) h4
  have f4 : bits .and .u64 ((x1 : Int) / 4) 3689348814741910323 = (p3 : Int) := and_lit _ _ (x1 / 4) 3689348814741910323 p3 (by omega) rfl (by omega) (by decide) h5
  have f5 : bits .and .u64 (x1 : Int) 3689348814741910323 = (p4 : Int) := and_lit _ _ x1 3689348814741910323 p4 rfl rfl h4 (by decide) h6
  have f6 : IntKind.u64.wrap ((p3 : Int) + p4) = (x2 : Int) := wrap_lit _ x2 (by omega) h8
  have f7 : IntKind.u64.wrap ((x2 : Int) / 16 + x2) = (q : Int) := wrap_lit _ q (by omega) h10
  have f8 : bits .and .u64 (q : Int) 1085102592571150095 = (x3 : Int) := and_lit _ _ q 1085102592571150095 x3 rfl rfl h10 (by decide) h11
  have f9 : IntKind.u64.wrap ((x3 : Int) + (x3 : Int) / 256) = (y1 : Int) := wrap_lit _ y1 (by omega) s5
  have f10 : IntKind.u64.wrap ((y1 : Int) + (y1 : Int) / 65536) = (y2 : Int) := wrap_lit _ y2 (by omega) s6
  have f11 : IntKind.u64.wrap ((y2 : Int) + (y2 : Int) / 4294967296) = (y3 : Int) := wrap_lit _ y3 (by omega) (by omega)
  have S8 := Lib.hid s8
  clear h1 h2 h3 h4 h5 h6 h7 h8 h9 h10 h11 h12 s1 s2 s3 s4 s5 s6 s8 hx
  go_enter Tryd.func133, Tryd.ntmps133
  go_wp2
  go_ret
  refine ⟨ret_i ?_, rfl⟩
  have e := S8.out
  rw [i64_and127]
  omega

theorem words_at {w : World} {b g n : Nat} {ws : List Nat} (h : BA w b g n ws) (k : Nat) (hk : k < ws.length) : w.cell? ⟨g, k, none⟩ = some (.int .u64 ((ws.getD k 0 : Nat) : Int)) ∧ ws.getD k 0 < 18446744073709551616 := by
  have := h.cells.2.2 k hk
  have e : ws.getD k 0 = ws[k] := by simp [List.getD, hk]
  rw [e]
  exact ⟨this, by have := h.small ws[k] (List.getElem_mem hk); simpa using this⟩

set_option maxHeartbeats 1000000 in
theorem isEmpty_any (b g n : Nat) (ws : List Nat) (w : World) (h : BA w b g n ws) :
    Calls Tryd.prog 72 #[.pointer (some ⟨b, 0, none⟩)] w fun e w' => e = .returned (.bool (decide (wsum ws ws.length = 0))) ∧ w = w' := by
  obtain ⟨c0, c1, c2⟩ := h.cells
  have hl := h.len
  have hb := h.bound
  have H := Lib.hid h
  have hl2 : ws.length ≤ 67108865 := by omega
  clear c2 c0 h hl hb
  go_enter Tryd.func72, Tryd.ntmps72
  go_wp2
  go_loop [12] (fun i => ∃ k : Nat, k ≤ ws.length ∧ i = .int .i64 k ∧ Hid (∀ j, j < k → cntF (ws.getD j 0).testBit 64 = 0)) (fun i => ws.length - (intOf i).toNat)
  case atStart => exact ⟨0, Nat.zero_le _, rfl, Lib.hid fun j hj => by omega⟩
  case round =>
    obtain ⟨k, hk, rfl, HZ⟩ := hrel
    by_cases hlt : k < ws.length
    · obtain ⟨d0, d1⟩ := words_at H.out k hlt
      obtain ⟨x, hx⟩ : ∃ x, x = ws.getD k 0 := ⟨_, rfl⟩
      rw [← hx] at d0 d1
      have HX := Lib.hid hx
      clear hx
      rcases Nat.eq_zero_or_pos x with rfl | hp
      · go_wp2
        go_round
        case rel =>
          refine ⟨k + 1, by omega, by go_num, Lib.hid fun j hj => ?_⟩
          by_cases e : j = k
          · subst e; rw [← HX.out]; exact cntF_zero.2 fun _ _ => by simp
          · exact HZ.out j (by omega)
        case measure => simp [intOf]; omega
      · go_wp2
        go_ret
        refine ⟨ret_b (Eq.symm (decide_eq_false fun h0 => ?_)), rfl⟩
        have := wsum_zero.1 h0 k hlt
        rw [← HX.out] at this
        exact (word_nonzero (by simpa using d1)).1 (by omega) this
    · obtain rfl : k = ws.length := by omega
      go_wp2
      go_ret
      exact ⟨ret_b (Eq.symm (decide_eq_true (wsum_zero.2 HZ.out))), rfl⟩

/-- what IsFull answers -/
def FullIs (n : Nat) (ws : List Nat) (e : Ending) : Prop := ∃ r : Bool, e = .returned (.bool r) ∧ (r = true ↔ ((∀ i, i < ws.length - 1 → ws.getD i 0 = 2 ^ 64 - 1) ∧ (ws.getD (ws.length - 1) 0) % 2 ^ ((n + 63) % 64 + 1) = 2 ^ ((n + 63) % 64 + 1) - 1))

set_option maxHeartbeats 2000000 in
theorem isFull_any (b g n : Nat) (ws : List Nat) (w : World) (h : BA w b g n ws) (hn : 0 < n) :
    Calls Tryd.prog 73 #[.pointer (some ⟨b, 0, none⟩)] w fun e w' => FullIs n ws e ∧ Keep w w' := by
  obtain ⟨c0, c1, c2⟩ := h.cells
  have hl := h.len
  have hb := h.bound
  have H := Lib.hid h
  obtain ⟨m, hm⟩ : ∃ m, ws.length = m + 1 := ⟨ws.length - 1, by omega⟩
  have hm2 : m ≤ 67108865 := by omega
  obtain ⟨k, hk⟩ : ∃ k, k = (n + 63) % 64 + 1 := ⟨_, rfl⟩
  have hk1 : 1 ≤ k := by omega
  have hk2 : k ≤ 64 := by omega
  obtain ⟨dl, dl2⟩ := words_at H.out m (by omega)
  obtain ⟨x, hx⟩ : ∃ x, x = ws.getD m 0 := ⟨_, rfl⟩
  rw [← hx] at dl dl2
  have HX := Lib.hid hx
  have HM := Lib.hid hm
  rw [hm] at c1
  have HK := Lib.hid hk
  clear c2 h hl hx hm hk
  go_enter Tryd.func73, Tryd.ntmps73
  go_wp2
  go_quiet (fail)
  go_wp2
  have hfull := fun (r : Bool) (h : r = true ↔ (∀ i, i < m → ws.getD i 0 = 2 ^ 64 - 1) ∧ x % 2 ^ k = 2 ^ k - 1) => (show FullIs n ws (.returned (.bool r)) from ⟨r, rfl, by
    rw [HM.out, ← HK.out, show m + 1 - 1 = m by omega, ← HX.out]; exact h⟩)
  have HFU := Lib.hid hfull
  clear hfull
  go_loop [21] (fun i => ∃ j : Nat, j ≤ m ∧ i = .int .i64 j ∧ Hid (∀ l, l < j → ws.getD l 0 = 2 ^ 64 - 1)) (fun i => m - (intOf i).toNat)
  case atStart => exact ⟨0, Nat.zero_le _, rfl, Lib.hid fun j hj => by omega⟩
  case round =>
    obtain ⟨j, hj, rfl, HZ⟩ := hrel
    by_cases hlt : j < m
    · obtain ⟨d0, d1⟩ := words_at H.out j (by rw [HM.out]; omega)
      obtain ⟨y, hy⟩ : ∃ y, y = ws.getD j 0 := ⟨_, rfl⟩
      rw [← hy] at d0 d1
      have HY := Lib.hid hy
      clear hy
      obtain ⟨r, hr⟩ : ∃ r, r = 2 ^ 64 - 1 - y := ⟨_, rfl⟩
      have hnw : bits .xor .u64 (if IntKind.u64.signed = true then (-1 : Int) else IntKind.u64.max) (y : Int) = (r : Int) := by rw [show (if IntKind.u64.signed = true then (-1 : Int) else IntKind.u64.max) = IntKind.u64.max from rfl, not_word y (by simpa using d1), hr]
      have HR := Lib.hid hr
      clear hr
      rcases Nat.eq_zero_or_pos r with rfl | hp
      · have hnw0 : bits .xor .u64 (if IntKind.u64.signed = true then (-1 : Int) else IntKind.u64.max) (y : Int) = 0 := hnw
        clear hnw
        go_wp2
        go_round
        case rel =>
          refine ⟨j + 1, by omega, by go_num, Lib.hid fun l hl => ?_⟩
          by_cases e : l = j
          · subst e; rw [← HY.out]; have := HR.out; omega
          · exact HZ.out l (by omega)
        case measure => simp [intOf]; omega
      · have hne : ((r : Int) != 0) = true := by simp; omega
        go_wp2
        go_ret
        refine ⟨HFU.out false ⟨fun h => absurd h (by decide), fun h => ?_⟩, (Kp.refl _ _).drewN _⟩
        have h1 := h.1 j hlt
        rw [← HY.out] at h1
        have := HR.out
        omega
    · obtain rfl : j = m := by omega
      have hkk : ((n : Int) + 63) % 64 + 1 = (k : Int) := by have := HK.out; omega
      obtain ⟨P, hP⟩ : ∃ P, P = 2 ^ k % 2 ^ 64 := ⟨_, rfl⟩
      have hpow : IntKind.u64.wrap (2 ^ k) = (P : Int) := by
        have e : ((2 : Int) ^ k) = ((2 ^ k : Nat) : Int) := by simp
        rw [e, hP]
        generalize 2 ^ k = m
        simp [IntKind.wrap, IntKind.bits, IntKind.signed]
      have hQ : IntKind.u64.wrap ((P : Int) - 1) = ((2 ^ k - 1 : Nat) : Int) := by
        have h64 : k = 64 ∨ k < 64 := by omega
        rcases h64 with h64 | h64
        · subst h64; rw [hP]; decide
        · have h3 : 2 ^ k < 2 ^ 64 := Nat.pow_lt_pow_right (by omega) h64
          have h4 : 0 < 2 ^ k := Nat.pow_pos (by omega)
          rw [hP, Nat.mod_eq_of_lt h3]
          generalize 2 ^ k = m at h3 h4
          exact wrap_lit _ _ (by omega) (by omega)
      have hQ2 : 2 ^ k - 1 < 18446744073709551616 := by
        have : 2 ^ k ≤ 2 ^ 64 := Nat.pow_le_pow_right (by omega) hk2
        omega
      obtain ⟨Q, hQe⟩ : ∃ Q, Q = 2 ^ k - 1 := ⟨_, rfl⟩
      rw [← hQe] at hQ hQ2
      obtain ⟨X, hX⟩ : ∃ X, X = (x + 1) % 2 ^ 64 := ⟨_, rfl⟩
      have hXw : IntKind.u64.wrap ((x : Int) + 1) = (X : Int) := by
        rw [hX]; simp [IntKind.wrap, IntKind.bits, IntKind.signed]
      have hX2 : X < 18446744073709551616 := by omega
      obtain ⟨R, hR⟩ : ∃ R, R = X &&& Q := ⟨_, rfl⟩
      have hand : bits .and .u64 (X : Int) (Q : Int) = (R : Int) := by rw [u64_and_nat X Q hX2 hQ2, hR]
      have hlast := last_mask x k hk1 hk2
      rw [← hX, ← hQe, ← hR, hQe] at hlast
      have HL := Lib.hid hlast
      clear hP hQe hX hR hlast hQ2 hX2
      go_wp2
      go_quiet (fail)
      go_wp2
      go_ret
      refine ⟨HFU.out _ ⟨fun h => ⟨HZ.out, HL.out.1 (by simpa using h)⟩, fun h => ?_⟩, (Kp.refl _ _).drewN _⟩
      rw [HL.out.2 h.2]
      rfl

set_option maxHeartbeats 2000000 in
theorem numTrueIx_any (b g n : Nat) (ws : List Nat) (w : World) (h : BA w b g n ws) (hn : 0 < n) :
    Calls Tryd.prog 103 #[.pointer (some ⟨b, 0, none⟩)] w fun e w' => e = .returned (.int .i64 ((wsum ws (ws.length - 1) + cntF (ws.getD (ws.length - 1) 0).testBit (n - (ws.length - 1) * 64) : Nat) : Int)) ∧ w = w' := by
  obtain ⟨c0, c1, c2⟩ := h.cells
  have hl := h.len
  have hb := h.bound
  have H := Lib.hid h
  obtain ⟨m, hm⟩ : ∃ m, ws.length = m + 1 := ⟨ws.length - 1, by omega⟩
  have hm2 : m ≤ 67108865 := by omega
  obtain ⟨dl, dl2⟩ := words_at H.out m (by omega)
  obtain ⟨x, hx⟩ : ∃ x, x = ws.getD m 0 := ⟨_, rfl⟩
  rw [← hx] at dl dl2
  have HX := Lib.hid hx
  have HM := Lib.hid hm
  rw [hm] at c1 ⊢
  obtain ⟨r, hr⟩ : ∃ r, n = m * 64 + r := ⟨n - m * 64, by omega⟩
  have hr2 : r ≤ 64 := by omega
  rw [show m + 1 - 1 = m by omega, ← hx, show n - m * 64 = r by omega]
  have hrr : (n : Int) - (m : Int) * 64 = (r : Int) := by omega
  clear c2 h hl hx hm hr
  go_enter Tryd.func103, Tryd.ntmps103
  go_wp2
  go_loop [3, 5] (fun v i => ∃ j : Nat, ∃ s : Nat, j ≤ m ∧ i = .int .i64 j ∧ v = .int .i64 s ∧ Hid (s = wsum ws j) ∧ s ≤ j * 64) (fun _ i => m - (intOf i).toNat)
  case atStart => exact ⟨0, 0, Nat.zero_le _, rfl, rfl, Lib.hid rfl, by omega⟩
  case round =>
    obtain ⟨j, s, hj, rfl, rfl, HS, hs⟩ := hrel
    by_cases hlt : j < m
    · obtain ⟨d0, d1⟩ := words_at H.out j (by rw [HM.out]; omega)
      obtain ⟨y, hy⟩ : ∃ y, y = ws.getD j 0 := ⟨_, rfl⟩
      rw [← hy] at d0 d1
      have HY := Lib.hid hy
      have hcl := cntF_le y.testBit 64
      obtain ⟨c, hc⟩ : ∃ c, c = cntF y.testBit 64 := ⟨_, rfl⟩
      rw [← hc] at hcl
      have HC := Lib.hid hc
      clear hy hc
      go_wp2_with (go_at_call 133; refine (onesCount_any y d1 _).mono ?_; rintro e w1 ⟨rfl, rfl⟩; rw [← HC.out])
      go_round
      case rel =>
        refine ⟨j + 1, s + c, by omega, by go_num, by go_num, Lib.hid ?_, by omega⟩
        show s + c = wsum ws j + cntF (ws.getD j 0).testBit 64
        rw [HS.out, HC.out, HY.out]
      case measure => simp [intOf]; omega
    · obtain rfl : j = m := by omega
      go_wp2
      go_loop [3, 7] (fun v i => ∃ l : Nat, ∃ u : Nat, l ≤ r ∧ i = .int .i64 l ∧ v = .int .i64 u ∧ Hid (u = s + cntF x.testBit l) ∧ u ≤ s + l) (fun _ i => r - (intOf i).toNat)
      case atStart => exact ⟨0, s, Nat.zero_le _, rfl, rfl, Lib.hid rfl, by omega⟩
      case round =>
        obtain ⟨l, u, hl, rfl, rfl, HU, hu⟩ := hrel
        by_cases hlt2 : l < r
        · have hbit := and_bit_pos x l (by simpa using dl2) (by omega)
          cases hv : x.testBit l
          · rw [hv] at hbit
            have hbit' : ¬ (0 < bits .and .u64 (x : Int) (IntKind.u64.wrap (2 ^ l))) := by simpa using hbit
            have HVV := Lib.hid hv
            clear hbit hv
            go_wp2
            go_round
            case rel =>
              refine ⟨l + 1, u, by omega, by go_num, by go_num, Lib.hid ?_, by omega⟩
              show u = s + (cntF x.testBit l + (if x.testBit l = true then 1 else 0))
              rw [HVV.out, HU.out]; simp
            case measure => simp [intOf]; omega
          · rw [hv] at hbit
            have hbit' : 0 < bits .and .u64 (x : Int) (IntKind.u64.wrap (2 ^ l)) := by simpa using hbit
            have HVV := Lib.hid hv
            clear hbit hv
            go_wp2
            go_round
            case rel =>
              refine ⟨l + 1, u + 1, by omega, by go_num, by go_num, Lib.hid ?_, by omega⟩
              show u + 1 = s + (cntF x.testBit l + (if x.testBit l = true then 1 else 0))
              rw [HVV.out, HU.out]; simp; omega
            case measure => simp [intOf]; omega
        · obtain rfl : l = r := by omega
          go_wp2
          go_ret
          refine ⟨?_, rfl⟩
          show Ending.returned (.int .i64 (u : Int)) = _
          rw [HU.out, HS.out]
          simp

/-- the number of a list's bits that are set, where they lie in an array -/
theorem numTrue_pack (L : List Bool) (b g : Nat) (w : World) (h : BA w b g L.length (pack L)) (hn : 0 < L.length) :
    Calls Tryd.prog 103 #[.pointer (some ⟨b, 0, none⟩)] w fun e w' => e = .returned (.int .i64 (cntL L L.length : Nat)) ∧ w = w' := by
  have := numTrueIx_any b g L.length (pack L) w h hn
  rwa [wsum_last L hn] at this

theorem numTrueM_any (L : List Bool) (b g : Nat) (w : World) (h : BA w b g L.length (pack L)) (hn : 0 < L.length) :
    Calls Tryd.prog 74 #[.pointer (some ⟨b, 0, none⟩)] w fun e w' => e = .returned (.int .i64 (cntL L L.length : Nat)) ∧ w = w' := by
  have HN := Lib.hid (numTrue_pack L b g w h hn)
  clear h
  go_enter Tryd.func74, Tryd.ntmps74
  go_wp2_with (go_at_call 103; refine HN.out.mono ?_; rintro e w' ⟨rfl, rfl⟩)
  go_ret
  exact ⟨rfl, rfl⟩

set_option maxHeartbeats 1000000 in
theorem told_any (v : Value) (L : List Bool) (w : World) (h : Bools w v L) (hl : 0 < L.length) (hn : L.length ≤ 4294967296) :
    Calls Tryd.prog 39 #[v] w fun e w' => e = .returned (.tuple #[.bool (decide (cntL L L.length = 0)), .bool (decide (cntL L L.length = L.length)), .int .i64 (cntL L L.length : Nat)]) ∧ Keep w w' := by
  have HA := Lib.hid (array_any v L w h hl hn)
  obtain ⟨A, c, rfl, h1, h2, h3, h4⟩ := h
  clear h4
  go_enter Tryd.func39, Tryd.ntmps39
  go_wp2_with (first
    | (go_at_call 71; refine HA.out.mono ?_; rintro e w1 ⟨b, g, rfl, hb, hg, hba, hk⟩; have HB := Lib.hid hba; have HK := Lib.hid hk; clear hba hk)
    | (go_at_call 72; refine (isEmpty_any b g _ _ _ HB.out).mono ?_; rintro e w2 ⟨rfl, rfl⟩; rw [wsum_all])
    | (go_at_call 73
       refine (isFull_any b g _ _ _ HB.out hl).mono ?_
       rintro e w3 ⟨⟨r, rfl, hr⟩, hk3⟩
       rw [← full_words L hl] at hr
       have hr2 : r = decide (cntL L L.length = L.length) := by
         cases r
         · exact (decide_eq_false fun h => by have := hr.2 h; cases this).symm
         · exact (decide_eq_true (hr.1 rfl)).symm
       rw [hr2]
       have HB3 := Lib.hid (HB.out.kp hk3 (fun x => x) (fun x => x))
       have HK3 := Lib.hid hk3
       clear hk3 hr hr2)
    | (go_at_call 74
       refine (numTrueM_any L b g _ HB3.out hl).mono ?_
       rintro e w4 ⟨rfl, rfl⟩))
  go_ret3
  exact ⟨rfl, HK.out.trans HK3.out⟩
end Go.Proofs.YtfodkjpjejoemaaDoor
