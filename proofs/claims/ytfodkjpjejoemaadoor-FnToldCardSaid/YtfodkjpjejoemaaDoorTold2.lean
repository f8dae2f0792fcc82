/-
  FnTold's parts: the bit that is picked by a number.
  Conditions: the array is known whole, the number is not below 0.
-/
import Derived.Test.YtfodkjpjejoemaaDoorTold1
namespace Go.Proofs.YtfodkjpjejoemaaDoor
open Go Go.RowKit

/-- a place whose bit is set -/
def NthIs (ws : List Nat) (e : Ending) : Prop := ∃ i : Nat, e = .returned (.int .i64 i) ∧ bitAt ws i = true

theorem and_bit_of (y j : Nat) (hy : y < 18446744073709551616) (hj : j < 64) : (y.testBit j = false ∧ bits .and .u64 (y : Int) (IntKind.u64.wrap (2 ^ j)) = 0) ∨ (y.testBit j = true ∧ ∃ V : Nat, 0 < V ∧ bits .and .u64 (y : Int) (IntKind.u64.wrap (2 ^ j)) = (V : Int)) := by
  have h : 2 ^ j < 2 ^ 64 := Nat.pow_lt_pow_right (by omega) hj
  have hb := and_bit_pos y j (by simpa using hy) hj
  have he : bits .and .u64 (y : Int) (IntKind.u64.wrap (2 ^ j)) = ((y &&& 2 ^ j : Nat) : Int) := by rw [wrap_bit j hj, u64_and_nat y (2 ^ j) hy (by simpa using h)]
  rw [he] at hb ⊢
  generalize y &&& 2 ^ j = V at hb ⊢
  cases hv : y.testBit j
  · rw [hv] at hb
    left
    have := of_decide_eq_false hb
    exact ⟨rfl, by omega⟩
  · rw [hv] at hb
    right
    have := of_decide_eq_true hb
    exact ⟨rfl, V, by omega, rfl⟩

set_option maxHeartbeats 2000000 in
theorem nth_any (b g n q : Nat) (ws : List Nat) (w : World) (h : BA w b g n ws) (hq : q < wsum ws ws.length) :
    Calls Tryd.prog 104 #[.pointer (some ⟨b, 0, none⟩), .int .i64 q] w fun e w' => NthIs ws e ∧ w = w' := by
  obtain ⟨c0, c1, c2⟩ := h.cells
  have hl := h.len
  have hb := h.bound
  have H := Lib.hid h
  obtain ⟨m, hm⟩ : ∃ m, m = ws.length := ⟨_, rfl⟩
  rw [← hm] at c1 hq
  have hm2 : m ≤ 67108865 := by omega
  have HM := Lib.hid hm
  have hq2 : q ≤ 4294967360 := by
    have h1 := wsum_bits ws m
    have h2 := cntF_le (bitAt ws) (64 * m)
    omega
  have HQ := Lib.hid hq
  clear c0 c2 h hl hm hb hq
  go_enter Tryd.func104, Tryd.ntmps104
  go_wp2
  go_loop [6, 7] (fun cv iv => ∃ i c : Nat, i ≤ m ∧ iv = .int .i64 i ∧ cv = .int .i64 c ∧ Hid (c = wsum ws i) ∧ c ≤ q) (fun _ iv => m - (intOf iv).toNat)
  case atStart => exact ⟨0, 0, Nat.zero_le _, rfl, rfl, Lib.hid rfl, Nat.zero_le _⟩
  case round =>
    obtain ⟨i, c, hi, rfl, rfl, HC, hc⟩ := hrel
    by_cases hlt : i < m
    · obtain ⟨d0, d1⟩ := words_at H.out i (by rw [← HM.out]; exact hlt)
      obtain ⟨y, hy⟩ : ∃ y, y = ws.getD i 0 := ⟨_, rfl⟩
      rw [← hy] at d0 d1
      have HY := Lib.hid hy
      have hkl := cntF_le y.testBit 64
      obtain ⟨k, hk⟩ : ∃ k, k = cntF y.testBit 64 := ⟨_, rfl⟩
      rw [← hk] at hkl
      have HK := Lib.hid hk
      clear hy hk
      by_cases hge : q ≤ c + k
      · go_wp2_with (go_at_call 133; refine (onesCount_any y d1 _).mono ?_; rintro e w1 ⟨rfl, rfl⟩; rw [← HK.out])
        go_loop [6, 9] (fun cv jv => ∃ j u : Nat, j ≤ 64 ∧ jv = .int .i64 j ∧ cv = .int .i64 u ∧ Hid (u = c + cntF y.testBit j) ∧ u ≤ q) (fun _ jv => 64 - (intOf jv).toNat)
        case atStart => exact ⟨0, c, Nat.zero_le _, rfl, rfl, Lib.hid rfl, hc⟩
        case round =>
          obtain ⟨j, u, hj, rfl, rfl, HU, hu⟩ := hrel
          by_cases hj2 : j < 64
          · rcases and_bit_of y j d1 hj2 with ⟨t0, t1⟩ | ⟨t0, V, hV, t1⟩
            · have HT := Lib.hid t0
              clear t0
              go_wp2
              go_round
              case rel =>
                refine ⟨j + 1, u, by omega, by go_num, by go_num, Lib.hid ?_, hu⟩
                show u = c + (cntF y.testBit j + (if y.testBit j = true then 1 else 0))
                rw [HT.out, HU.out]; simp
              case measure => simp [intOf]; omega
            · have HT := Lib.hid t0
              have hV0 : ¬ (V : Int) = 0 := by omega
              clear t0
              by_cases hlq : u < q
              · have hne : ¬ (u : Int) = (q : Int) := by omega
                go_wp2
                go_round
                case rel =>
                  refine ⟨j + 1, u + 1, by omega, by go_num, by go_num, Lib.hid ?_, by omega⟩
                  show u + 1 = c + (cntF y.testBit j + (if y.testBit j = true then 1 else 0))
                  rw [HT.out, HU.out]; simp; omega
                case measure => simp [intOf]; omega
              · obtain rfl : u = q := by omega
                go_wp2
                go_ret
                refine ⟨⟨i * 64 + j, by go_num, ?_⟩, rfl⟩
                rw [show i * 64 + j = 64 * i + j by omega, bitAt_word ws i j hj2, ← HY.out]
                exact HT.out
          · obtain rfl : j = 64 := by omega
            go_wp2
            go_round
            case rel =>
              refine ⟨i + 1, u, by omega, by go_num, by go_num, Lib.hid ?_, hu⟩
              show u = wsum ws i + cntF (ws.getD i 0).testBit 64
              rw [← HY.out, HU.out, HC.out]
            case measure => simp [intOf]; omega
      · go_wp2_with (go_at_call 133; refine (onesCount_any y d1 _).mono ?_; rintro e w1 ⟨rfl, rfl⟩; rw [← HK.out])
        go_round
        case rel =>
          refine ⟨i + 1, c + k, by omega, by go_num, by go_num, Lib.hid ?_, by omega⟩
          show c + k = wsum ws i + cntF (ws.getD i 0).testBit 64
          rw [← HY.out, HK.out, HC.out]
        case measure => simp [intOf]; omega
    · obtain rfl : i = m := by omega
      exfalso
      have h1 := HQ.out
      have h2 := HC.out
      omega

theorem pickFn_any (c z N q : Nat) (w : World) (hc : w.cell? ⟨c, 0, none⟩ = some (.int .i64 z)) (hz : z ≤ 9223372036854775807) (hN : 0 < N) (hN2 : N ≤ 4294967296) (hq : (z : Int).tmod N = (q : Int)) :
    Calls Tryd.prog 76 #[.int .i64 N, .pointer (some ⟨c, 0, none⟩)] w fun e w' => e = .returned (.int .i64 q) ∧ w = w' := by
  go_enter Tryd.func76, Tryd.ntmps76
  go_wp2
  go_ret
  exact ⟨ret_i (by simp), rfl⟩

/-- what picking answers -/
def PickIs (L : List Bool) (e : Ending) : Prop := ∃ a : Nat, e = .returned (.tuple #[.int .i64 a, .bool (decide (0 < cntL L L.length))]) ∧ a ≤ L.length ∧ (0 < cntL L L.length → a < L.length ∧ L.getD a false = true)

theorem getD_true {L : List Bool} {i : Nat} (h : L.getD i false = true) : i < L.length := by
  apply Decidable.byContradiction
  intro hn
  simp [List.getD, List.getElem?_eq_none (show L.length ≤ i by omega)] at h

set_option maxHeartbeats 1000000 in
theorem pickRandom_any (b g c z : Nat) (L : List Bool) (w : World) (h : BA w b g L.length (pack L)) (hl : 0 < L.length) (hc : w.cell? ⟨c, 0, none⟩ = some (.int .i64 z)) (hz : z ≤ 9223372036854775807) :
    Calls Tryd.prog 75 #[.pointer (some ⟨b, 0, none⟩), .func (.func 76) #[] #[.pointer (some ⟨c, 0, none⟩)]] w fun e w' => PickIs L e ∧ w = w' := by
  have hb := h.bound
  have hN2 := cntF_le (fun j => L.getD j false) L.length
  have HN := Lib.hid (numTrue_pack L b g w h hl)
  have HW := Lib.hid (wsum_all L)
  have H := Lib.hid h
  have hpi := fun (a : Nat) (h1 : a ≤ L.length) (h2 : 0 < cntL L L.length → a < L.length ∧ L.getD a false = true) => (show PickIs L (.returned (.tuple #[.int .i64 a, .bool (decide (0 < cntL L L.length))])) from ⟨a, rfl, h1, h2⟩)
  obtain ⟨N, hNN⟩ : ∃ N, N = cntL L L.length := ⟨_, rfl⟩
  rw [← hNN] at HN HW hpi
  have hN3 : N ≤ L.length := by rw [hNN]; exact hN2
  have HPI := Lib.hid hpi
  clear h hpi hNN hN2
  rcases Nat.eq_zero_or_pos N with rfl | hp
  · go_enter Tryd.func75, Tryd.ntmps75
    go_wp2_with (go_at_call 103; refine HN.out.mono ?_; rintro e w' ⟨rfl, rfl⟩)
    go_ret2
    exact ⟨HPI.out 0 (by omega) (fun h => by omega), rfl⟩
  · obtain ⟨q, hq, hqN⟩ : ∃ q : Nat, (z : Int).tmod (N : Int) = (q : Int) ∧ q < N := by
      rw [Int.tmod_eq_emod_of_nonneg (by omega)]
      exact ⟨z % N, by simp, Nat.mod_lt _ hp⟩
    have HF := Lib.hid (pickFn_any c z N q w hc hz hp (by omega) hq)
    have HT := Lib.hid (nth_any b g L.length q (pack L) w H.out (by rw [HW.out]; exact hqN))
    have hN0 : ¬ (N : Int) = 0 := by omega
    clear hq hc
    go_enter Tryd.func75, Tryd.ntmps75
    go_wp2_with (first
      | (go_at_call 103; refine HN.out.mono ?_; rintro e w' ⟨rfl, rfl⟩)
      | (go_at_call 76; refine HF.out.mono ?_; rintro e w' ⟨rfl, rfl⟩)
      | (go_at_call 104
         refine HT.out.mono ?_
         rintro e w' ⟨⟨a, rfl, ha⟩, rfl⟩
         have HA := Lib.hid ha
         have ha0 : ¬ (a : Int) = -1 := by omega
         clear ha))
    go_ret2
    have h1 := HA.out
    rw [bitAt_pack] at h1
    have h2 := getD_true h1
    have h3 := HPI.out a (by omega) (fun _ => ⟨h2, h1⟩)
    rw [decide_eq_true hp] at h3
    exact ⟨h3, rfl⟩

set_option maxHeartbeats 1000000 in
theorem picked_any (v : Value) (L : List Bool) (z : Nat) (w : World) (h : Bools w v L) (hl : 0 < L.length) (hn : L.length ≤ 4294967296) (hz : z ≤ 9223372036854775807) :
    Calls Tryd.prog 40 #[v, .int .i64 z] w fun e w' => PickIs L e ∧ Keep w w' := by
  have hk0 : Keep w (w.alloc (.cells #[.int .i64 z] 3)) := (Kp.refl _ _).alloc _
  have HA := Lib.hid (array_any v L (w.alloc (.cells #[.int .i64 z] 3)) (h.keep hk0) hl hn)
  have HC := Lib.hid (show (w.alloc (.cells #[.int .i64 (z : Int)] 3)).cell? ⟨w.heap.size, 0, none⟩ = some (.int .i64 z) by simp)
  have HK0 := Lib.hid hk0
  obtain ⟨A, cp, rfl, h1, h2, h3, h4⟩ := h
  clear h4 hk0
  go_enter Tryd.func40, Tryd.ntmps40
  go_wp2_with (first
    | (go_at_call 71
       refine HA.out.mono ?_
       rintro e w1 ⟨b, g, rfl, hb, hg, hba, hk⟩
       have HB := Lib.hid hba
       have HK := Lib.hid hk
       clear hba hk)
    | (go_at_call 75
       refine (pickRandom_any b g w.heap.size z L _ HB.out hl (HK.out.cell_of HC.out (fun x => x)) hz).mono ?_
       rintro e w2 ⟨⟨a, rfl, ha1, ha2⟩, rfl⟩
       have HA2 := Lib.hid ha2
       clear ha2))
  go_ret2
  exact ⟨⟨a, rfl, ha1, HA2.out⟩, HK0.out.trans HK.out⟩
end Go.Proofs.YtfodkjpjejoemaaDoor
