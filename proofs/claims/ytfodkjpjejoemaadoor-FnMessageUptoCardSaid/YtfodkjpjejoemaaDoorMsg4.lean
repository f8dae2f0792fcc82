/-
  Messages: a number read.
  Conditions: the slice begins with the number's bytes.
-/
import Derived.Test.YtfodkjpjejoemaaDoorMsg3
namespace Go.Proofs.YtfodkjpjejoemaaDoor
open Go Go.RowKit
attribute [local go_sem ↓] Go.wp_at_zero Go.wp_at_succ

theorem shl64 (c s C : Nat) (h : C = c * 2 ^ s) (hC : C < 18446744073709551616) (hs : s ≤ 63) : IntKind.u64.wrap ((c : Int) * 2 ^ s) = (C : Int) := by
  have e : (c : Int) * 2 ^ s = (C : Int) := by
    rw [h, Int.natCast_mul, Int.natCast_pow]; rfl
  rw [e]
  simp only [IntKind.wrap, IntKind.bits, IntKind.signed]
  simp; omega

theorem uvar_get : ∀ (i n : Nat) (h : i < (uvar n).length),
    (i + 1 = (uvar n).length ∧ n / 128 ^ i < 128 ∧ (uvar n)[i].toNat = n / 128 ^ i) ∨ (i + 1 < (uvar n).length ∧ 128 ≤ n / 128 ^ i ∧ (uvar n)[i].toNat = n / 128 ^ i % 128 + 128) := by
  intro i
  induction i with
  | zero =>
    intro n h
    by_cases h0 : n < 128
    · left
      simp [uvar_small h0, UInt8.toNat_ofNat']
      omega
    · right
      have hp := uvar_pos (n / 128)
      simp only [uvar_big h0, List.length_cons, List.getElem_cons_zero, Nat.pow_zero, Nat.div_one, UInt8.toNat_ofNat']
      omega
  | succ i ih =>
    intro n h
    by_cases h0 : n < 128
    · exfalso
      simp [uvar_small h0] at h
    · have h' : i < (uvar (n / 128)).length := by simpa [uvar_big h0] using h
      have e : n / 128 ^ (i + 1) = n / 128 / 128 ^ i := by rw [Nat.pow_succ, Nat.mul_comm, Nat.div_div_eq_div_mul]
      simp only [uvar_big h0, List.length_cons, List.getElem_cons_succ, e]
      rcases ih (n / 128) h' with ⟨a, b, c⟩ | ⟨a, b, c⟩
      · left; exact ⟨by omega, b, c⟩
      · right; exact ⟨by omega, b, c⟩
theorem uvar_getD (i n L : Nat) (hL : L = (uvar n).length) (h : i < L) :
    (i + 1 = L ∧ n / 128 ^ i < 128 ∧ ((uvar n).getD i 0).toNat = n / 128 ^ i) ∨ (i + 1 < L ∧ 128 ≤ n / 128 ^ i ∧ ((uvar n).getD i 0).toNat = n / 128 ^ i % 128 + 128) := by
  subst hL
  have := uvar_get i n h
  simpa [List.getD, h] using this
theorem pow_128 (i : Nat) : 128 ^ i = 2 ^ (7 * i) := by rw [Nat.pow_mul]

theorem mod_next (n i : Nat) : n % 128 ^ i + n / 128 ^ i % 128 * 128 ^ i = n % 128 ^ (i + 1) := by
  rw [Nat.pow_succ, Nat.mod_mul, Nat.mul_comm (128 ^ i)]
theorem mod_last (n i : Nat) : n % 128 ^ i + n / 128 ^ i * 128 ^ i = n := by
  rw [Nat.add_comm, Nat.mul_comm]; exact Nat.div_add_mod n _
theorem or64 (x C i : Nat) (hx : x < 2 ^ i) (hC : C % 2 ^ i = 0) (hs : x + C < 18446744073709551616) : bits .or .u64 (x : Int) (C : Int) = ((x + C : Nat) : Int) := by
  rw [u64_or_nat _ _ (by omega) (by omega), Nat.or_comm, nat_join i C x hC hx, Nat.add_comm]

set_option maxRecDepth 100000 in
set_option maxHeartbeats 2000000 in
theorem uvarint_any (v : Value) (n : Nat) (rest : List UInt8) (w : World) (hv : Byts w v (uvar n ++ rest)) (hn : n < 18446744073709551616) (hl : rest.length ≤ 1099511627776) :
    Calls Tryd.prog 115 #[v] w fun e w' => e = .returned (.tuple #[.int .u64 n, .int .i64 (uvar n).length]) ∧ w = w' := by
  obtain ⟨A, c, rfl, h1, h2, h3, h4⟩ := hv
  have hu10 := uvar_ten n hn
  have hup := uvar_pos n
  obtain ⟨L, hL⟩ : ∃ L, L = (uvar n ++ rest).length := ⟨_, rfl⟩
  have hL2 : L = (uvar n).length + rest.length := by rw [hL, List.length_append]
  rw [← hL] at h1 ⊢
  obtain ⟨b, off, rfl, hc⟩ := h4 (by omega)
  have HC : Hid (∀ i (hi : i < (uvar n).length), w.cell? ⟨b, off + i, none⟩ = some (.int .u8 (((uvar n).getD i 0).toNat : Int))) := Lib.hid (fun i hi => by
    obtain ⟨u, hu, hr⟩ := hc i (by rw [List.length_append]; omega)
    rw [hu, hr, List.getElem_append_left hi]
    simp [List.getD, hi])
  obtain ⟨U, hU⟩ : ∃ U, U = (uvar n).length := ⟨_, rfl⟩
  have HU := Lib.hid hU
  rw [← hU] at hu10 hup hL2 ⊢
  have hL3 : L ≤ 1099511627786 := by omega
  have hLU : U ≤ L := by omega
  unfold maxLen at h2
  clear hc h4 h3 hL hL2 hU
  go_enter Tryd.func115, Tryd.ntmps115
  go_wp2_with fail
  go_loopw [2, 4, 9] (fun x s i wr => ∃ k sk xk : Nat, k < U ∧ sk = 7 * k ∧ xk = n % 128 ^ k ∧ i = .int .i64 k ∧ s = .int .u64 sk ∧ x = .int .u64 xk ∧ w = wr) (fun _ _ i _ => 10 - (intOf i).toNat)
  case atStart => exact ⟨0, 0, 0, hup, rfl, by simp [Nat.mod_one], rfl, rfl, rfl, rfl⟩
  case round =>
    obtain ⟨k, sk, xk, hk, hsk, hxk, rfl, rfl, rfl, rfl⟩ := hrel
    have hcell := HC.out k (by rw [← HU.out]; exact hk)
    have hg := uvar_getD k n U HU.out hk
    obtain ⟨cb, hcb⟩ : ∃ x, x = ((uvar n).getD k 0).toNat := ⟨_, rfl⟩
    rw [← hcb] at hcell hg
    clear hcb
    have hkl : (k : Int) < (L : Int) := by omega
    have hk10 : ((k : Int) == 10) = false := by rw [beq_eq_false_iff_ne]; omega
    have hxlt : xk < 2 ^ sk := by rw [hxk, hsk, ← pow_128]; exact Nat.mod_lt _ (Nat.pow_pos (by omega))
    have hs63 : sk ≤ 63 := by omega
    rcases hg with ⟨hlast, hlt, hcv⟩ | ⟨hmore, hge, hcv⟩
    · have hC : cb * 2 ^ sk + xk = n := by rw [hcv, hxk, hsk, ← pow_128, Nat.add_comm]; exact mod_last n k
      obtain ⟨C, hCC⟩ : ∃ C, C = cb * 2 ^ sk := ⟨_, rfl⟩
      have hsh := shl64 cb sk C hCC (by omega) hs63
      have hor := or64 xk C sk hxlt (by rw [hCC]; exact Nat.mul_mod_left _ _) (by omega)
      have hcl : (cb : Int) < 128 := by omega
      rw [show xk + C = n by omega] at hor
      have hkU : (k : Int) + 1 = (U : Int) := by omega
      have hc9 : k = 9 → cb ≤ 1 := by
        intro e
        subst e
        rw [hcv]
        have : n / 128 ^ 9 < 2 := Nat.div_lt_of_lt_mul (by omega)
        omega
      have HC9 := Lib.hid hc9
      clear hC hCC hlast hlt hcv hxk hsk hc9 hxlt
      by_cases h9 : k = 9
      · have hc1 : ¬ (1 : Int) < (cb : Int) := by have := HC9.out h9; omega
        have hb9 : ((k : Int) == 9) = true := by rw [beq_iff_eq]; omega
        clear h9
        go_wp2_with fail
        go_ret2
        exact ⟨rfl, by first | rfl | trivial⟩
      · have hb9 : ((k : Int) == 9) = false := by rw [beq_eq_false_iff_ne]; omega
        clear h9
        go_wp2_with fail
        go_ret2
        exact ⟨rfl, by first | rfl | trivial⟩
    · obtain ⟨m, hm⟩ : ∃ m, m = n / 128 ^ k % 128 := ⟨_, rfl⟩
      have hm128 : m < 128 := by omega
      have hcm : cb = m + 128 := by omega
      have hnx : m * 2 ^ sk + xk = n % 128 ^ (k + 1) := by rw [hm, hxk, hsk, ← pow_128, Nat.add_comm]; exact mod_next n k
      obtain ⟨C, hCC⟩ : ∃ C, C = m * 2 ^ sk := ⟨_, rfl⟩
      have hle : n % 128 ^ (k + 1) ≤ n := Nat.mod_le _ _
      have hsh := shl64 m sk C hCC (by omega) hs63
      have hor := or64 xk C sk hxlt (by rw [hCC]; exact Nat.mul_mod_left _ _) (by omega)
      have hand : bits .and .u8 (cb : Int) 127 = (m : Int) := by
        rw [show (127 : Int) = ((127 : Nat) : Int) from rfl, u8_and_nat _ _ (by omega) (by omega), nat_mask7]; omega
      have hcl : ¬ (cb : Int) < 128 := by omega
      obtain ⟨N, hN⟩ : ∃ N, N = xk + C := ⟨_, rfl⟩
      rw [← hN] at hor
      have HN : Hid (N = n % 128 ^ (k + 1)) := Lib.hid (by omega)
      have HSK := Lib.hid hsk
      have hsk9 : sk ≤ 56 := by omega
      clear hCC hge hcv hxk hsk hxlt hm hcm hnx hle hN
      go_wp2_with fail
      go_roundw
      case rel => exact ⟨k + 1, sk + 7, N, hmore, by have := HSK.out; omega, HN.out, by go_num, by go_num, rfl, by first | rfl | trivial⟩
      case measure => simp [intOf]; omega
end Go.Proofs.YtfodkjpjejoemaaDoor
