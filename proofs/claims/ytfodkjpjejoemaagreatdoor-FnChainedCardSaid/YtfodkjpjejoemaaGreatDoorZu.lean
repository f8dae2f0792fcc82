
/-
  Messages: a proof as a message, by the thin package and by the specification.
  Conditions: the proof reads as numbers and lists of bytes; the message has at most 2^40 bytes.
-/
import Derived.Test.YtfodkjpjejoemaaGreatDoorZt
namespace Go.Proofs.YtfodkjpjejoemaaGreatDoor
open Go Go.RowKit
attribute [local go_sem ↓] Go.wp_at_zero Go.wp_at_succ

set_option maxHeartbeats 1000000 in
theorem toProto_any (b : Nat) (p : Prf) (w : World) (h : PrfAt w b p) :
    Calls Tryz.prog 34 #[.pointer (some ⟨b, 0, none⟩)] w fun e w' => (∃ b', e = .returned (.pointer (some ⟨b', 0, none⟩)) ∧ PrfAt w' b' p) ∧ Keep w w' := by
  obtain ⟨lv, av, hc0, hc1, hc2, hc3, hlv, hav, b1, b2, b3, b4⟩ := h
  have HLV := Lib.hid hlv
  have HAV := Lib.hid hav
  obtain ⟨A0, d0, rfl, g1, g2, g3, g4⟩ := hlv
  obtain ⟨A1, d1, rfl, k1, k2, k3, k4⟩ := hav
  unfold maxLen at g2 k2
  have bw := World.block_lt_of_cell? w _ hc0
  simp only at bw
  clear g3 g4 k3 k4
  go_enter Tryz.func34, Tryz.ntmps34
  go_wp2
  go_ret
  have hk : Keep w (w.alloc (Obj.cells #[.int .i64 p.total, .int .i64 p.index, .slice A0 p.leaf.length d0, .slice A1 p.aunts.length d1] 105)) := (Kp.refl _ _).alloc _
  exact ⟨⟨w.heap.size, rfl, _, _, by simp, by simp, by simp, by simp, HLV.out.keep hk, HAV.out.keep hk, b1, b2, b3, b4⟩, hk⟩

theorem PrfAt.keep {w w' : World} {b : Nat} {p : Prf} (h : PrfAt w b p) (k : Keep w w') : PrfAt w' b p := by
  obtain ⟨lv, av, hc0, hc1, hc2, hc3, hlv, hav, h⟩ := h
  exact ⟨lv, av, k.cell_of hc0 (fun x => x), k.cell_of hc1 (fun x => x), k.cell_of hc2 (fun x => x), k.cell_of hc3 (fun x => x), hlv.keep k, hav.keep k, h⟩
theorem PrfV.at_new {w : World} {lv av : Value} {p : Prf} (t : TypeId) (h : PrfV w (.agg #[.int .i64 p.total, .int .i64 p.index, lv, av]) p) : PrfAt (w.alloc (.cells #[.int .i64 p.total, .int .i64 p.index, lv, av] t)) w.heap.size p := by
  obtain ⟨lv', av', e, hl, ha, hb⟩ := h
  simp at e
  obtain ⟨rfl, rfl⟩ := e
  have hk : Keep w (w.alloc (.cells #[.int .i64 p.total, .int .i64 p.index, lv, av] t)) := (Kp.refl _ _).alloc _
  exact ⟨lv, av, by simp, by simp, by simp, by simp, hl.keep hk, ha.keep hk, hb⟩

set_option maxHeartbeats 1000000 in
theorem sized_any (x : Value) (bs : List UInt8) (w : World) (hx : Byts w x bs) (hbl : bs.length ≤ 4294967296) :
    Calls Tryz.prog 16 #[x] w fun e w' => ∃ v', e = .returned v' ∧ Own w' w.heap.size 5 v' ((uvar bs.length ++ bs).map u8v) ∧ Keep w w' := by
  have HX := Lib.hid hx
  obtain ⟨A, c, rfl, h1, h2, h3, h4⟩ := hx
  have H3 := Lib.hid h3
  have hau : asU64 (bs.length : Int) = bs.length := by unfold asU64; omega
  have HAU := Lib.hid hau
  unfold maxLen at h2
  clear h3 h4 hau
  go_enter Tryz.func16, Tryz.ntmps16
  go_wp2_with (first
    | (go_at_call 28
       refine (counted_any (bs.length : Int) w (by omega) (by omega)).mono ?_
       rintro e w1 ⟨v1, rfl, ho1, hk1⟩
       rw [HAU.out] at ho1
       have HO1 := Lib.hid ho1
       have HK1 := Lib.hid hk1
       have hul := uvar_ten bs.length (by omega)
       clear ho1 hk1)
    | (at_builtin
       refine wpList_app rfl (.tmp 5) (.tmp 6) 24 rfl appB rfl HO1.out rfl (Src.of_slc u8v (fun _ _ h => h) (HX.out.keep HK1.out)) (one1 _) (fun e => by have h5 := H3.out e; omega) (by simp; omega) HK1.out.size ?_
       intro v2 w2 ho2 hk2 _
       have HO2 := Lib.hid ho2
       have HK2 := Lib.hid hk2
       clear ho2 hk2))
  go_ret
  refine ⟨v2, rfl, ?_, HK1.out.trans' HK2.out (fun i hi e => by have h9 := (HO1.out.lt _ e.symm).1; omega)⟩
  rw [List.map_append]
  exact HO2.out

end Go.Proofs.YtfodkjpjejoemaaGreatDoor

/-
  Messages: a number read.
  Conditions: the slice begins with the number's bytes.
-/
namespace Go.Proofs.YtfodkjpjejoemaaGreatDoor
open Go Go.RowKit
attribute [local go_sem ↓] Go.wp_at_zero Go.wp_at_succ

theorem shl64 (c s C : Nat) (h : C = c * 2 ^ s) (hC : C < 18446744073709551616) (_ : s ≤ 63) : IntKind.u64.wrap ((c : Int) * 2 ^ s) = (C : Int) := by
  have e : (c : Int) * 2 ^ s = (C : Int) := by
    rw [h, Int.natCast_mul, Int.natCast_pow]; rfl
  rw [e]
  simp only [IntKind.wrap, IntKind.bits, IntKind.signed]
  simp; omega

theorem uvar_get : ∀ (i n : Nat) (h : i < (uvar n).length),
    (i + 1 = (uvar n).length ∧ n / 128 ^ i < 128 ∧ (uvar n)[i].toNat = n / 128 ^ i) ∨ (i + 1 < (uvar n).length ∧ 128 ≤ n / 128 ^ i ∧ (uvar n)[i].toNat = n / 128 ^ i % 128 + 128) := by
  intro i
  induction i with
  | zero =>
    intro n h
    by_cases h0 : n < 128
    · left
      simp [uvar_small h0, UInt8.toNat_ofNat']
      omega
    · right
      have hp := uvar_pos (n / 128)
      simp only [uvar_big h0, List.length_cons, List.getElem_cons_zero, Nat.pow_zero, Nat.div_one, UInt8.toNat_ofNat']
      omega
  | succ i ih =>
    intro n h
    by_cases h0 : n < 128
    · exfalso
      simp [uvar_small h0] at h
    · have h' : i < (uvar (n / 128)).length := by simpa [uvar_big h0] using h
      have e : n / 128 ^ (i + 1) = n / 128 / 128 ^ i := by rw [Nat.pow_succ, Nat.mul_comm, Nat.div_div_eq_div_mul]
      simp only [uvar_big h0, List.length_cons, List.getElem_cons_succ, e]
      rcases ih (n / 128) h' with ⟨a, b, c⟩ | ⟨a, b, c⟩
      · left; exact ⟨by omega, b, c⟩
      · right; exact ⟨by omega, b, c⟩
theorem uvar_getD (i n L : Nat) (hL : L = (uvar n).length) (h : i < L) :
    (i + 1 = L ∧ n / 128 ^ i < 128 ∧ ((uvar n).getD i 0).toNat = n / 128 ^ i) ∨ (i + 1 < L ∧ 128 ≤ n / 128 ^ i ∧ ((uvar n).getD i 0).toNat = n / 128 ^ i % 128 + 128) := by
  subst hL
  have := uvar_get i n h
  simpa [List.getD, h] using this
theorem pow_128 (i : Nat) : 128 ^ i = 2 ^ (7 * i) := by rw [Nat.pow_mul]

theorem mod_next (n i : Nat) : n % 128 ^ i + n / 128 ^ i % 128 * 128 ^ i = n % 128 ^ (i + 1) := by
  rw [Nat.pow_succ, Nat.mod_mul, Nat.mul_comm (128 ^ i)]
theorem mod_last (n i : Nat) : n % 128 ^ i + n / 128 ^ i * 128 ^ i = n := by
  rw [Nat.add_comm, Nat.mul_comm]; exact Nat.div_add_mod n _
theorem or64 (x C i : Nat) (hx : x < 2 ^ i) (hC : C % 2 ^ i = 0) (hs : x + C < 18446744073709551616) : bits .or .u64 (x : Int) (C : Int) = ((x + C : Nat) : Int) := by
  rw [u64_or_nat _ _ (by omega) (by omega), Nat.or_comm, nat_join i C x hC hx, Nat.add_comm]

set_option maxRecDepth 100000 in
set_option maxHeartbeats 2000000 in
theorem uvarint_any (v : Value) (n : Nat) (rest : List UInt8) (w : World) (hv : Byts w v (uvar n ++ rest)) (hn : n < 18446744073709551616) (hl : rest.length ≤ 1099511627776) :
    Calls Tryz.prog 78 #[v] w fun e w' => e = .returned (.tuple #[.int .u64 n, .int .i64 (uvar n).length]) ∧ w = w' := by
  obtain ⟨A, c, rfl, h1, h2, h3, h4⟩ := hv
  have hu10 := uvar_ten n hn
  have hup := uvar_pos n
  obtain ⟨L, hL⟩ : ∃ L, L = (uvar n ++ rest).length := ⟨_, rfl⟩
  have hL2 : L = (uvar n).length + rest.length := by rw [hL, List.length_append]
  rw [← hL] at h1 ⊢
  obtain ⟨b, off, rfl, hc⟩ := h4 (by omega)
  have HC : Hid (∀ i (hi : i < (uvar n).length), w.cell? ⟨b, off + i, none⟩ = some (.int .u8 (((uvar n).getD i 0).toNat : Int))) := Lib.hid (fun i hi => by
    obtain ⟨u, hu, hr⟩ := hc i (by rw [List.length_append]; omega)
    rw [hu, hr, List.getElem_append_left hi]
    simp [List.getD, hi])
  obtain ⟨U, hU⟩ : ∃ U, U = (uvar n).length := ⟨_, rfl⟩
  have HU := Lib.hid hU
  rw [← hU] at hu10 hup hL2 ⊢
  have hL3 : L ≤ 1099511627786 := by omega
  have hLU : U ≤ L := by omega
  unfold maxLen at h2
  clear hc h4 h3 hL hL2 hU
  go_enter Tryz.func78, Tryz.ntmps78
  go_wp2_with fail
  go_loopw [2, 4, 9] (fun x s i wr => ∃ k sk xk : Nat, k < U ∧ sk = 7 * k ∧ xk = n % 128 ^ k ∧ i = .int .i64 k ∧ s = .int .u64 sk ∧ x = .int .u64 xk ∧ w = wr) (fun _ _ i _ => 10 - (intOf i).toNat)
  case atStart => exact ⟨0, 0, 0, hup, rfl, by simp [Nat.mod_one], rfl, rfl, rfl, rfl⟩
  case round =>
    obtain ⟨k, sk, xk, hk, hsk, hxk, rfl, rfl, rfl, rfl⟩ := hrel
    have hcell := HC.out k (by rw [← HU.out]; exact hk)
    have hg := uvar_getD k n U HU.out hk
    obtain ⟨cb, hcb⟩ : ∃ x, x = ((uvar n).getD k 0).toNat := ⟨_, rfl⟩
    rw [← hcb] at hcell hg
    clear hcb
    have hkl : (k : Int) < (L : Int) := by omega
    have hk10 : ((k : Int) == 10) = false := by rw [beq_eq_false_iff_ne]; omega
    have hxlt : xk < 2 ^ sk := by rw [hxk, hsk, ← pow_128]; exact Nat.mod_lt _ (Nat.pow_pos (by omega))
    have hs63 : sk ≤ 63 := by omega
    rcases hg with ⟨hlast, hlt, hcv⟩ | ⟨hmore, hge, hcv⟩
    · have hC : cb * 2 ^ sk + xk = n := by rw [hcv, hxk, hsk, ← pow_128, Nat.add_comm]; exact mod_last n k
      obtain ⟨C, hCC⟩ : ∃ C, C = cb * 2 ^ sk := ⟨_, rfl⟩
      have hsh := shl64 cb sk C hCC (by omega) hs63
      have hor := or64 xk C sk hxlt (by rw [hCC]; exact Nat.mul_mod_left _ _) (by omega)
      have hcl : (cb : Int) < 128 := by omega
      rw [show xk + C = n by omega] at hor
      have hkU : (k : Int) + 1 = (U : Int) := by omega
      have hc9 : k = 9 → cb ≤ 1 := by
        intro e
        subst e
        rw [hcv]
        have : n / 128 ^ 9 < 2 := Nat.div_lt_of_lt_mul (by omega)
        omega
      have HC9 := Lib.hid hc9
      clear hC hCC hlast hlt hcv hxk hsk hc9 hxlt
      by_cases h9 : k = 9
      · have hc1 : ¬ (1 : Int) < (cb : Int) := by have := HC9.out h9; omega
        have hb9 : ((k : Int) == 9) = true := by rw [beq_iff_eq]; omega
        clear h9
        go_wp2_with fail
        go_ret2
        exact ⟨rfl, by first | rfl | trivial⟩
      · have hb9 : ((k : Int) == 9) = false := by rw [beq_eq_false_iff_ne]; omega
        clear h9
        go_wp2_with fail
        go_ret2
        exact ⟨rfl, by first | rfl | trivial⟩
    · obtain ⟨m, hm⟩ : ∃ m, m = n / 128 ^ k % 128 := ⟨_, rfl⟩
      have hm128 : m < 128 := by omega
      have hcm : cb = m + 128 := by omega
      have hnx : m * 2 ^ sk + xk = n % 128 ^ (k + 1) := by rw [hm, hxk, hsk, ← pow_128, Nat.add_comm]; exact mod_next n k
      obtain ⟨C, hCC⟩ : ∃ C, C = m * 2 ^ sk := ⟨_, rfl⟩
      have hle : n % 128 ^ (k + 1) ≤ n := Nat.mod_le _ _
      have hsh := shl64 m sk C hCC (by omega) hs63
      have hor := or64 xk C sk hxlt (by rw [hCC]; exact Nat.mul_mod_left _ _) (by omega)
      have hand : bits .and .u8 (cb : Int) 127 = (m : Int) := by
        rw [show (127 : Int) = ((127 : Nat) : Int) from rfl, u8_and_nat _ _ (by omega) (by omega), nat_mask7]; omega
      have hcl : ¬ (cb : Int) < 128 := by omega
      obtain ⟨N, hN⟩ : ∃ N, N = xk + C := ⟨_, rfl⟩
      rw [← hN] at hor
      have HN : Hid (N = n % 128 ^ (k + 1)) := Lib.hid (by omega)
      have HSK := Lib.hid hsk
      have hsk9 : sk ≤ 56 := by omega
      clear hCC hge hcv hxk hsk hxlt hm hcm hnx hle hN
      go_wp2_with fail
      go_roundw
      case rel => exact ⟨k + 1, sk + 7, N, hmore, by have := HSK.out; omega, HN.out, by go_num, by go_num, rfl, by first | rfl | trivial⟩
      case measure => simp [intOf]; omega
end Go.Proofs.YtfodkjpjejoemaaGreatDoor
