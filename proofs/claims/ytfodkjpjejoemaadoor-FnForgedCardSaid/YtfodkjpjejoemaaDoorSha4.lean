/-
  The digest's own words and bytes, the highest byte first: bePutUint32, bePutUint64.
  Conditions: the row written to is known whole.
-/
import Derived.Test.YtfodkjpjejoemaaDoorSha3
namespace Go.Proofs.YtfodkjpjejoemaaDoor
open Go Go.RowKit

/-- block g holds the bytes L, whole -/
def ArrB (w : World) (g : Nat) (t : TypeId) (L : List UInt8) : Prop := w.heap[g]? = some (.cells (L.map u8v).toArray t (0, 0))
section
variable {w w' : World} {g : Nat} {t : TypeId} {L : List UInt8}
theorem ArrB.cell (h : ArrB w g t L) (k : Nat) (hk : k < L.length) : w.cell? ⟨g, k, none⟩ = some (u8v (L.getD k 0)) := by
  rw [cell_of_row w g k _ t (0, 0) h]
  simp [List.getD, hk]
theorem ArrB.frozen (h : ArrB w g t L) (k : Nat) : w.frozen? ⟨g, k, none⟩ = false := frozen_of_row _ _ _ _ _ h
theorem ArrB.lt (h : ArrB w g t L) : g < w.heap.size := lt_of_block h
theorem ArrB.kp {S : Nat → Prop} (h : ArrB w g t L) (k : Kp S w w') (hS : ¬ S g) : ArrB w' g t L := (k.block g h.lt hS).trans h
theorem ArrB.set (h : ArrB w g t L) (k : Nat) (x : UInt8) : ArrB (w.setCell ⟨g, k, none⟩ (u8v x)) g t (L.set k x) := by
  unfold ArrB
  rw [heap_setCell_same _ _ _ _ _ _ h]
  simp [List.map_set]
end

theorem byteC {n : Int} {x : Nat} (h : n = ((x % 256 : Nat) : Int)) : Value.int .u8 n = u8v (UInt8.ofNat x) := by
  subst h; simp [UInt8.toNat_ofNat']

/-- the four bytes of a word at an offset -/
def put32 (L : List UInt8) (o : Nat) (x : W32) : List UInt8 :=
  (((L.set o (UInt8.ofNat (x >>> 24).toNat)).set (o + 1) (UInt8.ofNat (x >>> 16).toNat)).set (o + 2) (UInt8.ofNat (x >>> 8).toNat)).set (o + 3) (UInt8.ofNat x.toNat)

theorem be32_any (g o n c : Nat) (t : TypeId) (L : List UInt8) (x : W32) (w : World) (h : ArrB w g t L) (hn : 4 ≤ n) (ho : o + 4 ≤ L.length) (hc : n ≤ 4294967296) :
    Calls Tryd.prog 155 #[.slice (some ⟨g, o, none⟩) n c, u32v x] w fun e w' => e = .returned (.tuple #[]) ∧ ArrB w' g t (put32 L o x) ∧ Kp (fun i => i = g) w w' := by
  have H := Lib.hid h
  have c0 := h.cell o (by omega)
  have c1 := h.cell (o + 1) (by omega)
  have c2 := h.cell (o + 2) (by omega)
  have c3 := h.cell (o + 3) (by omega)
  have hf : ∀ k, w.frozen? ⟨g, k, none⟩ = false := h.frozen
  have n0 : (0 : Int) < (n : Int) := by omega
  have n1 : (1 : Int) < (n : Int) := by omega
  have n2 : (2 : Int) < (n : Int) := by omega
  have n3 : (3 : Int) < (n : Int) := by omega
  clear h
  go_enter Tryd.func155, Tryd.ntmps155
  go_wp2
  rw [byteC (x := (x >>> 24).toNat) (by have := w_shr24 x; have := x.isLt; omega), byteC (x := (x >>> 16).toNat) (by have := w_shr16 x; omega), byteC (x := (x >>> 8).toNat) (by have := w_shr8 x; omega), byteC (n := (x.toNat : Int) % 256) (x := x.toNat) (by omega)]
  go_end0
  exact ⟨rfl, (((H.out.set o _).set (o + 1) _).set (o + 2) _).set (o + 3) _, ((((Kp.refl (fun i => i = g) w).setCell (p := ⟨g, o, none⟩) (fun _ => rfl) _).setCell (p := ⟨g, o + 1, none⟩) (fun _ => rfl) _).setCell (p := ⟨g, o + 2, none⟩) (fun _ => rfl) _).setCell (p := ⟨g, o + 3, none⟩) (fun _ => rfl) _⟩

/-- the first k of a number's eight bytes at an offset -/
def put64 (L : List UInt8) (o N : Nat) : Nat → List UInt8
  | 0 => L
  | k + 1 => (put64 L o N k).set (o + k) (UInt8.ofNat (N / 2 ^ (56 - 8 * k)))
theorem put64_length (L : List UInt8) (o N k : Nat) : (put64 L o N k).length = L.length := by
  induction k with
  | zero => rfl
  | succ k ih => simp [put64, ih]

set_option maxHeartbeats 1000000 in
theorem be64_any (g o n c N : Nat) (t : TypeId) (L : List UInt8) (w : World) (h : ArrB w g t L) (hn : 8 ≤ n) (ho : o + 8 ≤ L.length) (hc : n ≤ 4294967296) (hN : N < 18446744073709551616) :
    Calls Tryd.prog 154 #[.slice (some ⟨g, o, none⟩) n c, .int .u64 N] w fun e w' => e = .returned (.tuple #[]) ∧ ArrB w' g t (put64 L o N 8) ∧ Kp (fun i => i = g) w w' := by
  have H := Lib.hid h
  have c7 := h.cell (o + 7) (by omega)
  have n7 : (7 : Int) < (n : Int) := by omega
  clear h
  go_enter Tryd.func154, Tryd.ntmps154
  go_wp2
  go_loopw [4] (fun i wr => ∃ k : Nat, k ≤ 8 ∧ i = .int .i64 k ∧ ArrB wr g t (put64 L o N k) ∧ Kp (fun i => i = g) w wr) (fun i _ => 8 - (intOf i).toNat)
  case atStart => exact ⟨0, by omega, rfl, H.out, Kp.refl _ _⟩
  case round =>
    obtain ⟨k, hk, rfl, hb, hkp⟩ := hrel
    have HB := Lib.hid hb
    have HK := Lib.hid hkp
    by_cases hlt : k < 8
    · have d0 := hb.cell (o + k) (by rw [put64_length]; omega)
      have hf := hb.frozen (o + k)
      have HS := Lib.hid (show put64 L o N (k + 1) = (put64 L o N k).set (o + k) (UInt8.ofNat (N / 2 ^ (56 - 8 * k))) from rfl)
      generalize (put64 L o N k).getD (o + k) 0 = u at d0
      clear hb hkp c7
      obtain rfl | rfl | rfl | rfl | rfl | rfl | rfl | rfl : k = 0 ∨ k = 1 ∨ k = 2 ∨ k = 3 ∨ k = 4 ∨ k = 5 ∨ k = 6 ∨ k = 7 := by omega
      · simp only [Nat.add_zero] at d0 hf
        go_wp2
        rw [byteC (x := N / 2 ^ (56 - 8 * 0)) (by simp only [Nat.reducePow, Nat.reduceMul, Nat.reduceSub]; omega)]
        go_roundw
        case rel => exact ⟨0 + 1, by omega, rfl, by rw [HS.out]; exact HB.out.set (o + 0) _, HK.out.setCell (p := ⟨g, o + 0, none⟩) (fun _ => rfl) _⟩
        case measure => simp [intOf]
      · go_wp2
        rw [byteC (x := N / 2 ^ (56 - 8 * 1)) (by simp only [Nat.reducePow, Nat.reduceMul, Nat.reduceSub]; omega)]
        go_roundw
        case rel => exact ⟨1 + 1, by omega, rfl, by rw [HS.out]; exact HB.out.set (o + 1) _, HK.out.setCell (p := ⟨g, o + 1, none⟩) (fun _ => rfl) _⟩
        case measure => simp [intOf]
      · go_wp2
        rw [byteC (x := N / 2 ^ (56 - 8 * 2)) (by simp only [Nat.reducePow, Nat.reduceMul, Nat.reduceSub]; omega)]
        go_roundw
        case rel => exact ⟨2 + 1, by omega, rfl, by rw [HS.out]; exact HB.out.set (o + 2) _, HK.out.setCell (p := ⟨g, o + 2, none⟩) (fun _ => rfl) _⟩
        case measure => simp [intOf]
      · go_wp2
        rw [byteC (x := N / 2 ^ (56 - 8 * 3)) (by simp only [Nat.reducePow, Nat.reduceMul, Nat.reduceSub]; omega)]
        go_roundw
        case rel => exact ⟨3 + 1, by omega, rfl, by rw [HS.out]; exact HB.out.set (o + 3) _, HK.out.setCell (p := ⟨g, o + 3, none⟩) (fun _ => rfl) _⟩
        case measure => simp [intOf]
      · go_wp2
        rw [byteC (x := N / 2 ^ (56 - 8 * 4)) (by simp only [Nat.reducePow, Nat.reduceMul, Nat.reduceSub]; omega)]
        go_roundw
        case rel => exact ⟨4 + 1, by omega, rfl, by rw [HS.out]; exact HB.out.set (o + 4) _, HK.out.setCell (p := ⟨g, o + 4, none⟩) (fun _ => rfl) _⟩
        case measure => simp [intOf]
      · go_wp2
        rw [byteC (x := N / 2 ^ (56 - 8 * 5)) (by simp only [Nat.reducePow, Nat.reduceMul, Nat.reduceSub]; omega)]
        go_roundw
        case rel => exact ⟨5 + 1, by omega, rfl, by rw [HS.out]; exact HB.out.set (o + 5) _, HK.out.setCell (p := ⟨g, o + 5, none⟩) (fun _ => rfl) _⟩
        case measure => simp [intOf]
      · go_wp2
        rw [byteC (x := N / 2 ^ (56 - 8 * 6)) (by simp only [Nat.reducePow, Nat.reduceMul, Nat.reduceSub]; omega)]
        go_roundw
        case rel => exact ⟨6 + 1, by omega, rfl, by rw [HS.out]; exact HB.out.set (o + 6) _, HK.out.setCell (p := ⟨g, o + 6, none⟩) (fun _ => rfl) _⟩
        case measure => simp [intOf]
      · go_wp2
        rw [byteC (x := N / 2 ^ (56 - 8 * 7)) (by simp only [Nat.reducePow, Nat.reduceMul, Nat.reduceSub]; omega)]
        go_roundw
        case rel => exact ⟨7 + 1, by omega, rfl, by rw [HS.out]; exact HB.out.set (o + 7) _, HK.out.setCell (p := ⟨g, o + 7, none⟩) (fun _ => rfl) _⟩
        case measure => simp [intOf]
    · obtain rfl : k = 8 := by omega
      go_wp2
      go_end0
      exact ⟨rfl, HB.out, HK.out⟩
end Go.Proofs.YtfodkjpjejoemaaDoor
