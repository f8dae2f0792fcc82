/-
  SHA-256 in plain Lean, and the words' operations as the model has them.
  Conditions: none (laws).
-/
import Derived.Test.YtfodkjpjejoemaaDoorBase
import Derived.Laws.BitsAllLaws
namespace Go.Proofs.YtfodkjpjejoemaaDoor
open Go Go.RowKit

abbrev W32 := BitVec 32
abbrev u32v (x : W32) : Value := .int .u32 (x.toNat : Int)

theorem w_or (x y : W32) : bits .or .u32 (x.toNat : Int) (y.toNat : Int) = ((x ||| y).toNat : Int) := by
  rw [u32_or_nat _ _ x.isLt y.isLt, BitVec.toNat_or]
theorem w_and (x y : W32) : bits .and .u32 (x.toNat : Int) (y.toNat : Int) = ((x &&& y).toNat : Int) := by
  rw [u32_and_nat _ _ x.isLt y.isLt, BitVec.toNat_and]
theorem w_xor (x y : W32) : bits .xor .u32 (x.toNat : Int) (y.toNat : Int) = ((x ^^^ y).toNat : Int) := by
  rw [u32_xor_nat _ _ x.isLt y.isLt, BitVec.toNat_xor]
theorem w_not (x : W32) : bits .xor .u32 (if IntKind.u32.signed = true then (-1 : Int) else IntKind.u32.max) (x.toNat : Int) = ((~~~x).toNat : Int) := by
  rw [show (if IntKind.u32.signed = true then (-1 : Int) else IntKind.u32.max) = ((BitVec.allOnes 32).toNat : Int) by decide, w_xor]
  rw [BitVec.xor_comm, BitVec.xor_allOnes]
theorem w_add (x y : W32) : IntKind.u32.wrap ((x.toNat : Int) + (y.toNat : Int)) = ((x + y).toNat : Int) := by
  rw [IntKind.wrap_u32', BitVec.toNat_add]; omega
theorem w_shl (P : Program) (x : W32) (k : IntKind) (n : Nat) (w : World) : Sem.run P (Op.shift .shl .u32 (x.toNat : Int) k (n : Int)) w = .ok (u32v (x <<< n)) w := by
  unfold Op.shift
  rw [if_neg (by omega)]
  simp only [Int.toNat_natCast]
  show Result.ok (Value.int .u32 (IntKind.u32.wrap ((x.toNat : Int) * 2 ^ (min n 32)))) w = _
  rw [IntKind.wrap_u32']
  have e : ((x.toNat : Int) * 2 ^ (min n 32)) % 4294967296 = ((x <<< n).toNat : Int) := by
    rw [BitVec.toNat_shiftLeft, Nat.shiftLeft_eq, Int.natCast_emod, Int.natCast_mul, Int.natCast_pow, Int.natCast_pow]
    by_cases h : n ≤ 32
    · rw [Nat.min_eq_left h]; rfl
    · rw [Nat.min_eq_right (by omega)]
      have : ((2 : Nat) : Int) ^ n = ((2 : Nat) : Int) ^ 32 * ((2 : Nat) : Int) ^ (n - 32) := by rw [← Int.pow_add]; congr 1; omega
      rw [this]
      generalize ((2 : Nat) : Int) ^ (n - 32) = z
      generalize (x.toNat : Int) = m
      rw [show m * (((2 : Nat) : Int) ^ 32 * z) = (m * z) * 4294967296 by rw [Int.mul_comm _ z, ← Int.mul_assoc]; rfl, show ((2 : Nat) : Int) ^ 32 = 4294967296 from rfl, Int.mul_emod_left, show (2 : Int) ^ 32 = 4294967296 from rfl, Int.mul_emod_left]
  rw [e]
theorem w_shr (P : Program) (x : W32) (k : IntKind) (n : Nat) (w : World) : Sem.run P (Op.shift .shr .u32 (x.toNat : Int) k (n : Int)) w = .ok (u32v (x >>> n)) w := by
  unfold Op.shift
  rw [if_neg (by omega)]
  simp only [Int.toNat_natCast]
  show Result.ok (Value.int .u32 ((x.toNat : Int).fdiv (2 ^ (min n 32)))) w = _
  have e : (x.toNat : Int).fdiv (2 ^ (min n 32)) = ((x >>> n).toNat : Int) := by
    rw [BitVec.toNat_ushiftRight, Nat.shiftRight_eq_div_pow]
    have hx := x.isLt
    have hp : (2 : Int) ^ (min n 32) = ((2 ^ (min n 32) : Nat) : Int) := by rw [Int.natCast_pow]; rfl
    rw [hp, Int.fdiv_eq_ediv_of_nonneg _ (Int.natCast_nonneg _), ← Int.natCast_ediv]
    by_cases h : n ≤ 32
    · rw [Nat.min_eq_left h]
    · rw [Nat.min_eq_right (by omega)]
      have : 2 ^ 32 ≤ 2 ^ n := Nat.pow_le_pow_right (by omega) (by omega)
      rw [Nat.div_eq_of_lt hx, Nat.div_eq_of_lt (by omega)]
  rw [e]
theorem w_shl' (P : Program) (x : W32) (k : IntKind) (n : Nat) (w : World) : Sem.run P (Op.shift .shl .u32 (x.toNat : Int) k (OfNat.ofNat n : Int)) w = .ok (u32v (x <<< n)) w := w_shl P x k n w
theorem w_shr' (P : Program) (x : W32) (k : IntKind) (n : Nat) (w : World) : Sem.run P (Op.shift .shr .u32 (x.toNat : Int) k (OfNat.ofNat n : Int)) w = .ok (u32v (x >>> n)) w := w_shr P x k n w

theorem w_shlF (x : W32) (n : Nat) (h : n ≤ 32) : (x.toNat : Int) * (2 : Int) ^ n % (4294967296 : Int) = ((x <<< n).toNat : Int) := by
  rw [BitVec.toNat_shiftLeft, Nat.shiftLeft_eq, Int.natCast_emod, Int.natCast_mul, Int.natCast_pow, Int.natCast_pow]; rfl
theorem w_shrF (x : W32) (n : Nat) : (x.toNat : Int) / (2 : Int) ^ n = ((x >>> n).toNat : Int) := by
  rw [BitVec.toNat_ushiftRight, Nat.shiftRight_eq_div_pow, Int.natCast_ediv, Int.natCast_pow]; rfl
theorem w_shl8 (x : W32) : (x.toNat : Int) * (256 : Int) % (4294967296 : Int) = ((x <<< 8).toNat : Int) := w_shlF x 8 (by decide)
theorem w_shl16 (x : W32) : (x.toNat : Int) * (65536 : Int) % (4294967296 : Int) = ((x <<< 16).toNat : Int) := w_shlF x 16 (by decide)
theorem w_shl24 (x : W32) : (x.toNat : Int) * (16777216 : Int) % (4294967296 : Int) = ((x <<< 24).toNat : Int) := w_shlF x 24 (by decide)
theorem w_shr3 (x : W32) : (x.toNat : Int) / (8 : Int) = ((x >>> 3).toNat : Int) := w_shrF x 3
theorem w_shr8 (x : W32) : (x.toNat : Int) / (256 : Int) = ((x >>> 8).toNat : Int) := w_shrF x 8
theorem w_shr10 (x : W32) : (x.toNat : Int) / (1024 : Int) = ((x >>> 10).toNat : Int) := w_shrF x 10
theorem w_shr16 (x : W32) : (x.toNat : Int) / (65536 : Int) = ((x >>> 16).toNat : Int) := w_shrF x 16
theorem w_shr24 (x : W32) : (x.toNat : Int) / (16777216 : Int) = ((x >>> 24).toNat : Int) := w_shrF x 24
theorem w_addF (x y : W32) : ((x.toNat : Int) + (y.toNat : Int)) % (4294967296 : Int) = ((x + y).toNat : Int) := by
  rw [BitVec.toNat_add]; omega

theorem w_add5F (a b c d e : W32) : (((a.toNat : Int) + (b.toNat : Int) + (c.toNat : Int) + (d.toNat : Int)) % (4294967296 : Int) + (e.toNat : Int)) % (4294967296 : Int) = ((a + b + c + d + e).toNat : Int) := by
  simp only [BitVec.toNat_add]; omega

/-- x turned right by n -/
def rotr (x : W32) (n : Nat) : W32 := x >>> n ||| x <<< (32 - n)

theorem turn_bits (n : Nat) (h0 : 0 < n) (h : n < 32) : bits .and .u64 (IntKind.u64.wrap (-(n : Int))) 31 = ((32 - n : Nat) : Int) := by
  have e : IntKind.u64.wrap (-(n : Int)) = ((18446744073709551616 - n : Nat) : Int) := by
    simp [IntKind.wrap, IntKind.bits, IntKind.signed]; omega
  rw [e, show (31 : Int) = ((31 : Nat) : Int) from rfl, u64_and_nat _ _ (by omega) (by omega), nat_mask5]
  omega

/-- the table of the rounds -/
def shaK : List W32 := [0x428a2f98, 0x71374491, 0xb5c0fbcf, 0xe9b5dba5, 0x3956c25b, 0x59f111f1, 0x923f82a4, 0xab1c5ed5, 0xd807aa98, 0x12835b01, 0x243185be, 0x550c7dc3, 0x72be5d74, 0x80deb1fe, 0x9bdc06a7, 0xc19bf174, 0xe49b69c1, 0xefbe4786, 0x0fc19dc6, 0x240ca1cc, 0x2de92c6f, 0x4a7484aa, 0x5cb0a9dc, 0x76f988da, 0x983e5152, 0xa831c66d, 0xb00327c8, 0xbf597fc7, 0xc6e00bf3, 0xd5a79147, 0x06ca6351, 0x14292967, 0x27b70a85, 0x2e1b2138, 0x4d2c6dfc, 0x53380d13, 0x650a7354, 0x766a0abb, 0x81c2c92e, 0x92722c85, 0xa2bfe8a1, 0xa81a664b, 0xc24b8b70, 0xc76c51a3, 0xd192e819, 0xd6990624, 0xf40e3585, 0x106aa070, 0x19a4c116, 0x1e376c08, 0x2748774c, 0x34b0bcb5, 0x391c0cb3, 0x4ed8aa4a, 0x5b9cca4f, 0x682e6ff3, 0x748f82ee, 0x78a5636f, 0x84c87814, 0x8cc70208, 0x90befffa, 0xa4506ceb, 0xbef9a3f7, 0xc67178f2]
theorem shaK_length : shaK.length = 64 := by decide
/-- the eight words of the state -/
structure St where
  a : W32
  b : W32
  c : W32
  d : W32
  e : W32
  f : W32
  g : W32
  h : W32
def shaIV : St := ⟨0x6a09e667, 0xbb67ae85, 0x3c6ef372, 0xa54ff53a, 0x510e527f, 0x9b05688c, 0x1f83d9ab, 0x5be0cd19⟩
def St.list (s : St) : List W32 := [s.a, s.b, s.c, s.d, s.e, s.f, s.g, s.h]
def bigS0 (x : W32) : W32 := rotr x 2 ^^^ rotr x 13 ^^^ rotr x 22
def bigS1 (x : W32) : W32 := rotr x 6 ^^^ rotr x 11 ^^^ rotr x 25
def smlS0 (x : W32) : W32 := rotr x 7 ^^^ rotr x 18 ^^^ x >>> 3
def smlS1 (x : W32) : W32 := rotr x 17 ^^^ rotr x 19 ^^^ x >>> 10
def shaCh (x y z : W32) : W32 := (x &&& y) ^^^ (~~~x &&& z)
def shaMaj (x y z : W32) : W32 := (x &&& y) ^^^ (x &&& z) ^^^ (y &&& z)
def shaT1 (k w : W32) (s : St) : W32 := s.h + bigS1 s.e + shaCh s.e s.f s.g + k + w
def shaT2 (s : St) : W32 := bigS0 s.a + shaMaj s.a s.b s.c
/-- one round -/
def shaRnd (k w : W32) (s : St) : St := ⟨shaT1 k w s + shaT2 s, s.a, s.b, s.c, s.d + shaT1 k w s, s.e, s.f, s.g⟩
/-- a byte as a word -/
def byteW (x : UInt8) : W32 := BitVec.ofNat 32 x.toNat
/-- word i of a block of bytes -/
def shaWord (p : List UInt8) (i : Nat) : W32 :=
  byteW (p.getD (4 * i) 0) <<< 24 ||| byteW (p.getD (4 * i + 1) 0) <<< 16 ||| byteW (p.getD (4 * i + 2) 0) <<< 8 ||| byteW (p.getD (4 * i + 3) 0)
/-- the schedule's next word -/
def shaNext (p : List UInt8) (l : List W32) (i : Nat) : W32 :=
  if i < 16 then shaWord p i else l.getD (i - 16) 0 + smlS0 (l.getD (i - 15) 0) + l.getD (i - 7) 0 + smlS1 (l.getD (i - 2) 0)
/-- the first i words of the schedule -/
def shaW (p : List UInt8) : Nat → List W32
  | 0 => []
  | i + 1 => shaW p i ++ [shaNext p (shaW p i) i]
theorem shaW_length (p : List UInt8) (i : Nat) : (shaW p i).length = i := by
  induction i with
  | zero => rfl
  | succ i ih => simp [shaW, ih]
theorem shaW_take (p : List UInt8) (i j : Nat) (h : i ≤ j) : (shaW p j).take i = shaW p i := by
  induction j with
  | zero => obtain rfl : i = 0 := by omega
            rfl
  | succ j ih =>
    by_cases hi : i = j + 1
    · subst hi; rw [List.take_of_length_le (by rw [shaW_length]; omega)]
    · rw [shaW, List.take_append_of_le_length (by rw [shaW_length]; omega), ih (by omega)]
theorem shaW_getD (p : List UInt8) (i j : Nat) (h : i < j) : (shaW p j).getD i 0 = shaNext p (shaW p i) i := by
  have e := shaW_take p (i + 1) j h
  have : (shaW p j).getD i 0 = ((shaW p j).take (i + 1)).getD i 0 := by
    simp [List.getD, List.getElem?_take_of_lt]
  rw [this, e, shaW, List.getD, List.getElem?_append_right (by rw [shaW_length]; omega), shaW_length]
  simp
/-- the first n rounds over a block -/
def shaRs (p : List UInt8) (s : St) : Nat → St
  | 0 => s
  | n + 1 => shaRnd (shaK.getD n 0) ((shaW p (n + 1)).getD n 0) (shaRs p s n)
def St.add (s t : St) : St := ⟨s.a + t.a, s.b + t.b, s.c + t.c, s.d + t.d, s.e + t.e, s.f + t.f, s.g + t.g, s.h + t.h⟩
/-- one block of 64 bytes -/
def shaBlock (p : List UInt8) (s : St) : St := s.add (shaRs p s 64)
/-- block n of bytes -/
def shaChunk (bs : List UInt8) (n : Nat) : List UInt8 := (bs.drop (64 * n)).take 64
/-- the state behind n blocks -/
def shaRun (s : St) (bs : List UInt8) : Nat → St
  | 0 => s
  | n + 1 => shaBlock (shaChunk bs n) (shaRun s bs n)
theorem shaChunk_drop (bs : List UInt8) (m n : Nat) : shaChunk (bs.drop (64 * m)) n = shaChunk bs (m + n) := by
  unfold shaChunk; rw [List.drop_drop]; congr 2; omega
theorem shaRun_drop (s : St) (bs : List UInt8) (m n : Nat) : shaRun s bs (m + n) = shaRun (shaRun s bs m) (bs.drop (64 * m)) n := by
  induction n with
  | zero => rfl
  | succ n ih => rw [← Nat.add_assoc, shaRun, ih, shaRun, shaChunk_drop]
theorem shaChunk_append (bs x : List UInt8) (n : Nat) (h : 64 * (n + 1) ≤ bs.length) : shaChunk (bs ++ x) n = shaChunk bs n := by
  unfold shaChunk
  rw [List.drop_append_of_le_length (by omega), List.take_append_of_le_length (by simp; omega)]
theorem shaRun_append (s : St) (bs x : List UInt8) (n : Nat) (h : 64 * n ≤ bs.length) : shaRun s (bs ++ x) n = shaRun s bs n := by
  induction n with
  | zero => rfl
  | succ n ih => rw [shaRun, shaRun, ih (by omega), shaChunk_append _ _ _ h]
/-- a number of 64 bits, the highest byte first -/
def be64 (x : Nat) : List UInt8 := (List.range 8).map fun i => UInt8.ofNat (x / 2 ^ (56 - 8 * i))
def shaZeros (n : Nat) : Nat := (119 - n % 64) % 64
def shaPadding (n : Nat) : List UInt8 := (128 :: List.replicate (shaZeros n) 0) ++ be64 (8 * n)
def shaPad (bs : List UInt8) : List UInt8 := bs ++ shaPadding bs.length
def be32 (x : W32) : List UInt8 := [UInt8.ofNat (x >>> 24).toNat, UInt8.ofNat (x >>> 16).toNat, UInt8.ofNat (x >>> 8).toNat, UInt8.ofNat x.toNat]
def St.bytes (s : St) : List UInt8 := s.list.flatMap be32
/-- the sum of bytes -/
def sha (bs : List UInt8) : List UInt8 := (shaRun shaIV (shaPad bs) ((shaPad bs).length / 64)).bytes
theorem St.bytes_length (s : St) : s.bytes.length = 32 := by simp [St.bytes, St.list, be32]
theorem sha_length (bs : List UInt8) : (sha bs).length = 32 := St.bytes_length _
theorem shaPadding_length (n : Nat) : (n + (shaPadding n).length) % 64 = 0 := by
  simp [shaPadding, be64, shaZeros]; omega

theorem shaZeros_le (n : Nat) : shaZeros n ≤ 63 := by unfold shaZeros; omega
theorem shaZeros_mod (n : Nat) : ∀ k, k ≤ shaZeros n → ((n + 1 + k) % 64 = 56 ↔ k = shaZeros n) := by intro k hk; unfold shaZeros at *; omega
theorem be64_take (x i : Nat) (h : i < 8) : (be64 x).take (i + 1) = (be64 x).take i ++ [UInt8.ofNat (x / 2 ^ (56 - 8 * i))] := by
  unfold be64
  rw [← List.map_take, ← List.map_take, List.take_range, List.take_range, Nat.min_eq_left (by omega), Nat.min_eq_left (by omega), List.range_succ, List.map_append]; rfl
theorem be64_all (x : Nat) : (be64 x).take 8 = be64 x := List.take_of_length_le (by simp [be64])
/-- a word of a block, gathered byte by byte -/
def shaPart (p : List UInt8) (i : Nat) : Nat → W32
  | 0 => 0
  | c + 1 => shaPart p i c <<< 8 ||| byteW (p.getD (4 * i + c) 0)
theorem shaPart_four (p : List UInt8) (i : Nat) : shaPart p i 4 = shaWord p i := by
  simp only [shaPart, shaWord, BitVec.shiftLeft_or_distrib, ← BitVec.shiftLeft_add, Nat.add_zero, Nat.reduceAdd]
  rw [show (0 : W32) <<< 32 = 0 by decide, show ∀ x : W32, 0 ||| x = x from fun x => BitVec.zero_or]
theorem shaChunk_getD (bs : List UInt8) (n j : Nat) (h : j < 64) : (shaChunk bs n).getD j 0 = bs.getD (64 * n + j) 0 := by
  unfold shaChunk
  simp [List.getD, List.getElem?_take_of_lt h, List.getElem?_drop]
/-- the schedule as far as it is reckoned -/
def shaWz (p : List UInt8) (q : Nat) : List W32 := shaW p q ++ List.replicate (64 - q) 0
theorem shaWz_length (p : List UInt8) (q : Nat) (h : q ≤ 64) : (shaWz p q).length = 64 := by
  simp [shaWz, shaW_length]; omega
theorem shaWz_set (p : List UInt8) (q : Nat) (h : q < 64) (x : W32) (hx : x = shaNext p (shaW p q) q) : (shaWz p q).set q x = shaWz p (q + 1) := by
  subst hx
  unfold shaWz
  rw [List.set_append_right _ _ (by rw [shaW_length]; omega), shaW_length, Nat.sub_self, show 64 - q = (64 - (q + 1)) + 1 by omega, List.replicate_succ, List.set_cons_zero, shaW, List.append_assoc]; rfl
theorem shaWz_getD (p : List UInt8) (q j : Nat) (h : j < q) : (shaWz p q).getD j 0 = (shaW p q).getD j 0 := by
  unfold shaWz
  simp [List.getD, List.getElem?_append_left (show j < (shaW p q).length by rw [shaW_length]; exact h)]
theorem getD_set_same {L : List W32} {j : Nat} (x : W32) (h : j < L.length) : (L.set j x).getD j 0 = x := by
  simp [List.getD, h]
theorem set_set' {L : List W32} (j : Nat) (x y : W32) : (L.set j x).set j y = L.set j y := by simp
/-- one list as far as t, another one from there -/
def mixL (A B : List W32) (t : Nat) : List W32 := A.take t ++ B.drop t
theorem mixL_length (A B : List W32) (t : Nat) (ha : A.length = 8) (hb : B.length = 8) (h : t ≤ 8) : (mixL A B t).length = 8 := by
  simp [mixL, ha, hb]; omega
theorem mixL_getD (A B : List W32) (t : Nat) (ha : A.length = 8) (h : t < 8) : (mixL A B t).getD t 0 = B.getD t 0 := by
  unfold mixL
  simp [List.getD, List.getElem?_append_right, ha, List.getElem?_drop, show min t 8 = t by omega]
theorem mixL_set (A B : List W32) (t : Nat) (ha : A.length = 8) (hb : B.length = 8) (h : t < 8) : (mixL A B t).set t (A.getD t 0) = mixL A B (t + 1) := by
  unfold mixL
  have e1 : (A.take t).length = t := by simp [ha]; omega
  rw [List.set_append_right _ _ (by omega), e1, Nat.sub_self, List.drop_eq_getElem_cons (show t < B.length by omega), List.set_cons_zero, List.take_add_one, List.append_assoc]
  simp [List.getD, show t < A.length by omega]
theorem St.add_getD (s r : St) (t : Nat) (h : t < 8) : (s.add r).list.getD t 0 = s.list.getD t 0 + r.list.getD t 0 := by
  obtain rfl | rfl | rfl | rfl | rfl | rfl | rfl | rfl : t = 0 ∨ t = 1 ∨ t = 2 ∨ t = 3 ∨ t = 4 ∨ t = 5 ∨ t = 6 ∨ t = 7 := by omega
  all_goals rfl
theorem St.list_length (s : St) : s.list.length = 8 := rfl
theorem shaRnd_list (k w : W32) (s : St) : (shaRnd k w s).list = [shaT1 k w s + bigS0 s.a + shaMaj s.a s.b s.c, s.a, s.b, s.c, s.d + shaT1 k w s, s.e, s.f, s.g] := by
  simp [shaRnd, St.list, shaT2, BitVec.add_assoc]
/-- a slice's length -/
def lenV : Value → Nat
  | .slice _ n _ => n
  | _ => 0

abbrev u8v (x : UInt8) : Value := .int .u8 (x.toNat : Int)

/-- block g holds the words L, whole -/
def Arr (w : World) (g : Nat) (t : TypeId) (L : List W32) : Prop := w.heap[g]? = some (.cells (L.map u32v).toArray t (0, 0))
section
variable {w w' : World} {g : Nat} {t : TypeId} {L : List W32}
theorem Arr.cell (h : Arr w g t L) (k : Nat) (hk : k < L.length) : w.cell? ⟨g, k, none⟩ = some (u32v (L.getD k 0)) := by
  rw [cell_of_row w g k _ t (0, 0) h]
  simp [List.getD, hk]
theorem Arr.frozen (h : Arr w g t L) (k : Nat) : w.frozen? ⟨g, k, none⟩ = false := frozen_of_row _ _ _ _ _ h
theorem Arr.lt (h : Arr w g t L) : g < w.heap.size := lt_of_block h
theorem Arr.kp {S : Nat → Prop} (h : Arr w g t L) (k : Kp S w w') (hS : ¬ S g) : Arr w' g t L := (k.block g h.lt hS).trans h
theorem Arr.set (h : Arr w g t L) (k : Nat) (x : W32) : Arr (w.setCell ⟨g, k, none⟩ (u32v x)) g t (L.set k x) := by
  unfold Arr
  rw [heap_setCell_same _ _ _ _ _ _ h]
  simp [List.map_set]
end

end Go.Proofs.YtfodkjpjejoemaaDoor
