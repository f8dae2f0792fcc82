/-
  Plain laws for FnTold: how many bits a word has, by the library's way; what a list's bits tell.
  Conditions: none.
-/
import Derived.Test.YtfodkjpjejoemaaDoorBits2
namespace Go.Proofs.YtfodkjpjejoemaaDoor
open Go

/-- how many of the first k places hold -/
def cntF (F : Nat → Bool) : Nat → Nat
  | 0 => 0
  | k + 1 => cntF F k + (if F k then 1 else 0)
theorem cntF_le (F : Nat → Bool) (k : Nat) : cntF F k ≤ k := by
  induction k with
  | zero => exact Nat.le_refl _
  | succ k ih => unfold cntF; split <;> omega
theorem cntF_congr {F G : Nat → Bool} {k : Nat} (h : ∀ j, j < k → F j = G j) : cntF F k = cntF G k := by
  induction k with
  | zero => rfl
  | succ k ih => unfold cntF; rw [ih fun j hj => h j (by omega), h k (by omega)]
theorem cntF_add (F : Nat → Bool) (s k : Nat) : cntF F (s + k) = cntF F s + cntF (fun j => F (s + j)) k := by
  induction k with
  | zero => rfl
  | succ k ih =>
    show cntF F (s + k) + (if F (s + k) = true then 1 else 0) = cntF F s + (cntF (fun j => F (s + j)) k + (if F (s + k) = true then 1 else 0))
    rw [ih]; omega
theorem cntF_zero {F : Nat → Bool} {k : Nat} : cntF F k = 0 ↔ ∀ j, j < k → F j = false := by
  induction k with
  | zero => exact ⟨fun _ j hj => by omega, fun _ => rfl⟩
  | succ k ih =>
    unfold cntF
    constructor
    · intro h j hj
      by_cases e : j = k
      · subst e; cases hf : F j
        · rfl
        · rw [hf] at h; simp at h
      · exact ih.1 (by omega) j (by omega)
    · intro h
      rw [ih.2 fun j hj => h j (by omega), h k (by omega)]
      rfl
theorem cntF_full {F : Nat → Bool} {k : Nat} : cntF F k = k ↔ ∀ j, j < k → F j = true := by
  induction k with
  | zero => exact ⟨fun _ j hj => by omega, fun _ => rfl⟩
  | succ k ih =>
    have hl := cntF_le F k
    unfold cntF
    constructor
    · intro h j hj
      cases hf : F k
      · rw [hf] at h; simp at h; omega
      · rw [hf] at h
        simp at h
        by_cases e : j = k
        · subst e; exact hf
        · exact ih.1 h j (by omega)
    · intro h
      rw [ih.2 fun j hj => h j (by omega), h k (by omega)]
      rfl
theorem cntF_mono (F : Nat → Bool) {i k : Nat} (h : i ≤ k) : cntF F i ≤ cntF F k := by
  obtain ⟨d, rfl⟩ : ∃ d, k = i + d := ⟨k - i, by omega⟩
  rw [cntF_add]; omega

/-- two numbers in two parts each, met bit by bit -/
theorem and_split (s a c X Y : Nat) (ha : a < 2 ^ s) (hc : c < 2 ^ s) : (a + 2 ^ s * X) &&& (c + 2 ^ s * Y) = (a &&& c) + 2 ^ s * (X &&& Y) := by
  have hp : 0 < 2 ^ s := Nat.pow_pos (by omega)
  have h1 : ((a + 2 ^ s * X) &&& (c + 2 ^ s * Y)) % 2 ^ s = a &&& c := by
    rw [Nat.and_mod_two_pow, Nat.add_mul_mod_self_left, Nat.add_mul_mod_self_left, Nat.mod_eq_of_lt ha, Nat.mod_eq_of_lt hc]
  have h2 : ((a + 2 ^ s * X) &&& (c + 2 ^ s * Y)) / 2 ^ s = X &&& Y := by
    rw [Nat.and_div_two_pow, Nat.add_mul_div_left _ _ hp, Nat.add_mul_div_left _ _ hp, Nat.div_eq_of_lt ha, Nat.div_eq_of_lt hc, Nat.zero_add, Nat.zero_add]
  have h3 := Nat.div_add_mod ((a + 2 ^ s * X) &&& (c + 2 ^ s * Y)) (2 ^ s)
  rw [h1, h2] at h3
  omega

/-- a byte k times -/
def rep (c : Nat) : Nat → Nat
  | 0 => 0
  | k + 1 => c + 256 * rep c k
def st1 (k x : Nat) : Nat := (x / 2 &&& rep 85 k) + (x &&& rep 85 k)
def st2 (k x : Nat) : Nat := (x / 4 &&& rep 51 k) + (x &&& rep 51 k)
def st3 (k x : Nat) : Nat := (x / 16 + x) &&& rep 15 k
theorem st1_split (k lo hi : Nat) (h : lo < 256) : st1 (k + 1) (lo + 256 * hi) = st1 1 lo + 256 * st1 k hi := by
  have e1 : (lo + 256 * hi) / 2 = (lo / 2 + 128 * (hi % 2)) + 2 ^ 8 * (hi / 2) := by omega
  have e2 : (lo / 2 + 128 * (hi % 2)) &&& 85 = lo / 2 &&& 85 := by
    have := and_split 7 (lo / 2) 85 (hi % 2) 0 (by omega) (by omega)
    simpa using this
  have r1 : rep 85 (k + 1) = 85 + 2 ^ 8 * rep 85 k := rfl
  have r2 : rep 85 1 = 85 := rfl
  have a1 := and_split 8 (lo / 2 + 128 * (hi % 2)) 85 (hi / 2) (rep 85 k) (by omega) (by omega)
  have a2 := and_split 8 lo 85 hi (rep 85 k) (by omega) (by omega)
  unfold st1
  rw [e1, r1, r2, a1, e2]
  rw [show lo + 256 * hi = lo + 2 ^ 8 * hi from rfl, a2]
  omega
theorem st2_split (k lo hi : Nat) (h : lo < 256) : st2 (k + 1) (lo + 256 * hi) = st2 1 lo + 256 * st2 k hi := by
  have e1 : (lo + 256 * hi) / 4 = (lo / 4 + 64 * (hi % 4)) + 2 ^ 8 * (hi / 4) := by omega
  have e2 : (lo / 4 + 64 * (hi % 4)) &&& 51 = lo / 4 &&& 51 := by
    have := and_split 6 (lo / 4) 51 (hi % 4) 0 (by omega) (by omega)
    simpa using this
  have r1 : rep 51 (k + 1) = 51 + 2 ^ 8 * rep 51 k := rfl
  have r2 : rep 51 1 = 51 := rfl
  have a1 := and_split 8 (lo / 4 + 64 * (hi % 4)) 51 (hi / 4) (rep 51 k) (by omega) (by omega)
  have a2 := and_split 8 lo 51 hi (rep 51 k) (by omega) (by omega)
  unfold st2
  rw [e1, r1, r2, a1, e2]
  rw [show lo + 256 * hi = lo + 2 ^ 8 * hi from rfl, a2]
  omega
theorem st3_split (k lo hi : Nat) (h : lo < 256) (h1 : lo % 16 ≤ 4) (h2 : lo / 16 ≤ 4) (h3 : hi % 16 ≤ 4) : st3 (k + 1) (lo + 256 * hi) = (lo / 16 + lo % 16) + 256 * st3 k hi := by
  have e1 : (lo + 256 * hi) / 16 + (lo + 256 * hi) = (lo / 16 + lo + 16 * (hi % 16)) + 2 ^ 8 * (hi / 16 + hi) := by omega
  have r1 : rep 15 (k + 1) = 15 + 2 ^ 8 * rep 15 k := rfl
  have a1 := and_split 8 (lo / 16 + lo + 16 * (hi % 16)) 15 (hi / 16 + hi) (rep 15 k) (by omega) (by omega)
  have a2 : (lo / 16 + lo + 16 * (hi % 16)) &&& 15 = lo / 16 + lo % 16 := by
    have := Nat.and_two_pow_sub_one_eq_mod (lo / 16 + lo + 16 * (hi % 16)) 4
    rw [show 2 ^ 4 - 1 = 15 from rfl] at this
    rw [this]
    omega
  unfold st3
  rw [e1, r1, a1, a2]
/-- one byte: what two steps leave -/
theorem byte_steps : ∀ b : Fin 256, st2 1 (st1 1 b.val) < 256 ∧ st1 1 b.val < 256 ∧ st2 1 (st1 1 b.val) % 16 ≤ 4 ∧ st2 1 (st1 1 b.val) / 16 ≤ 4 ∧ st2 1 (st1 1 b.val) / 16 + st2 1 (st1 1 b.val) % 16 = cntF b.val.testBit 8 := by
  decide +kernel
/-- the bytes' counts, a byte each -/
def byteC : Nat → Nat → Nat
  | 0, _ => 0
  | k + 1, x => cntF (x % 256).testBit 8 + 256 * byteC k (x / 256)
theorem steps_low (k x : Nat) : st2 k (st1 k x) % 16 ≤ 4 := by
  cases k with
  | zero => simp [st2, rep]
  | succ k =>
    have e : x = x % 256 + 256 * (x / 256) := by omega
    have hb := byte_steps ⟨x % 256, by omega⟩
    simp only at hb
    obtain ⟨h1, h2, h3, h4, h5⟩ := hb
    rw [e, st1_split k _ _ (by omega), st2_split k _ _ h2]
    omega
theorem steps_all (k x : Nat) : st3 k (st2 k (st1 k x)) = byteC k x := by
  induction k generalizing x with
  | zero => simp [st3, rep, byteC]
  | succ k ih =>
    have e : x = x % 256 + 256 * (x / 256) := by omega
    have hb := byte_steps ⟨x % 256, by omega⟩
    simp only at hb
    obtain ⟨h1, h2, h3, h4, h5⟩ := hb
    have hl := steps_low k (x / 256)
    conv => lhs; rw [e]
    rw [st1_split k _ _ (by omega), st2_split k _ _ h2, st3_split k _ _ h1 h3 h4 hl, h5, ih]
    rfl
theorem cnt_byte (x k : Nat) : cntF x.testBit (8 + k) = cntF (x % 256).testBit 8 + cntF (x / 256).testBit k := by
  rw [cntF_add]
  congr 1
  · apply cntF_congr
    intro j hj
    rw [show 256 = 2 ^ 8 from rfl, Nat.testBit_mod_two_pow]
    simp [hj]
  · apply cntF_congr
    intro j hj
    rw [show 256 = 2 ^ 8 from rfl, Nat.testBit_div_two_pow]
    rw [Nat.add_comm]
theorem cnt_low (x : Nat) : cntF (x % 256).testBit 8 = cntF x.testBit 8 := by
  apply cntF_congr
  intro j hj
  rw [show 256 = 2 ^ 8 from rfl, Nat.testBit_mod_two_pow]
  simp [hj]
/-- the sum of eight bytes by three shifts -/
theorem sum_bytes (x : Nat) : ∃ y1 y2 y3 : Nat, y1 = byteC 8 x + byteC 8 x / 256 ∧ y2 = y1 + y1 / 65536 ∧ y3 = y2 + y2 / 4294967296 ∧ byteC 8 x < 18446744073709551616 ∧ y1 < 18446744073709551616 ∧ y2 < 18446744073709551616 ∧ y3 < 9223372036854775808 ∧ y3 % 128 = cntF x.testBit 64 := by
  have e : cntF x.testBit 64 = cntF (x % 256).testBit 8 + (cntF (x / 256 % 256).testBit 8 + (cntF (x / 256 / 256 % 256).testBit 8 + (cntF (x / 256 / 256 / 256 % 256).testBit 8 + (cntF (x / 256 / 256 / 256 / 256 % 256).testBit 8 + (cntF (x / 256 / 256 / 256 / 256 / 256 % 256).testBit 8 + (cntF (x / 256 / 256 / 256 / 256 / 256 / 256 % 256).testBit 8 + (cntF (x / 256 / 256 / 256 / 256 / 256 / 256 / 256 % 256).testBit 8)))))))  := by
    rw [show 64 = 8 + 56 from rfl, cnt_byte, show 56 = 8 + 48 from rfl, cnt_byte, show 48 = 8 + 40 from rfl, cnt_byte, show 40 = 8 + 32 from rfl, cnt_byte, show 32 = 8 + 24 from rfl, cnt_byte, show 24 = 8 + 16 from rfl, cnt_byte, show 16 = 8 + 8 from rfl, cnt_byte, cnt_low (x / 256 / 256 / 256 / 256 / 256 / 256 / 256)]
  have b : byteC 8 x = cntF (x % 256).testBit 8 + 256 * (cntF (x / 256 % 256).testBit 8 + 256 * (cntF (x / 256 / 256 % 256).testBit 8 + 256 * (cntF (x / 256 / 256 / 256 % 256).testBit 8 + 256 * (cntF (x / 256 / 256 / 256 / 256 % 256).testBit 8 + 256 * (cntF (x / 256 / 256 / 256 / 256 / 256 % 256).testBit 8 + 256 * (cntF (x / 256 / 256 / 256 / 256 / 256 / 256 % 256).testBit 8 + 256 * (cntF (x / 256 / 256 / 256 / 256 / 256 / 256 / 256 % 256).testBit 8 + 256 * 0))))))) := rfl
  have l0 := cntF_le (x % 256).testBit 8
  have l1 := cntF_le (x / 256 % 256).testBit 8
  have l2 := cntF_le (x / 256 / 256 % 256).testBit 8
  have l3 := cntF_le (x / 256 / 256 / 256 % 256).testBit 8
  have l4 := cntF_le (x / 256 / 256 / 256 / 256 % 256).testBit 8
  have l5 := cntF_le (x / 256 / 256 / 256 / 256 / 256 % 256).testBit 8
  have l6 := cntF_le (x / 256 / 256 / 256 / 256 / 256 / 256 % 256).testBit 8
  have l7 := cntF_le (x / 256 / 256 / 256 / 256 / 256 / 256 / 256 % 256).testBit 8
  rw [e, b]
  generalize cntF (x % 256).testBit 8 = c0 at *
  generalize cntF (x / 256 % 256).testBit 8 = c1 at *
  generalize cntF (x / 256 / 256 % 256).testBit 8 = c2 at *
  generalize cntF (x / 256 / 256 / 256 % 256).testBit 8 = c3 at *
  generalize cntF (x / 256 / 256 / 256 / 256 % 256).testBit 8 = c4 at *
  generalize cntF (x / 256 / 256 / 256 / 256 / 256 % 256).testBit 8 = c5 at *
  generalize cntF (x / 256 / 256 / 256 / 256 / 256 / 256 % 256).testBit 8 = c6 at *
  generalize cntF (x / 256 / 256 / 256 / 256 / 256 / 256 / 256 % 256).testBit 8 = c7 at *
  clear e b
  have d1 : c0 + 256 * (c1 + 256 * (c2 + 256 * (c3 + 256 * (c4 + 256 * (c5 + 256 * (c6 + 256 * (c7 + 256 * 0))))))) + (c0 + 256 * (c1 + 256 * (c2 + 256 * (c3 + 256 * (c4 + 256 * (c5 + 256 * (c6 + 256 * (c7 + 256 * 0)))))))) / 256 = (c0 + c1) + 256 * (c1 + c2) + 65536 * ((c2 + c3) + 256 * (c3 + c4) + 65536 * ((c4 + c5) + 256 * (c5 + c6) + 65536 * ((c6 + c7) + 256 * c7))) := by omega
  refine ⟨_, _, _, rfl, rfl, rfl, ?_, ?_, ?_, ?_, ?_⟩
  all_goals try rw [d1]
  · omega
  · omega
  all_goals
    have d2 : (c0 + c1) + 256 * (c1 + c2) + 65536 * ((c2 + c3) + 256 * (c3 + c4) + 65536 * ((c4 + c5) + 256 * (c5 + c6) + 65536 * ((c6 + c7) + 256 * c7))) + ((c0 + c1) + 256 * (c1 + c2) + 65536 * ((c2 + c3) + 256 * (c3 + c4) + 65536 * ((c4 + c5) + 256 * (c5 + c6) + 65536 * ((c6 + c7) + 256 * c7)))) / 65536 = (c0 + c1 + c2 + c3) + 256 * (c1 + c2 + c3 + c4) + 65536 * ((c2 + c3 + c4 + c5) + 256 * (c3 + c4 + c5 + c6)) + 4294967296 * ((c4 + c5 + c6 + c7) + 256 * (c5 + c6 + c7) + 65536 * ((c6 + c7) + 256 * c7)) := by omega
    have d3 : ((c0 + c1 + c2 + c3) + 256 * (c1 + c2 + c3 + c4) + 65536 * ((c2 + c3 + c4 + c5) + 256 * (c3 + c4 + c5 + c6)) + 4294967296 * ((c4 + c5 + c6 + c7) + 256 * (c5 + c6 + c7) + 65536 * ((c6 + c7) + 256 * c7))) / 4294967296 = (c4 + c5 + c6 + c7) + 256 * (c5 + c6 + c7) + 65536 * ((c6 + c7) + 256 * c7) := by omega
    rw [d2]
    try rw [d3]
    clear d1 d2 d3
    omega

/-- the set bits of the first m words -/
def wsum (ws : List Nat) : Nat → Nat
  | 0 => 0
  | m + 1 => wsum ws m + cntF (ws.getD m 0).testBit 64
theorem bitAt_word (ws : List Nat) (m j : Nat) (h : j < 64) : bitAt ws (64 * m + j) = (ws.getD m 0).testBit j := by
  unfold bitAt
  rw [show (64 * m + j) / 64 = m by omega, show (64 * m + j) % 64 = j by omega]
theorem wsum_bits (ws : List Nat) (m : Nat) : wsum ws m = cntF (bitAt ws) (64 * m) := by
  induction m with
  | zero => rfl
  | succ m ih =>
    show wsum ws m + _ = _
    rw [ih, show 64 * (m + 1) = 64 * m + 64 by omega, cntF_add]
    congr 1
    apply cntF_congr
    intro j hj
    rw [bitAt_word ws m j hj]
/-- how many of a list's first k -/
def cntL (L : List Bool) (k : Nat) : Nat := cntF (fun j => L.getD j false) k
theorem cntL_pack (L : List Bool) (k : Nat) : cntF (bitAt (pack L)) k = cntL L k := cntF_congr fun j _ => bitAt_pack L j
theorem cntL_past (L : List Bool) (k : Nat) (h : L.length ≤ k) : cntL L k = cntL L L.length := by
  obtain ⟨d, rfl⟩ : ∃ d, k = L.length + d := ⟨k - L.length, by omega⟩
  unfold cntL
  have h0 : cntF (fun j => L.getD (L.length + j) false) d = 0 := cntF_zero.2 fun j hj => by
    simp [List.getD, List.getElem?_eq_none (show L.length ≤ L.length + j by omega)]
  rw [cntF_add, h0, Nat.add_zero]
theorem wsum_all (L : List Bool) : wsum (pack L) (pack L).length = cntL L L.length := by
  rw [wsum_bits, cntL_pack, cntL_past]
  have : (pack L).length = (L.length + 63) / 64 := packTo_length _ _ _
  omega
/-- the last word, counted bit by bit -/
theorem wsum_last (L : List Bool) (h : 0 < L.length) : wsum (pack L) ((pack L).length - 1) + cntF ((pack L).getD ((pack L).length - 1) 0).testBit (L.length - ((pack L).length - 1) * 64) = cntL L L.length := by
  have hl : (pack L).length = (L.length + 63) / 64 := packTo_length _ _ _
  rw [wsum_bits]
  obtain ⟨m, hm⟩ : ∃ m, m = (pack L).length - 1 := ⟨_, rfl⟩
  rw [← hm]
  obtain ⟨r, hr⟩ : ∃ r, L.length = 64 * m + r := ⟨L.length - 64 * m, by omega⟩
  have e : cntL L L.length = cntF (bitAt (pack L)) (64 * m + r) := by rw [cntL_pack, ← hr]
  rw [e, cntF_add, show L.length - m * 64 = r by omega]
  congr 1
  apply cntF_congr
  intro j hj
  rw [bitAt_word]
  omega

theorem word_zero {x : Nat} (hx : x < 2 ^ 64) (h : ∀ j, j < 64 → x.testBit j = false) : x = 0 := by
  apply Nat.eq_of_testBit_eq
  intro i
  by_cases hi : i < 64
  · rw [h i hi]; simp
  · rw [Nat.testBit_lt_two_pow (Nat.lt_of_lt_of_le hx (Nat.pow_le_pow_right (by omega) (by omega)))]; simp
theorem low_full {x k : Nat} : x % 2 ^ k = 2 ^ k - 1 ↔ ∀ j, j < k → x.testBit j = true := by
  constructor
  · intro h j hj
    have : (x % 2 ^ k).testBit j = true := by rw [h, Nat.testBit_two_pow_sub_one]; simpa using hj
    rw [Nat.testBit_mod_two_pow] at this
    simpa [hj] using this
  · intro h
    apply Nat.eq_of_testBit_eq
    intro i
    rw [Nat.testBit_mod_two_pow, Nat.testBit_two_pow_sub_one]
    by_cases hi : i < k
    · simp [hi, h i hi]
    · simp [hi]
theorem word_nonzero {x : Nat} (hx : x < 2 ^ 64) : x ≠ 0 ↔ cntF x.testBit 64 ≠ 0 := by
  constructor
  · intro h h0
    exact h (word_zero hx (cntF_zero.1 h0))
  · intro h h0
    subst h0
    exact h (cntF_zero.2 fun j _ => by simp)
theorem wsum_zero {ws : List Nat} {m : Nat} : wsum ws m = 0 ↔ ∀ i, i < m → cntF (ws.getD i 0).testBit 64 = 0 := by
  induction m with
  | zero => exact ⟨fun _ i hi => by omega, fun _ => rfl⟩
  | succ m ih =>
    show wsum ws m + _ = 0 ↔ _
    constructor
    · intro h i hi
      by_cases e : i = m
      · subst e; omega
      · exact ih.1 (by omega) i (by omega)
    · intro h
      rw [ih.2 fun i hi => h i (by omega), h m (by omega)]
/-- all are there, word by word -/
theorem full_words (L : List Bool) (h : 0 < L.length) : cntL L L.length = L.length ↔
    (∀ i, i < (pack L).length - 1 → (pack L).getD i 0 = 2 ^ 64 - 1) ∧ ((pack L).getD ((pack L).length - 1) 0) % 2 ^ ((L.length + 63) % 64 + 1) = 2 ^ ((L.length + 63) % 64 + 1) - 1 := by
  have hl : (pack L).length = (L.length + 63) / 64 := packTo_length _ _ _
  rw [← cntL_pack, cntF_full, low_full]
  have hs : ∀ i, (pack L).getD i 0 < 2 ^ 64 := fun i => getD_lt _ _ (packTo_small L L.length L.length)
  constructor
  · intro h
    refine ⟨fun i hi => ?_, fun j hj => ?_⟩
    · have := (low_full (x := (pack L).getD i 0) (k := 64)).2 fun j hj => by rw [← bitAt_word _ _ _ hj]; exact h _ (by omega)
      rwa [Nat.mod_eq_of_lt (hs i)] at this
    · rw [← bitAt_word _ _ _ (by omega)]
      exact h _ (by omega)
  · rintro ⟨h1, h2⟩ j hj
    by_cases e : j / 64 < (pack L).length - 1
    · have := h1 _ e
      unfold bitAt
      rw [this, Nat.testBit_two_pow_sub_one]
      simp
      omega
    · unfold bitAt
      rw [show j / 64 = (pack L).length - 1 by omega]
      exact h2 _ (by omega)
/-- the last word, as the package asks it -/
theorem last_mask (x k : Nat) (hk : 1 ≤ k) (hk2 : k ≤ 64) : ((x + 1) % 2 ^ 64) &&& (2 ^ k - 1) = 0 ↔ x % 2 ^ k = 2 ^ k - 1 := by
  rw [Nat.and_two_pow_sub_one_eq_mod, Nat.mod_mod_of_dvd _ (Nat.pow_dvd_pow 2 hk2)]
  have hp : 0 < 2 ^ k := Nat.pow_pos (by omega)
  generalize 2 ^ k = m at hp
  have h1 := Nat.div_add_mod x m
  have h2 := Nat.mod_lt x hp
  constructor
  · intro h
    by_cases e : x % m + 1 = m
    · omega
    · exfalso
      have : (x + 1) % m = x % m + 1 := by
        rw [Nat.add_mod, Nat.mod_eq_of_lt (show x % m + 1 % m < m by rcases Nat.lt_or_ge 1 m with h | h
                                                                     · rw [Nat.mod_eq_of_lt h]; omega
                                                                     · have : m = 1 := by omega
                                                                       subst this; omega)]
        rcases Nat.lt_or_ge 1 m with h | h
        · rw [Nat.mod_eq_of_lt h]
        · have : m = 1 := by omega
          subst this; omega
      omega
  · intro h
    have e : x + 1 = m * (x / m + 1) := by rw [Nat.mul_add]; omega
    rw [e]
    exact Nat.mul_mod_right _ _

/-- bits as signs -/
def marksL (L : List Bool) : List UInt8 := L.map fun b => if b then 120 else 95
def isMark (c : UInt8) : Bool := c == 120 || c == 95
theorem marksL_filter (L : List Bool) : (marksL L).filter isMark = marksL L := by
  rw [List.filter_eq_self]
  intro c hc
  obtain ⟨b, _, rfl⟩ := List.mem_map.1 hc
  cases b <;> rfl
/-- bits in bytes -/
def packB (L : List Bool) : List UInt8 := (List.range ((L.length + 7) / 8)).map fun i => UInt8.ofNat ((pack L).getD (i / 8) 0 / 2 ^ (i % 8 * 8) % 256)
end Go.Proofs.YtfodkjpjejoemaaDoor
