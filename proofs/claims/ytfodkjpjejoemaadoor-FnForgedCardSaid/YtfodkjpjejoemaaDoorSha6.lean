/-
  The digest that has taken bytes: Write.
  Conditions: the digest's block is known whole; the table _K holds the rounds' words; all bytes together are at most 2^32.
-/
import Derived.Test.YtfodkjpjejoemaaDoorSha5
import Derived.Deep.DeepCutAuto
namespace Go.Proofs.YtfodkjpjejoemaaDoor
open Go Go.RowKit
attribute [local go_sem ↓] Go.wp_at_zero Go.wp_at_succ

theorem u8v_one' (bs : List UInt8) : ∀ u ∈ bs.map u8v, u.oneCell' = true := by
  intro u hu; obtain ⟨x, _, rfl⟩ := List.mem_map.1 hu; rfl
theorem byts_src' {w : World} {A : Option Addr} {n c : Nat} {bs : List UInt8} (h : Byts w (.slice A n c) bs) : Src w A n (bs.map u8v) := Src.of_slc u8v (fun _ _ h => h) h

theorem spl_dgL (h : List W32) (x P : List UInt8) (nx len k m : Nat) (hh : h.length = 8) (hx : x.length = 64) (hk : k + m ≤ 64) :
    spl (dgL h x nx len) (8 + k) (P.map u8v) m = dgL h (x.take k ++ (P.take m ++ x.drop (k + m))) nx len := by
  unfold spl dgL
  have e1 : (h.map u32v).length = 8 := by simpa using hh
  rw [List.take_append, List.drop_append, e1, List.take_of_length_le (show (h.map u32v).length ≤ 8 + k by omega), List.drop_eq_nil_of_le (show (h.map u32v).length ≤ 8 + k + m by omega),
    show 8 + k - 8 = k by omega, show 8 + k + m - 8 = k + m by omega, List.take_append_of_le_length (by simp; omega), List.drop_append_of_le_length (by simp; omega)]
  simp [List.map_take, List.map_drop]
theorem DgL.copied {w w' : World} {b : Nat} {h : List W32} {x : List UInt8} {nx len : Nat} (d : DgL w b h x nx len) (P : List UInt8) (k m : Nat) (hk : k + m ≤ 64) (hm : m ≤ P.length)
    (hb : w'.heap[b]? = some (.cells (spl (dgL h x nx len) (8 + k) (P.map u8v) m).toArray 188 (0, 0))) : DgL w' b h (x.take k ++ (P.take m ++ x.drop (k + m))) nx len := by
  refine ⟨?_, d.hlen, ?_⟩
  · rw [hb, spl_dgL h x P nx len k m d.hlen d.xlen hk]
  · have := d.xlen; simp; omega
theorem DgL.setNxI {w : World} {b : Nat} {h : List W32} {x : List UInt8} {nx len : Nat} (d : DgL w b h x nx len) (z : Int) (n : Nat) (hz : z = n) : DgL (w.setCell ⟨b, 72, none⟩ (.int .i64 z)) b h x n len := by
  subst hz; exact d.setNx n
theorem DgL.setLenI {w : World} {b : Nat} {h : List W32} {x : List UInt8} {nx len : Nat} (d : DgL w b h x nx len) (z : Int) (n : Nat) (hz : z = n) : DgL (w.setCell ⟨b, 73, none⟩ (.int .u64 z)) b h x nx n := by
  subst hz; exact d.setLen n

theorem block_any (s : St) (x : List UInt8) (nx len b : Nat) (v : Value) (L : List UInt8) (w : World) (d : DgL w b s.list x nx len) (hv : Byts w v L) (hK : KTab w) (hL : L.length ≤ 4294967296) :
    Calls Tryd.prog 137 #[.pointer (some ⟨b, 0, none⟩), v] w fun e w' => e = .returned (.tuple #[]) ∧ DgL w' b (shaRun s L (L.length / 64)).list x nx len ∧ Kp (fun i => i = b) w w' := by
  have HB := Lib.hid (blockGeneric_any s x nx len b v L w d hv hK hL)
  clear d hv hK
  go_enter Tryd.func137, Tryd.ntmps137
  go_wp2_with (go_at_call 153; refine HB.out.mono ?_; rintro e w1 ⟨rfl, hd, hk⟩)
  go_end0
  exact ⟨rfl, hd, hk⟩

theorem shaChunk_self (L : List UInt8) (h : L.length = 64) : shaChunk L 0 = L := by unfold shaChunk; simp [List.take_of_length_le, h]
theorem shaRun_part (s : St) (T : List UInt8) (j m : Nat) (h : 64 * (j + m) ≤ T.length) : shaRun (shaRun s T j) ((T.drop (64 * j)).take (64 * m)) m = shaRun s T (j + m) := by
  rw [shaRun_drop]
  have e : T.drop (64 * j) = (T.drop (64 * j)).take (64 * m) ++ (T.drop (64 * j)).drop (64 * m) := (List.take_append_drop _ _).symm
  have hlen : ((T.drop (64 * j)).take (64 * m)).length = 64 * m := by rw [List.length_take, List.length_drop]; omega
  conv => rhs; rw [e]
  rw [shaRun_append _ ((T.drop (64 * j)).take (64 * m)) _ m (by omega)]
theorem shaChunk_length_full (T : List UInt8) (q : Nat) (h : 64 * (q + 1) ≤ T.length) : (shaChunk T q).length = 64 := by
  unfold shaChunk
  rw [List.length_take, List.length_drop]; omega
theorem take_fill (bs p x : List UInt8) (k q : Nat) (hk : bs.length = 64 * q + k) (hk64 : k < 64) (hx : x.take k = bs.drop (64 * q)) (hp : 64 ≤ k + p.length) : x.take k ++ p.take (64 - k) = shaChunk (bs ++ p) q := by
  unfold shaChunk
  have hd : (bs.drop (64 * q)).length = k := by rw [List.length_drop]; omega
  rw [hx, List.drop_append_of_le_length (by omega)]
  conv => rhs; rw [List.take_append, List.take_of_length_le (show (bs.drop (64 * q)).length ≤ 64 by omega), hd]
theorem shaRun_fill (bs p x : List UInt8) (k q : Nat) (hk : bs.length = 64 * q + k) (hk64 : k < 64) (hx : x.take k = bs.drop (64 * q)) (hp : 64 ≤ k + p.length) :
    shaRun (shaRun shaIV bs q) (x.take k ++ p.take (64 - k)) 1 = shaRun shaIV (bs ++ p) (q + 1) := by
  rw [take_fill bs p x k q hk hk64 hx hp, shaRun, shaRun, shaRun, shaRun_append _ _ _ _ (by omega), shaChunk_self]
  unfold shaChunk
  rw [List.length_take, List.length_drop, List.length_append]; omega

theorem xslice_from (b o k : Nat) (hk : k < 64) (w : World) : (Instr.sliceAt 186 (.pointer (some ⟨b, o, none⟩)) (some (.int .i64 (k : Int))) none none).run Tryd.prog w = .ok (.slice (some ⟨b, o + k, none⟩) (64 - k) (64 - k)) w := by
  have hl : Tryd.prog.arrayLen 186 = 64 := by kernel_rfl
  have he : Tryd.prog.elem 186 = 5 := by kernel_rfl
  rw [run_sliceAt_array_l (P := Tryd.prog) w 186 _ (by rw [hl, he]; exact Tryd.underlying186) .i64 _ (by omega) (by rw [hl]; omega), hl, he, sz1]
  simp only [Result.andThen, slicedAt, Int.toNat_natCast, Nat.mul_one]
  rw [if_neg (by omega)]
  unfold Addr.add
  split <;> simp_all
theorem xslice_all (b o : Nat) (w : World) : (Instr.sliceAt 186 (.pointer (some ⟨b, o, none⟩)) none none none).run Tryd.prog w = .ok (.slice (some ⟨b, o, none⟩) 64 64) w := by
  have hl : Tryd.prog.arrayLen 186 = 64 := by kernel_rfl
  have he : Tryd.prog.elem 186 = 5 := by kernel_rfl
  rw [run_sliceAt_array_all (P := Tryd.prog) w 186 _ (by rw [hl, he]; exact Tryd.underlying186), hl, he, sz1]
  simp [Result.andThen, slicedAt, Addr.add]

theorem and_not_63 (n : Nat) (h : n < 9223372036854775808) : bits .andNot .i64 (n : Int) 63 = ((64 * (n / 64) : Nat) : Int) := by
  have e1 : (BitVec.ofInt 64 (n : Int) &&& ~~~(BitVec.ofInt 64 (63 : Int))).toNat = 64 * (n / 64) := by
    rw [BitVec.toNat_and, BitVec.toNat_not, BitVec.ofInt_natCast, BitVec.toNat_ofNat, Nat.mod_eq_of_lt (by omega)]
    rw [show (BitVec.ofInt 64 (63 : Int)).toNat = 63 from rfl]
    apply Nat.eq_of_testBit_eq
    intro i
    rw [Nat.testBit_and, show 2 ^ 64 - 1 - 63 = 2 ^ 64 - (63 + 1) from rfl, Nat.testBit_two_pow_sub_succ (by decide), show (63 : Nat) = 2 ^ 6 - 1 from rfl, Nat.testBit_two_pow_sub_one,
      show 64 * (n / (2 ^ 6 - 1 + 1)) = 2 ^ 6 * (n / 2 ^ 6) from rfl, Nat.testBit_two_pow_mul, Nat.testBit_div_two_pow]
    by_cases h6 : 6 ≤ i
    · by_cases h64 : i < 64
      · simp [h6, h64, show ¬ i < 6 by omega]
      · have : n.testBit i = false := Nat.testBit_lt_two_pow (Nat.lt_of_lt_of_le h (show 9223372036854775808 ≤ 2 ^ i from Nat.le_trans (show 9223372036854775808 ≤ 2 ^ 63 by decide) (Nat.pow_le_pow_right (by omega) (by omega))))
        simp [h6, h64, this]
    · simp [h6, show i < 6 by omega]
  show IntKind.i64.wrap ((BitVec.ofInt 64 (n : Int) &&& ~~~(BitVec.ofInt 64 (63 : Int))).toNat : Int) = _
  rw [e1, IntKind.wrap_i64]
  omega

theorem KTab.keep {w w' : World} {S : Nat → Prop} (h : KTab w) (k : Kp S w w') (hS : ¬ S 4) : KTab w' := fun i hi => k.cell_of (h i hi) hS
theorem KTab.ne {w : World} {b : Nat} {h : List W32} {x : List UInt8} {nx len : Nat} (k : KTab w) (d : DgL w b h x nx len) : 4 ≠ b := by
  rintro rfl
  have h1 := k 63 (by decide)
  have h2 := d.byte 55 (by decide)
  rw [h1] at h2
  simp at h2

theorem DgL.bytes {w : World} {b : Nat} {h : List W32} {x : List UInt8} {nx len : Nat} (d : DgL w b h x nx len) : Byts w (.slice (some ⟨b, 8, none⟩) 64 64) x := by
  have hx := d.xlen
  refine ⟨some ⟨b, 8, none⟩, 64, by rw [hx], by omega, by simp [maxLen], (fun e => by cases e), fun _ => ⟨b, 8, rfl, fun i hi => ⟨_, d.byte i (by omega), ?_⟩⟩⟩
  unfold U8; simp [List.getD, hi]
/-- the digest in block b has taken the bytes bs -/
def Dg (w : World) (b : Nat) (bs : List UInt8) : Prop :=
  ∃ x, DgL w b (shaRun shaIV bs (bs.length / 64)).list x (bs.length % 64) bs.length ∧ x.take (bs.length % 64) = bs.drop (64 * (bs.length / 64))
theorem Dg.lt {w : World} {b : Nat} {bs : List UInt8} (h : Dg w b bs) : b < w.heap.size := by obtain ⟨x, d, _⟩ := h; exact d.lt
theorem Dg.kp {S : Nat → Prop} {w w' : World} {b : Nat} {bs : List UInt8} (h : Dg w b bs) (k : Kp S w w') (hS : ¬ S b) : Dg w' b bs := by obtain ⟨x, d, e⟩ := h; exact ⟨x, d.kp k hS, e⟩
theorem Dg.ktab {w : World} {b : Nat} {bs : List UInt8} (h : Dg w b bs) (k : KTab w) : 4 ≠ b := by obtain ⟨x, d, e⟩ := h; exact k.ne d

/-- bytes that stay as they are whatever is written into block b -/
def Bys (w : World) (b : Nat) (v : Value) (L : List UInt8) : Prop := ∀ wx, Kp (fun i => i = b) w wx → Byts wx v L
theorem Bys.at_ {w : World} {b : Nat} {v : Value} {L : List UInt8} (h : Bys w b v L) : Byts w v L := h w (Kp.refl _ _)
theorem bys_from {w : World} {b : Nat} {A : Option Addr} {n c : Nat} {L : List UInt8} (h : Bys w b (.slice A n c) L) (k : Nat) (hk : k ≤ L.length) :
    ∃ A' c', (∀ (w' : World), (Instr.slice 22 (.slice A n c) (some (.int .i64 (k : Int))) none none).run Tryd.prog w' = .ok (.slice A' (n - k) c') w') ∧ Bys w b (.slice A' (n - k) c') (L.drop k) := by
  obtain ⟨A', c', h1, h2⟩ := slc_from (P := Tryd.prog) Tryd.underlying22 sz1 h.at_ k hk
  exact ⟨A', c', h1, fun wx kx => h2 wx (h wx kx)⟩
theorem bys_to {w : World} {b : Nat} {A : Option Addr} {n c : Nat} {L : List UInt8} (h : Bys w b (.slice A n c) L) (k : Nat) (hk : k ≤ L.length) :
    ∃ A' c', (∀ (w' : World), (Instr.slice 22 (.slice A n c) none (some (.int .i64 (k : Int))) none).run Tryd.prog w' = .ok (.slice A' k c') w') ∧ Bys w b (.slice A' k c') (L.take k) := by
  obtain ⟨A', c', h1, h2⟩ := slc_to (P := Tryd.prog) Tryd.underlying22 sz1 h.at_ k hk
  exact ⟨A', c', h1, fun wx kx => h2 wx (h wx kx)⟩

/-- where Write's ways meet: so many blocks are reckoned, so many bytes are left -/
def WrCut (w : World) (b : Nat) (T : List UInt8) (lim : Nat) (v : Value) (wc : World) : Prop :=
  ∃ (x : List UInt8) (nx j : Nat) (rest : List UInt8), DgL wc b (shaRun shaIV T j).list x nx T.length ∧ Bys w b v rest ∧ Kp (fun i => i = b) w wc ∧ rest.length ≤ lim ∧
    ((nx = 0 ∧ rest = T.drop (64 * j) ∧ 64 * j ≤ T.length) ∨ (rest = [] ∧ j = T.length / 64 ∧ nx = T.length % 64 ∧ x.take nx = T.drop (64 * j)))

set_option maxRecDepth 100000 in
set_option maxHeartbeats 8000000 in
theorem write_any (bs p : List UInt8) (b : Nat) (v : Value) (w : World) (d : Dg w b bs) (hvb : Bys w b v p) (hK : KTab w) (hl : bs.length + p.length ≤ 4294967296) :
    Calls Tryd.prog 113 #[.pointer (some ⟨b, 0, none⟩), v] w fun e w' => e = .returned (.tuple #[.int .i64 p.length, .nilIface]) ∧ Dg w' b (bs ++ p) ∧ Kp (fun i => i = b) w w' := by
  obtain ⟨x, d, hx⟩ := d
  have hKb := hK.ne d
  have HKB := Lib.hid hKb
  have HX := Lib.hid hx
  have hv := hvb.at_
  have HV := Lib.hid hvb
  have HKT := Lib.hid hK
  obtain ⟨k, hk⟩ : ∃ k, k = bs.length % 64 := ⟨_, rfl⟩
  obtain ⟨q, hq⟩ : ∃ q, q = bs.length / 64 := ⟨_, rfl⟩
  obtain ⟨len, hlen⟩ : ∃ n, n = bs.length := ⟨_, rfl⟩
  obtain ⟨n, hn⟩ : ∃ n, n = p.length := ⟨_, rfl⟩
  obtain ⟨T, hT⟩ : ∃ T, T = bs ++ p := ⟨_, rfl⟩
  have hTl : T.length = len + n := by rw [hT, List.length_append, ← hlen, ← hn]
  rw [← hk, ← hq] at d hx
  have D := Lib.hid d
  obtain ⟨A, c, rfl, h1, h2, h3, h4⟩ := hv
  have HQ := Lib.hid (show bs.length = 64 * q + k by omega)
  have HN := Lib.hid hn
  have HL := Lib.hid hlen
  have HT := Lib.hid hT
  have HTL := Lib.hid hTl
  have hk64 : k < 64 := by omega
  have hn32 : n ≤ 4294967296 := by omega
  have hl32 : len ≤ 4294967296 := by omega
  have hs32 : len + n ≤ 4294967296 := by omega
  rw [← hn] at h1 HV ⊢
  unfold maxLen at h2
  rw [← hlen] at d
  obtain ⟨c72, c73, c74⟩ := d.tail
  have hf := d.frozen
  clear hk hq hlen hn hT hTl h4 hx hK hKb d hl c74 hvb
  go_enter Tryd.func113, Tryd.ntmps113
  go_upto_if 23 with fail
  generalize hw1 : World.setCell _ _ _ = w1
  have HK1 : Hid (Kp (fun i => i = b) w w1) := Lib.hid (by rw [← hw1]; exact (Kp.refl (fun i => i = b) w).setCell (p := ⟨b, 73, none⟩) (fun _ => rfl) _)
  have HD1 : Hid (DgL w1 b (shaRun shaIV bs q).list x k T.length) := Lib.hid (by rw [← hw1]; exact D.out.setLenI _ _ (by rw [HTL.out]; omega))
  have d1 := HD1.out
  have HBD := Lib.hid d1.body
  obtain ⟨e72, e73, e74⟩ := d1.tail
  have hf1 := d1.frozen
  have HV1 : Hid (Byts w1.drew (.slice A n c) p) := Lib.hid (HV.out _ HK1.out.drew)
  clear hw1 hf c72 c73 D d1 e73 e74
  go_cut [1] (fun v' wc => WrCut w b T (len + n) v' wc)
  case first =>
    by_cases hk0 : k = 0
    · have HQ2 := Lib.hid hk0
      have hk0' : ¬ 0 < k := by omega
      go_wp2_with fail
      go_meet
      refine ⟨x, 0, q, p, ?_, HV.out, HK1.out, by have := HN.out; omega, .inl ⟨rfl, ?_, ?_⟩⟩
      · have := HD1.out
        have e : shaRun shaIV T q = shaRun shaIV bs q := by rw [HT.out]; exact shaRun_append _ _ _ _ (by have := HQ.out; omega)
        rw [e]; rwa [HQ2.out] at this
      · rw [HT.out, List.drop_append_of_le_length (by have := HQ.out; omega), List.drop_eq_nil_of_le (by have := HQ.out; have := HQ2.out; omega), List.nil_append]
      · have := HQ.out; have := HTL.out; have := HL.out; omega
    · have hk0' : 0 < k := by omega
      have hsx := xslice_from b 8 k hk64
      have i1 : (0 : Int) ≤ (k : Int) := by omega
      by_cases hsm : k + n < 64
      · have hmin : min n (64 - k) = n := by omega
        have HMIN := Lib.hid hmin
        obtain ⟨A2, c2, hsl, hby⟩ := bys_from HV.out n (by have := HN.out; omega)
        have HBY := Lib.hid hby
        have hq6 : ((k : Int) + (n : Int) == 64) = false := by rw [beq_eq_false_iff_ne]; omega
        clear hby hmin
        go_wp2_with fail
        go_still_tail 9, (by kernel_rfl)
        change wpList _ _ _ _ _ w1.drew
        refine wpList_cpy rfl (.tmp 31) (.tmp 32) 22 22 rfl Tryd.underlying22 (by kernel_rfl) rfl rfl (g := b) (off := 8 + k) (cur := dgL (shaRun shaIV bs q).list x k T.length) (t := 188) HBD.out (byts_src' HV1.out) (u8v_one' p) (fun _ => rfl) (by have := HD1.out.hlen; have := HD1.out.xlen; simp [dgL]; omega) ?_
        intro w2 hb2 hk2
        rw [HMIN.out] at hb2 ⊢
        have HD2 : Hid (DgL w2 b (shaRun shaIV bs q).list (x.take k ++ (p.take n ++ x.drop (k + n))) k T.length) := Lib.hid (HD1.out.drew.copied p k n (by omega) (by have := HN.out; omega) hb2.out)
        obtain ⟨z72, z73, z74⟩ := HD2.out.tail
        have hf2 := HD2.out.frozen
        clear z73 z74 hb2
        go_wp2
        go_meet
        have e0 : p.drop n = [] := List.drop_eq_nil_of_le (by have := HN.out; omega)
        have hby2 := HBY.out
        rw [Nat.sub_self] at hby2
        have eS : shaRun shaIV bs q = shaRun shaIV T q := by rw [HT.out]; exact (shaRun_append _ _ _ _ (by have := HQ.out; omega)).symm
        have hd9 := HD2.out.setNxI ((k : Int) + (n : Int)) (k + n) (by omega)
        rw [eS] at hd9
        refine ⟨_, k + n, q, p.drop n, hd9, hby2, ((HK1.out.drew.trans hk2.out).setCell (p := ⟨b, 72, none⟩) (fun _ => rfl) _), by rw [e0]; exact Nat.zero_le _, .inr ⟨e0, ?_, ?_, ?_⟩⟩
        · have := HTL.out; have := HQ.out; have := HL.out; omega
        · have := HTL.out; have := HQ.out; have := HL.out; omega
        · have hxk : x.take k = bs.drop (64 * q) := by
            have h1 := HX.out
            have h2 := HQ.out
            rwa [show bs.length % 64 = k by omega, show bs.length / 64 = q by omega] at h1
          have hxl := HD1.out.xlen
          have hnn := HN.out
          rw [HT.out, List.drop_append_of_le_length (by have := HQ.out; omega), ← hxk, ← List.append_assoc, List.take_append_of_le_length (by simp; omega), List.take_of_length_le (by simp; omega), List.take_of_length_le (show p.length ≤ n by omega)]
      · obtain ⟨m, hm⟩ : ∃ m, m = 64 - k := ⟨_, rfl⟩
        have hmin : min n (64 - k) = m := by omega
        have HMIN := Lib.hid hmin
        obtain ⟨A2, c2, hsl, hby⟩ := bys_from HV.out m (by have := HN.out; omega)
        have HBY := Lib.hid hby
        have hq6 : ((k : Int) + (m : Int) == 64) = true := by rw [beq_iff_eq]; omega
        have hxa := xslice_all b 8
        have HM := Lib.hid hm
        have hm64 : m ≤ n := by omega
        have hma : m + k ≤ 64 := by omega
        have hmb : 64 ≤ m + k := by omega
        clear hby hmin hm
        go_wp2_with fail
        go_still_tail 9, (by kernel_rfl)
        change wpList _ _ _ _ _ w1.drew
        refine wpList_cpy rfl (.tmp 31) (.tmp 32) 22 22 rfl Tryd.underlying22 (by kernel_rfl) rfl rfl (g := b) (off := 8 + k) (cur := dgL (shaRun shaIV bs q).list x k T.length) (t := 188) HBD.out (byts_src' HV1.out) (u8v_one' p) (fun _ => rfl) (by have := HD1.out.hlen; have := HD1.out.xlen; simp [dgL]; omega) ?_
        intro w2 hb2 hk2
        rw [HMIN.out] at hb2 ⊢
        have HD2 : Hid (DgL w2 b (shaRun shaIV bs q).list (x.take k ++ (p.take m ++ x.drop (k + m))) k T.length) := Lib.hid (HD1.out.drew.copied p k m (by omega) (by have := HN.out; omega) hb2.out)
        obtain ⟨z72, z73, z74⟩ := HD2.out.tail
        have hf2 := HD2.out.frozen
        clear z73 z74 hb2
        go_wp2_with (go_at_call 137; go_loud (
              refine (block_any (shaRun shaIV bs q) _ 64 T.length b _ _ _ (HD2.out.setNxI _ 64 (by omega)) (HD2.out.setNxI _ 64 (by omega)).bytes (HKT.out.keep ((HK1.out.drew.trans hk2.out).setCell (p := ⟨b, 72, none⟩) (fun _ => rfl) _) (fun e => HKB.out e)) (by have := HD2.out.xlen; omega)).mono ?_
              rintro e w4 ⟨rfl, hd4, hk4⟩
              have HD4 := Lib.hid hd4
              have HK4 := Lib.hid hk4
              obtain ⟨y72, y73, y74⟩ := hd4.tail
              have hf4 := hd4.frozen
              clear y73 y74 hd4 hk4))
        go_meet
        have hxk : x.take k = bs.drop (64 * q) := by
          have h1 := HX.out
          have h2 := HQ.out
          rwa [show bs.length % 64 = k by omega, show bs.length / 64 = q by omega] at h1
        have hxl := HD1.out.xlen
        have hnn := HN.out
        have hmm := HM.out
        have eX : x.take k ++ (p.take m ++ x.drop (k + m)) = x.take k ++ p.take (64 - k) := by
          rw [List.drop_eq_nil_of_le (show x.length ≤ k + m by omega), List.append_nil, hmm]
        refine ⟨shaChunk T q, 0, q + 1, p.drop m, ?_, HBY.out, (((HK1.out.drew.trans hk2.out).setCell (p := ⟨b, 72, none⟩) (fun _ => rfl) _).trans HK4.out).setCell (p := ⟨b, 72, none⟩) (fun _ => rfl) _, by rw [List.length_drop]; omega, .inl ⟨rfl, ?_, ?_⟩⟩
        · have h9 := HD4.out
          rw [eX, take_fill bs p x k q HQ.out hk64 hxk (by omega), shaChunk_length_full _ _ (by have := HQ.out; rw [List.length_append]; omega)] at h9
          have h8 := shaRun_fill bs p x k q HQ.out hk64 hxk (by omega)
          rw [take_fill bs p x k q HQ.out hk64 hxk (by omega)] at h8
          rw [show (64 : Nat) / 64 = 1 from rfl, h8, ← HT.out] at h9
          exact h9.setNxI 0 0 rfl
        · have := HQ.out
          rw [HT.out, List.drop_append, List.drop_eq_nil_of_le (show bs.length ≤ 64 * (q + 1) by omega), List.nil_append]
          congr 1; omega
        · have := HQ.out; have := HTL.out; have := HL.out; omega
  case rest =>
    obtain ⟨x1, nx1, j1, rest, hd, hby, hkp, hrl, hor⟩ := hcut
    have HD := Lib.hid hd
    have HBY := Lib.hid hby
    have HKP := Lib.hid hkp
    have HOR := Lib.hid hor
    obtain ⟨rl, hrl2⟩ : ∃ rl, rl = rest.length := ⟨_, rfl⟩
    have HRL := Lib.hid hrl2
    obtain ⟨Ar, cr, rfl, g1, g2, g3, g4⟩ := hby.at_
    rw [← hrl2] at g1 hrl HBY ⊢
    unfold maxLen at g2
    clear hd hkp hor hrl2 g3 g4 hby
    go_upto_if 61 with fail
    go_cut [1] (fun v' wc => WrCut w b T 63 v' wc)
    case first =>
      by_cases hr64 : rl < 64
      · have hr64' : ¬ 64 ≤ rl := by omega
        go_wp2_with fail
        go_meet
        exact ⟨x1, nx1, j1, rest, HD.out, HBY.out, HKP.out, by have := HRL.out; omega, HOR.out⟩
      · have hr64' : 64 ≤ rl := by omega
        have hr64i : (64 : Int) ≤ (rl : Int) := by omega
        rw [show decide ((64 : Int) ≤ (rl : Int)) = true from decide_eq_true hr64i]
        have hfst : nx1 = 0 ∧ rest = T.drop (64 * j1) ∧ 64 * j1 ≤ T.length := by
          rcases HOR.out with h | h
          · exact h
          · exfalso; have := HRL.out; rw [h.1] at this; simp at this; omega
        obtain ⟨hnx, hre, hj1⟩ := hfst
        have HRE := Lib.hid hre
        have hrn : rl + 64 * j1 = len + n := by
          have h1 := HRL.out
          rw [hre, List.length_drop, HTL.out] at h1
          have := HTL.out
          omega
        have HRN := Lib.hid hrn
        have hd0 := HD.out
        rw [hnx] at hd0
        have HD0 := Lib.hid hd0
        clear HOR HD hd0 hnx hre hj1 hrn
        have ha := and_not_63 rl (by omega)
        obtain ⟨m0, hm0⟩ : ∃ m, m = rl / 64 := ⟨_, rfl⟩
        obtain ⟨c0, hc0⟩ : ∃ c, c = 64 * (rl / 64) := ⟨_, rfl⟩
        rw [← hc0] at ha
        have hcr : c0 ≤ rl := by omega
        have HC0 := Lib.hid hc0
        clear hc0 hm0
        go_wp2_with fail
        go_loopw [7, 1] (fun c7 v wr => ∃ i c' : Nat, c' + 64 * i = c0 ∧ c7 = .int .i64 c' ∧ Bys w b v (T.drop (64 * (j1 + i))) ∧ DgL wr b (shaRun shaIV T (j1 + i)).list x1 0 T.length ∧ Kp (fun i => i = b) w wr) (fun c7 _ _ => (intOf c7).toNat)
        case atStart => exact ⟨0, c0, by omega, rfl, by have := HBY.out; rw [HRE.out] at this; exact this, HD0.out, HKP.out⟩
        case round =>
          obtain ⟨i, c', hci, rfl, hby, hd, hkp⟩ := hrel
          have HCI := Lib.hid hci
          have HBI := Lib.hid hby
          have HDI := Lib.hid hd
          have HKI := Lib.hid hkp
          obtain ⟨A5, c5, rfl, k1, k2, k3, k4⟩ := hby.at_
          obtain ⟨l5, hl5⟩ : ∃ l, l = (T.drop (64 * (j1 + i))).length := ⟨_, rfl⟩
          rw [← hl5] at k1 HBI ⊢
          have hl6 : l5 + 64 * i = rl := by
            have h1 := HRN.out
            have h2 := HTL.out
            have h3 := HC0.out
            rw [List.length_drop] at hl5
            omega
          have HL6 := Lib.hid hl6
          have HL5 := Lib.hid hl5
          have hcl : c' ≤ l5 := by omega
          have hl32 : l5 ≤ 4294967296 := by omega
          unfold maxLen at k2
          clear k3 k4 hby hd hkp hci hl5 hl6 HD0 HKP HBY
          by_cases hbig : 65536 < c'
          · obtain ⟨A6, c6, hs6, hb6⟩ := bys_to HBI.out 65536 (by have := HL5.out; omega)
            obtain ⟨A7, c7, hs7, hb7⟩ := bys_from HBI.out 65536 (by have := HL5.out; omega)
            rw [show ((65536 : Nat) : Int) = 65536 from rfl] at hs6 hs7
            have HB6 := Lib.hid hb6
            have HB7 := Lib.hid hb7
            have hbg : (65536 : Int) < (c' : Int) := by omega
            have h65 : 65536 ≤ l5 := by omega
            clear hb6 hb7
            go_wp2_with (go_at_call 137; go_loud (
              refine (block_any (shaRun shaIV T (j1 + i)) x1 0 T.length b _ _ _ HDI.out (HB6.out _ HKI.out) (HKT.out.keep HKI.out (fun e => HKB.out e)) (by rw [List.length_take]; omega)).mono ?_
              rintro e w4 ⟨rfl, hd4, hk4⟩
              have HD4 := Lib.hid hd4
              have HK4 := Lib.hid hk4
              clear hd4 hk4))
            go_roundw
            case rel =>
              obtain ⟨c'', hc''⟩ : ∃ c, c = c' - 65536 := ⟨_, rfl⟩
              refine ⟨i + 1024, c'', ?_, ?_, ?_, ?_, HKI.out.trans HK4.out⟩
              · have := HCI.out; omega
              · rw [hc'']; exact congrArg (Value.int .i64) (by omega)
              · have h1 := HB7.out
                rw [List.drop_drop, show 64 * (j1 + i) + 65536 = 64 * (j1 + (i + 1024)) by omega] at h1
                exact h1
              · have h1 := HD4.out
                have hlen : (List.take 65536 (List.drop (64 * (j1 + i)) T)).length / 64 = 1024 := by rw [List.length_take, ← HL5.out]; omega
                have h2 := shaRun_part shaIV T (j1 + i) 1024 (by have := HL5.out; rw [List.length_drop] at this; omega)
                rw [show 64 * 1024 = 65536 from rfl] at h2
                rw [hlen, h2, Nat.add_assoc] at h1
                exact h1
            case measure => simp [intOf]; omega
          · have hbg : ¬ (65536 : Int) < (c' : Int) := by omega
            obtain ⟨A6, c6, hs6, hb6⟩ := bys_to HBI.out c' (by have := HL5.out; omega)
            obtain ⟨A7, c7, hs7, hb7⟩ := bys_from HBI.out c' (by have := HL5.out; omega)
            have HB6 := Lib.hid hb6
            have HB7 := Lib.hid hb7
            clear hb6 hb7
            go_wp2_with (go_at_call 137; go_loud (
              refine (block_any (shaRun shaIV T (j1 + i)) x1 0 T.length b _ _ _ HDI.out (HB6.out _ HKI.out) (HKT.out.keep HKI.out (fun e => HKB.out e)) (by rw [List.length_take]; omega)).mono ?_
              rintro e w4 ⟨rfl, hd4, hk4⟩
              have HD4 := Lib.hid hd4
              have HK4 := Lib.hid hk4
              clear hd4 hk4))
            go_meet
            have hci := HCI.out
            have hc0 := HC0.out
            have hl5 := HL5.out
            have hl6 := HL6.out
            have hrn := HRN.out
            have htl := HTL.out
            rw [List.length_drop] at hl5
            obtain ⟨m, hm⟩ : ∃ m, c' = 64 * m := ⟨c' / 64, by omega⟩
            refine ⟨x1, 0, j1 + i + m, T.drop (64 * (j1 + i + m)), ?_, ?_, HKI.out.trans HK4.out, by rw [List.length_drop]; omega, .inl ⟨rfl, rfl, by omega⟩⟩
            · have h1 := HD4.out
              have hlen : (List.take c' (List.drop (64 * (j1 + i)) T)).length / 64 = m := by rw [List.length_take, List.length_drop]; omega
              have h2 := shaRun_part shaIV T (j1 + i) m (by omega)
              rw [← hm] at h2
              rw [hlen, h2] at h1
              exact h1
            · have h1 := HB7.out
              rw [List.drop_drop, show 64 * (j1 + i) + c' = 64 * (j1 + i + m) by omega] at h1
              exact h1
    case rest =>
      clear HD HBY HKP HOR HRL
      obtain ⟨x2, nx2, j2, rest2, hd2, hby2, hkp2, hrl3, hor2⟩ := hcut
      have HD2 := Lib.hid hd2
      have HBY2 := Lib.hid hby2
      have HKP2 := Lib.hid hkp2
      have HOR2 := Lib.hid hor2
      obtain ⟨r2, hr2⟩ : ∃ rl, rl = rest2.length := ⟨_, rfl⟩
      have HR2 := Lib.hid hr2
      obtain ⟨A8, c8, rfl, k1, k2, k3, k4⟩ := hby2.at_
      rw [← hr2] at k1 hrl3 HBY2 ⊢
      unfold maxLen at k2
      have HBD2 := Lib.hid hd2.body
      obtain ⟨z72, z73, z74⟩ := hd2.tail
      have hf2 := hd2.frozen
      clear hd2 hkp2 hor2 hr2 k3 k4 hby2 z73 z74
      by_cases hr0 : r2 = 0
      · have hr0' : ¬ 0 < r2 := by omega
        have HR0 := Lib.hid hr0
        go_wp2_with fail
        go_ret2
        refine ⟨rfl, ?_, HKP2.out⟩
        have h0 := HR2.out
        rw [HR0.out] at h0
        rw [← HT.out]
        rcases HOR2.out with ⟨a1, a2, a3⟩ | ⟨a1, a2, a3, a4⟩
        · have a4 : T.length = 64 * j2 := by rw [a2, List.length_drop] at h0; omega
          refine ⟨x2, ?_, ?_⟩
          · rw [show T.length / 64 = j2 by omega, show T.length % 64 = 0 by omega, ← a1]; exact HD2.out
          · rw [show T.length % 64 = 0 by omega, List.drop_eq_nil_of_le (by omega)]; rfl
        · exact ⟨x2, by rw [← a2, ← a3]; exact HD2.out, by rw [← a2, ← a3]; exact a4⟩
      · have hr0' : 0 < r2 := by omega
        have hxa := xslice_all b 8
        have hmin : min r2 64 = r2 := by omega
        have HMIN := Lib.hid hmin
        clear hmin
        go_wp2_with (
          refine wpList_cpy (o := ⟨some 92, _, _, _, _, _⟩) rfl (.tmp 90) (.tmp 91) 22 22 rfl Tryd.underlying22 (by kernel_rfl) rfl rfl (g := b) (off := 8) (cur := dgL (shaRun shaIV T j2).list x2 nx2 T.length) (t := 188) HBD2.out (byts_src' (HBY2.out _ HKP2.out)) (u8v_one' rest2) (fun _ => rfl) (by have := HD2.out.hlen; have := HD2.out.xlen; simp [dgL]; omega) ?_
          intro w5 hb5 hk5
          rw [HMIN.out] at hb5 ⊢
          have HD5 : Hid (DgL w5 b (shaRun shaIV T j2).list (x2.take 0 ++ (rest2.take r2 ++ x2.drop (0 + r2))) nx2 T.length) := Lib.hid (HD2.out.copied rest2 0 r2 (by omega) (by have := HR2.out; omega) hb5.out)
          obtain ⟨y72, y73, y74⟩ := HD5.out.tail
          have hf5 := HD5.out.frozen
          clear y73 y74 hb5)
        go_ret2
        refine ⟨rfl, ?_, (HKP2.out.trans hk5.out).setCell (p := ⟨b, 72, none⟩) (fun _ => rfl) _⟩
        have h0 := HR2.out
        rw [← HT.out]
        rcases HOR2.out with ⟨a1, a2, a3⟩ | ⟨a1, a2, a3, a4⟩
        · have h1 : T.length = 64 * j2 + r2 := by rw [a2, List.length_drop] at h0; omega
          have hx2 := HD2.out.xlen
          refine ⟨x2.take 0 ++ (rest2.take r2 ++ x2.drop (0 + r2)), ?_, ?_⟩
          · rw [show T.length / 64 = j2 by omega, show T.length % 64 = r2 by omega]
            exact HD5.out.setNxI _ _ rfl
          · rw [show T.length / 64 = j2 by omega, show T.length % 64 = r2 by omega, List.take_zero, List.nil_append, List.take_of_length_le (show rest2.length ≤ r2 by omega), List.take_append_of_le_length (by omega), List.take_of_length_le (by omega), a2]
        · rw [a1] at h0; simp at h0; omega
end Go.Proofs.YtfodkjpjejoemaaDoor
