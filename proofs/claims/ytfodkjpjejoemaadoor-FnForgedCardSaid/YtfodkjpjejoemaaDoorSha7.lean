/-
  The digest's sum: checkSum, Sum.
  Conditions: the digest has taken so many bytes, at most 2^32; the table _K holds the rounds' words.
-/
import Derived.Test.YtfodkjpjejoemaaDoorSha6
namespace Go.Proofs.YtfodkjpjejoemaaDoor
open Go Go.RowKit
attribute [local go_sem ↓] Go.wp_at_zero Go.wp_at_succ

theorem ArrB.drew {w : World} {g : Nat} {t : TypeId} {L : List UInt8} (h : ArrB w g t L) : ArrB w.drew g t L := h
theorem ArrB.byts {w : World} {g : Nat} {t : TypeId} {L : List UInt8} (h : ArrB w g t L) (n c : Nat) (hn : n ≤ L.length) (hc : n ≤ c) (hm : c ≤ maxLen) : Byts w (.slice (some ⟨g, 0, none⟩) n c) (L.take n) := by
  have hl : (L.take n).length = n := by rw [List.length_take]; omega
  refine ⟨some ⟨g, 0, none⟩, c, by rw [hl], by omega, hm, (fun e => by cases e), fun _ => ⟨g, 0, rfl, fun i hi => ⟨_, by rw [Nat.zero_add]; exact h.cell i (by omega), ?_⟩⟩⟩
  unfold U8
  have hi' : i < L.length := by omega
  simp [List.getD, hi']
theorem ArrB.bys {w : World} {g b : Nat} {t : TypeId} {L : List UInt8} (h : ArrB w g t L) (hne : g ≠ b) (n c : Nat) (hn : n ≤ L.length) (hc : n ≤ c) (hm : c ≤ maxLen) : Bys w b (.slice (some ⟨g, 0, none⟩) n c) (L.take n) :=
  fun _ k => (h.kp k hne).byts n c hn hc hm

theorem put64_eq (L : List UInt8) (o N : Nat) : ∀ k, k ≤ 8 → o + 8 ≤ L.length → put64 L o N k = L.take o ++ ((be64 N).take k ++ L.drop (o + k)) := by
  intro k
  induction k with
  | zero => intro _ _; simp [put64]
  | succ k ih =>
    intro hk ho
    have h1 : (L.take o).length = o := by rw [List.length_take]; omega
    have h2 : ((be64 N).take k).length = k := by rw [List.length_take]; simp [be64]; omega
    rw [put64, ih (by omega) ho, be64_take N k (by omega), List.set_append_right _ _ (by omega), h1, show o + k - o = k by omega, List.set_append_right _ _ (by omega), h2, Nat.sub_self,
      List.drop_eq_getElem_cons (show o + k < L.length by omega), List.set_cons_zero]
    simp [Nat.add_assoc]
theorem pad_bytes (len t : Nat) (ht : t = shaZeros len + 1) (N : Nat) (hN : N = 8 * len) : (put64 (128 :: List.replicate 71 0) t N 8).take (t + 8) = shaPadding len := by
  have hz := shaZeros_le len
  have hl8 : (be64 N).length = 8 := by simp [be64]
  rw [put64_eq _ _ _ 8 (by omega) (by simp; omega), be64_all]
  have e1 : (128 :: List.replicate 71 (0 : UInt8)).take t = 128 :: List.replicate (shaZeros len) 0 := by
    rw [ht, List.take_succ_cons, List.take_replicate, Nat.min_eq_left (by omega)]
  have h1 : (128 :: List.replicate (shaZeros len) (0 : UInt8)).length = t := by simp; omega
  rw [e1, List.take_append, h1, List.take_of_length_le (by omega), show t + 8 - t = 8 by omega, List.take_append_of_le_length (by omega), List.take_of_length_le (by omega), hN]
  rfl

theorem xs32 (w0 : World) (k : Nat) (hk : k < 32) : ∀ (b : Nat) (w : World), (Instr.sliceAt 122 (.pointer (some ⟨b, 0, none⟩)) (some (.int .i64 (k : Int))) none none).run Tryd.prog w = .ok (.slice (some ⟨b, k, none⟩) (32 - k) (32 - k)) w := by
  intro b w
  have hl : Tryd.prog.arrayLen 122 = 32 := by kernel_rfl
  have he : Tryd.prog.elem 122 = 5 := by kernel_rfl
  rw [run_sliceAt_array_l (P := Tryd.prog) w 122 _ (by rw [hl, he]; exact Tryd.underlying122) .i64 _ (by omega) (by rw [hl]; omega), hl, he, sz1]
  simp only [Result.andThen, slicedAt, Int.toNat_natCast, Nat.mul_one]
  rw [if_neg (by omega)]
  unfold Addr.add
  split <;> simp_all
theorem xs72_to (t : Nat) (ht : t + 8 ≤ 72) : ∀ (b : Nat) (w : World), (Instr.sliceAt 207 (.pointer (some ⟨b, 0, none⟩)) none (some (.int .u64 ((t : Int) + 8))) none).run Tryd.prog w = .ok (.slice (some ⟨b, 0, none⟩) (t + 8) 72) w := by
  intro b w
  have hl : Tryd.prog.arrayLen 207 = 72 := by kernel_rfl
  have he : Tryd.prog.elem 207 = 5 := by kernel_rfl
  rw [run_sliceAt_array_h (P := Tryd.prog) w 207 _ (by rw [hl, he]; exact Tryd.underlying207) .u64 _ (by omega) (by rw [hl]; omega), hl, he, sz1]
  simp [Result.andThen, slicedAt, Addr.add]
  omega
theorem xs22_from (t : Nat) (ht : t + 8 ≤ 72) : ∀ (b : Nat) (w : World), (Instr.slice 22 (.slice (some ⟨b, 0, none⟩) (t + 8) 72) (some (.int .u64 (t : Int))) none none).run Tryd.prog w = .ok (.slice (some ⟨b, t, none⟩) 8 (72 - t)) w := by
  intro b w
  have hu : Tryd.prog.underlying 22 = some (.slice (Tryd.prog.elem 22)) := by kernel_rfl
  have he : Tryd.prog.elem 22 = 5 := by kernel_rfl
  rw [run_slice_l (P := Tryd.prog) w 22 _ _ _ hu .u64 _ (by omega) (by omega), he, sz1]
  simp only [Result.andThen, sliced, Int.toNat_natCast, Nat.mul_one]
  rw [if_neg (by omega), show t + 8 - t = 8 by omega]
  simp only [Option.map_some]
  unfold Addr.add
  split <;> simp_all
theorem St.bytes_puts (S : St) : put32 (put32 (put32 (put32 (put32 (put32 (put32 (put32 (List.replicate 32 0) 0 S.a) 4 S.b) 8 S.c) 12 S.d) 16 S.e) 20 S.f) 24 S.g) 28 S.h = S.bytes := by
  simp only [put32, List.replicate, List.set, St.bytes, St.list, be32, List.flatMap_cons, List.flatMap_nil, List.cons_append, List.nil_append]
theorem all_one (L : List UInt8) : (L.map u8v).toArray.all (·.oneCell') = true := by
  rw [List.all_toArray]; simp [Value.oneCell']
theorem shaPad_mod (bs : List UInt8) : (shaPad bs).length % 64 = 0 := by
  unfold shaPad; rw [List.length_append]; exact shaPadding_length _

set_option maxRecDepth 100000 in
set_option maxHeartbeats 8000000 in
theorem checkSum_any (bs : List UInt8) (b : Nat) (w : World) (d : Dg w b bs) (hK : KTab w) (hl : bs.length ≤ 4294967000) :
    Calls Tryd.prog 138 #[.pointer (some ⟨b, 0, none⟩)] w fun e w' => e = .returned (.agg ((sha bs).map u8v).toArray) ∧ (∃ h x nx len, DgL w' b h x nx len) ∧ Kp (fun i => i = b) w w' := by
  have HD := Lib.hid d
  have HKT := Lib.hid hK
  obtain ⟨x, d, hx⟩ := d
  obtain ⟨c72, c73, c74⟩ := d.tail
  have hbw := d.lt
  obtain ⟨len, hlen⟩ : ∃ n, n = bs.length := ⟨_, rfl⟩
  rw [← hlen] at c73
  have HL := Lib.hid hlen
  have hl2 : len ≤ 4294967000 := by omega
  obtain ⟨t, ht⟩ : ∃ t, t = shaZeros len + 1 := ⟨_, rfl⟩
  obtain ⟨r, hr⟩ : ∃ r, r = len % 64 := ⟨_, rfl⟩
  obtain ⟨N, hN⟩ : ∃ N, N = 8 * len := ⟨_, rfl⟩
  have HTT := Lib.hid ht
  have HN := Lib.hid hN
  have htz := shaZeros_le len
  have ht64 : t ≤ 64 := by omega
  have ht1 : 1 ≤ t := by omega
  have fr : (len : Int) % 64 = (r : Int) := by omega
  have fN : (len : Int) * 8 = (N : Int) := by omega
  have hr64 : (r : Int) < 64 := by omega
  have hN2 : N ≤ 34359738368 := by omega
  have q1 := xs72_to t (by omega)
  have q2 := xs22_from t (by omega)
  have hcase : (r < 56 ∧ t + r = 56) ∨ (56 ≤ r ∧ t + r = 120) := by unfold shaZeros at ht; omega
  clear ht hN htz hlen d hx hl c72 c74 hr hK
  rcases hcase with ⟨hr56, htr⟩ | ⟨hr56, htr⟩
  case inl =>
    have ft : (56 : Int) - (r : Int) = (t : Int) := by omega
    have hr56i : (r : Int) < 56 := by omega
    clear htr
    go_enter Tryd.func138, Tryd.ntmps138
    go_upto_region 10 with fail
    generalize hw2 : World.alloc _ _ = w2
    have HK2 : Hid (Keep w w2) := Lib.hid (by rw [← hw2]; exact ((Kp.refl _ _).alloc _).alloc _)
    have HG2 : Hid (ArrB w2 w.heap.size 122 (List.replicate 32 0)) := Lib.hid (by rw [← hw2]; exact heap_alloc2_old _ _ _)
    have HG4 : Hid (ArrB w2 (w.heap.size + 1) 207 (128 :: List.replicate 71 0)) := Lib.hid (by rw [← hw2]; exact heap_alloc2_new _ _ _)
    obtain ⟨g4, hg4⟩ : ∃ g, g = w.heap.size + 1 := ⟨_, rfl⟩
    obtain ⟨g2, hg2⟩ : ∃ g, g = w.heap.size := ⟨_, rfl⟩
    rw [← hg4] at HG4 ⊢
    rw [← hg2] at HG2 ⊢
    have HGN : Hid (b < g2 ∧ g2 < g4 ∧ w.heap.size ≤ g2) := Lib.hid (by omega)
    have q2' := q2 g4
    have HB := Lib.hid (be64_any g4 t 8 (72 - t) N 207 (128 :: List.replicate 71 0) w2 HG4.out (by omega) (by simp; omega) (by omega) (by omega))
    clear hw2 hg4 hg2 c73 q1 hbw
    go_wp2_with (go_at_call 154; refine HB.out.mono ?_; rintro e w3 ⟨rfl, hg, hk⟩; have HG5 := Lib.hid hg; have HK3 := Lib.hid hk; clear hg hk)
    have HD3 := Lib.hid ((HD.out.kp HK2.out (fun x => x)).kp HK3.out (fun e => by have := HGN.out; omega))
    have HKT3 := Lib.hid ((HKT.out.keep HK2.out (fun x => x)).keep HK3.out (fun e => by have := HGN.out; have h1 := World.block_lt_of_cell? w _ (HKT.out 0 (by decide)); simp at h1; omega))
    have HBY : Hid (Bys w3 b (.slice (some ⟨g4, 0, none⟩) (t + 8) 72) (shaPadding len)) := Lib.hid (by
      have h1 := HG5.out.bys (b := b) (by have := HGN.out; omega) (t + 8) 72 (by rw [put64_length]; simp; omega) (by omega) (by simp [maxLen])
      rwa [pad_bytes len t HTT.out N HN.out] at h1)
    have HG6 := Lib.hid (HG2.out.kp HK3.out (fun e => by have := HGN.out; omega))
    have HWR := Lib.hid (write_any bs (shaPadding len) b _ w3 HD3.out HBY.out HKT3.out (by have h1 := HL.out; have h2 := shaZeros_le len; simp [shaPadding, be64]; omega))
    go_wp2_with (go_at_call 113; refine HWR.out.mono ?_; rintro e w4 ⟨rfl, hd, hk⟩; rw [HL.out] at hd; obtain ⟨x4, hd4, hx4⟩ := hd; have HD4 : Hid (DgL w4 b (shaRun shaIV (shaPad bs) ((shaPad bs).length / 64)).list x4 ((shaPad bs).length % 64) (shaPad bs).length) := Lib.hid hd4; rw [shaPad_mod] at HD4; have HK4 := Lib.hid hk; have z72 : w4.cell? ⟨b, 72, none⟩ = some (.int .i64 0) := HD4.out.tail.1; clear hd4 hx4 hk)
    generalize hw5 : World.alloc _ _ = y0
    have HKY : Hid (Keep w4 y0) := Lib.hid (by rw [← hw5]; exact (Kp.refl _ _).alloc _)
    have HG0 : Hid (ArrB y0 w4.heap.size 122 (List.replicate 32 0)) := Lib.hid (by rw [← hw5]; exact heap_alloc_new _ _)
    obtain ⟨g7, hg7⟩ : ∃ g, g = w4.heap.size := ⟨_, rfl⟩
    rw [← hg7] at HG0 ⊢
    have HNE : Hid (¬ b = g7) := Lib.hid (by have := HD4.out.lt; omega)
    have HN7 : Hid (g2 ≠ g7 ∧ w.heap.size ≤ g7) := Lib.hid (by have h1 := HG6.out.lt; have h2 := HK4.out.size; have h3 := HK3.out.size; have h4 := HK2.out.size; omega)
    have HD0 := Lib.hid (HD4.out.kp HKY.out (fun x => x))
    have HSH : Hid (sha bs = (shaRun shaIV (shaPad bs) ((shaPad bs).length / 64)).bytes) := Lib.hid rfl
    generalize shaRun shaIV (shaPad bs) ((shaPad bs).length / 64) = S at HD0 HSH
    generalize (shaPad bs).length = tl at HD0
    have HQ0 : Hid (Kp (fun i => i = g7) y0 y0) := Lib.hid (Kp.refl _ _)
    have HGR := Lib.hid ((HG6.out.kp HK4.out (fun e => by have := HGN.out; omega)).kp HKY.out (fun x => x))
    have HKW : Hid (Kp (fun i => i = b) w y0) := Lib.hid ((((HK2.out.mono (T := fun i => i = b) (fun _ _ x => x.elim)).trans' HK3.out (fun i hi e => by have := HGN.out; omega)).trans HK4.out).trans' HKY.out (fun _ _ x => x.elim))
    clear hw5 hg7 z72 HD4 HWR HBY HG5 HG6 HB HG2 HG4 HD3 HKT3 HK2 HK3 HK4 HKY q2' q2
    have hsz : (S.bytes.map u8v).toArray.size = 32 := by simp [St.bytes_length]
    have hi : (Tryd.prog.info? 122).map (·.size) = some (S.bytes.map u8v).toArray.size := by rw [hsz]; kernel_rfl
    have HI := Lib.hid hi
    have HSZ := Lib.hid hsz
    clear hi hsz
    have z0 := HD0.out.word 0 (by decide)
    have q0 := xs32 w 0 (by decide)
    go_still_tail 6, (by kernel_rfl)
    change wpList _ _ _ _ _ y0.drew
    have HP0 := Lib.hid (be32_any g7 0 (32 - 0) (32 - 0) 122 (List.replicate 32 0) S.a y0.drew HG0.out.drew (by decide) (by simp [put32]) (by decide))
    go_wp2_with (go_at_call 155; refine HP0.out.mono ?_; rintro e y1 ⟨rfl, hg, hk⟩; have HG1 := Lib.hid hg; have HK1 := Lib.hid hk; clear hg hk)
    have HD1 := Lib.hid (HD0.out.drew.kp HK1.out HNE.out)
    have HQ1 := Lib.hid (HQ0.out.drew.trans HK1.out)
    clear HP0 HG0 HD0 HQ0 HK1
    have z1 := HD1.out.word 1 (by decide)
    have q1 := xs32 w 4 (by decide)
    clear z0 q0
    go_still_tail 6, (by kernel_rfl)
    change wpList _ _ _ _ _ y1.drew
    have HP1 := Lib.hid (be32_any g7 4 (32 - 4) (32 - 4) 122 (put32 (List.replicate 32 0) 0 S.a) S.b y1.drew HG1.out.drew (by decide) (by simp [put32]) (by decide))
    go_wp2_with (go_at_call 155; refine HP1.out.mono ?_; rintro e y2 ⟨rfl, hg, hk⟩; have HG2 := Lib.hid hg; have HK2 := Lib.hid hk; clear hg hk)
    have HD2 := Lib.hid (HD1.out.drew.kp HK2.out HNE.out)
    have HQ2 := Lib.hid (HQ1.out.drew.trans HK2.out)
    clear HP1 HG1 HD1 HQ1 HK2
    have z2 := HD2.out.word 2 (by decide)
    have q2 := xs32 w 8 (by decide)
    clear z1 q1
    go_still_tail 6, (by kernel_rfl)
    change wpList _ _ _ _ _ y2.drew
    have HP2 := Lib.hid (be32_any g7 8 (32 - 8) (32 - 8) 122 (put32 (put32 (List.replicate 32 0) 0 S.a) 4 S.b) S.c y2.drew HG2.out.drew (by decide) (by simp [put32]) (by decide))
    go_wp2_with (go_at_call 155; refine HP2.out.mono ?_; rintro e y3 ⟨rfl, hg, hk⟩; have HG3 := Lib.hid hg; have HK3 := Lib.hid hk; clear hg hk)
    have HD3 := Lib.hid (HD2.out.drew.kp HK3.out HNE.out)
    have HQ3 := Lib.hid (HQ2.out.drew.trans HK3.out)
    clear HP2 HG2 HD2 HQ2 HK3
    have z3 := HD3.out.word 3 (by decide)
    have q3 := xs32 w 12 (by decide)
    clear z2 q2
    go_still_tail 6, (by kernel_rfl)
    change wpList _ _ _ _ _ y3.drew
    have HP3 := Lib.hid (be32_any g7 12 (32 - 12) (32 - 12) 122 (put32 (put32 (put32 (List.replicate 32 0) 0 S.a) 4 S.b) 8 S.c) S.d y3.drew HG3.out.drew (by decide) (by simp [put32]) (by decide))
    go_wp2_with (go_at_call 155; refine HP3.out.mono ?_; rintro e y4 ⟨rfl, hg, hk⟩; have HG4 := Lib.hid hg; have HK4 := Lib.hid hk; clear hg hk)
    have HD4 := Lib.hid (HD3.out.drew.kp HK4.out HNE.out)
    have HQ4 := Lib.hid (HQ3.out.drew.trans HK4.out)
    clear HP3 HG3 HD3 HQ3 HK4
    have z4 := HD4.out.word 4 (by decide)
    have q4 := xs32 w 16 (by decide)
    clear z3 q3
    go_still_tail 6, (by kernel_rfl)
    change wpList _ _ _ _ _ y4.drew
    have HP4 := Lib.hid (be32_any g7 16 (32 - 16) (32 - 16) 122 (put32 (put32 (put32 (put32 (List.replicate 32 0) 0 S.a) 4 S.b) 8 S.c) 12 S.d) S.e y4.drew HG4.out.drew (by decide) (by simp [put32]) (by decide))
    go_wp2_with (go_at_call 155; refine HP4.out.mono ?_; rintro e y5 ⟨rfl, hg, hk⟩; have HG5 := Lib.hid hg; have HK5 := Lib.hid hk; clear hg hk)
    have HD5 := Lib.hid (HD4.out.drew.kp HK5.out HNE.out)
    have HQ5 := Lib.hid (HQ4.out.drew.trans HK5.out)
    clear HP4 HG4 HD4 HQ4 HK5
    have z5 := HD5.out.word 5 (by decide)
    have q5 := xs32 w 20 (by decide)
    clear z4 q4
    go_still_tail 6, (by kernel_rfl)
    change wpList _ _ _ _ _ y5.drew
    have HP5 := Lib.hid (be32_any g7 20 (32 - 20) (32 - 20) 122 (put32 (put32 (put32 (put32 (put32 (List.replicate 32 0) 0 S.a) 4 S.b) 8 S.c) 12 S.d) 16 S.e) S.f y5.drew HG5.out.drew (by decide) (by simp [put32]) (by decide))
    go_wp2_with (go_at_call 155; refine HP5.out.mono ?_; rintro e y6 ⟨rfl, hg, hk⟩; have HG6 := Lib.hid hg; have HK6 := Lib.hid hk; clear hg hk)
    have HD6 := Lib.hid (HD5.out.drew.kp HK6.out HNE.out)
    have HQ6 := Lib.hid (HQ5.out.drew.trans HK6.out)
    clear HP5 HG5 HD5 HQ5 HK6
    have z6 := HD6.out.word 6 (by decide)
    have q6 := xs32 w 24 (by decide)
    clear z5 q5
    go_still_tail 6, (by kernel_rfl)
    change wpList _ _ _ _ _ y6.drew
    have HP6 := Lib.hid (be32_any g7 24 (32 - 24) (32 - 24) 122 (put32 (put32 (put32 (put32 (put32 (put32 (List.replicate 32 0) 0 S.a) 4 S.b) 8 S.c) 12 S.d) 16 S.e) 20 S.f) S.g y6.drew HG6.out.drew (by decide) (by simp [put32]) (by decide))
    go_wp2_with (go_at_call 155; refine HP6.out.mono ?_; rintro e y7 ⟨rfl, hg, hk⟩; have HG7 := Lib.hid hg; have HK7 := Lib.hid hk; clear hg hk; have z74 := (HD6.out.drew.kp HK7.out HNE.out).tail.2.2)
    have HD7 := Lib.hid (HD6.out.drew.kp HK7.out HNE.out)
    have HQ7 := Lib.hid (HQ6.out.drew.trans HK7.out)
    clear HP6 HG6 HD6 HQ6 HK7
    have z7 := HD7.out.word 7 (by decide)
    have q7 := xs32 w 28 (by decide)
    clear z6 q6
    go_still_tail 6, (by kernel_rfl)
    change wpList _ _ _ _ _ y7.drew
    have HP7 := Lib.hid (be32_any g7 28 (32 - 28) (32 - 28) 122 (put32 (put32 (put32 (put32 (put32 (put32 (put32 (List.replicate 32 0) 0 S.a) 4 S.b) 8 S.c) 12 S.d) 16 S.e) 20 S.f) 24 S.g) S.h y7.drew HG7.out.drew (by decide) (by simp [put32]) (by decide))
    go_wp2_with (first
      | (go_at_call 155
         refine HP7.out.mono ?_
         rintro e y8 ⟨rfl, hg, hk⟩
         rw [St.bytes_puts] at hg
         have HG8 := Lib.hid hg
         have HK8 := Lib.hid hk
         have HD8 := Lib.hid (HD7.out.drew.kp HK8.out HNE.out)
         have HQ8 := Lib.hid (HQ7.out.drew.trans HK8.out)
         have HG9 := Lib.hid (HGR.out.kp HQ8.out (fun e => HN7.out.1 e))
         clear hg hk HP7 HG7 HD7 HQ7)
      | (refine wpList_load_row rfl 122 _ rfl g7 rfl 122 _ (0, 0) _ HG8.out Tryd.underlying122 rfl HI.out ?_)
      | (refine wpList_store_row rfl 122 _ _ rfl g2 (S.bytes.map u8v).toArray rfl rfl 122 _ HG9.out HI.out (by rw [HSZ.out]; simp) (all_one _) ?_))
    rw [HSH.out]
    exact bodyPost_ret (v := .agg (S.bytes.map u8v).toArray) (results_cell_row Tryd.results138 _ _ g2 122 _ (0, 0) _ rfl (setRow_heap _ g2 _ _ _ _ HG9.out) Tryd.underlying122 rfl HI.out) rfl ⟨rfl,
      ⟨_, _, _, _, (HD8.out.kp (S := fun i => i = g2) ⟨rfl, rfl, rfl, by simp, fun i hi hne => setRow_other _ g2 i _ hne⟩ (fun e => by have := HGN.out; omega))⟩,
      (HKW.out.trans' HQ8.out (fun i hi e => by have := HN7.out; omega)).trans' (T := fun i => i = g2) ⟨rfl, rfl, rfl, by simp, fun i hi hne => setRow_other _ g2 i _ hne⟩ (fun i hi e => by have := HGN.out; omega)⟩
  case inr =>
    have ft : (120 : Int) - (r : Int) = (t : Int) := by omega
    have hr56i : (56 : Int) ≤ (r : Int) := by omega
    clear htr
    go_enter Tryd.func138, Tryd.ntmps138
    go_upto_region 10 with fail
    generalize hw2 : World.alloc _ _ = w2
    have HK2 : Hid (Keep w w2) := Lib.hid (by rw [← hw2]; exact ((Kp.refl _ _).alloc _).alloc _)
    have HG2 : Hid (ArrB w2 w.heap.size 122 (List.replicate 32 0)) := Lib.hid (by rw [← hw2]; exact heap_alloc2_old _ _ _)
    have HG4 : Hid (ArrB w2 (w.heap.size + 1) 207 (128 :: List.replicate 71 0)) := Lib.hid (by rw [← hw2]; exact heap_alloc2_new _ _ _)
    obtain ⟨g4, hg4⟩ : ∃ g, g = w.heap.size + 1 := ⟨_, rfl⟩
    obtain ⟨g2, hg2⟩ : ∃ g, g = w.heap.size := ⟨_, rfl⟩
    rw [← hg4] at HG4 ⊢
    rw [← hg2] at HG2 ⊢
    have HGN : Hid (b < g2 ∧ g2 < g4 ∧ w.heap.size ≤ g2) := Lib.hid (by omega)
    have q2' := q2 g4
    have HB := Lib.hid (be64_any g4 t 8 (72 - t) N 207 (128 :: List.replicate 71 0) w2 HG4.out (by omega) (by simp; omega) (by omega) (by omega))
    clear hw2 hg4 hg2 c73 q1 hbw
    go_wp2_with (go_at_call 154; refine HB.out.mono ?_; rintro e w3 ⟨rfl, hg, hk⟩; have HG5 := Lib.hid hg; have HK3 := Lib.hid hk; clear hg hk)
    have HD3 := Lib.hid ((HD.out.kp HK2.out (fun x => x)).kp HK3.out (fun e => by have := HGN.out; omega))
    have HKT3 := Lib.hid ((HKT.out.keep HK2.out (fun x => x)).keep HK3.out (fun e => by have := HGN.out; have h1 := World.block_lt_of_cell? w _ (HKT.out 0 (by decide)); simp at h1; omega))
    have HBY : Hid (Bys w3 b (.slice (some ⟨g4, 0, none⟩) (t + 8) 72) (shaPadding len)) := Lib.hid (by
      have h1 := HG5.out.bys (b := b) (by have := HGN.out; omega) (t + 8) 72 (by rw [put64_length]; simp; omega) (by omega) (by simp [maxLen])
      rwa [pad_bytes len t HTT.out N HN.out] at h1)
    have HG6 := Lib.hid (HG2.out.kp HK3.out (fun e => by have := HGN.out; omega))
    have HWR := Lib.hid (write_any bs (shaPadding len) b _ w3 HD3.out HBY.out HKT3.out (by have h1 := HL.out; have h2 := shaZeros_le len; simp [shaPadding, be64]; omega))
    go_wp2_with (go_at_call 113; refine HWR.out.mono ?_; rintro e w4 ⟨rfl, hd, hk⟩; rw [HL.out] at hd; obtain ⟨x4, hd4, hx4⟩ := hd; have HD4 : Hid (DgL w4 b (shaRun shaIV (shaPad bs) ((shaPad bs).length / 64)).list x4 ((shaPad bs).length % 64) (shaPad bs).length) := Lib.hid hd4; rw [shaPad_mod] at HD4; have HK4 := Lib.hid hk; have z72 : w4.cell? ⟨b, 72, none⟩ = some (.int .i64 0) := HD4.out.tail.1; clear hd4 hx4 hk)
    generalize hw5 : World.alloc _ _ = y0
    have HKY : Hid (Keep w4 y0) := Lib.hid (by rw [← hw5]; exact (Kp.refl _ _).alloc _)
    have HG0 : Hid (ArrB y0 w4.heap.size 122 (List.replicate 32 0)) := Lib.hid (by rw [← hw5]; exact heap_alloc_new _ _)
    obtain ⟨g7, hg7⟩ : ∃ g, g = w4.heap.size := ⟨_, rfl⟩
    rw [← hg7] at HG0 ⊢
    have HNE : Hid (¬ b = g7) := Lib.hid (by have := HD4.out.lt; omega)
    have HN7 : Hid (g2 ≠ g7 ∧ w.heap.size ≤ g7) := Lib.hid (by have h1 := HG6.out.lt; have h2 := HK4.out.size; have h3 := HK3.out.size; have h4 := HK2.out.size; omega)
    have HD0 := Lib.hid (HD4.out.kp HKY.out (fun x => x))
    have HSH : Hid (sha bs = (shaRun shaIV (shaPad bs) ((shaPad bs).length / 64)).bytes) := Lib.hid rfl
    generalize shaRun shaIV (shaPad bs) ((shaPad bs).length / 64) = S at HD0 HSH
    generalize (shaPad bs).length = tl at HD0
    have HQ0 : Hid (Kp (fun i => i = g7) y0 y0) := Lib.hid (Kp.refl _ _)
    have HGR := Lib.hid ((HG6.out.kp HK4.out (fun e => by have := HGN.out; omega)).kp HKY.out (fun x => x))
    have HKW : Hid (Kp (fun i => i = b) w y0) := Lib.hid ((((HK2.out.mono (T := fun i => i = b) (fun _ _ x => x.elim)).trans' HK3.out (fun i hi e => by have := HGN.out; omega)).trans HK4.out).trans' HKY.out (fun _ _ x => x.elim))
    clear hw5 hg7 z72 HD4 HWR HBY HG5 HG6 HB HG2 HG4 HD3 HKT3 HK2 HK3 HK4 HKY q2' q2
    have hsz : (S.bytes.map u8v).toArray.size = 32 := by simp [St.bytes_length]
    have hi : (Tryd.prog.info? 122).map (·.size) = some (S.bytes.map u8v).toArray.size := by rw [hsz]; kernel_rfl
    have HI := Lib.hid hi
    have HSZ := Lib.hid hsz
    clear hi hsz
    have z0 := HD0.out.word 0 (by decide)
    have q0 := xs32 w 0 (by decide)
    go_still_tail 6, (by kernel_rfl)
    change wpList _ _ _ _ _ y0.drew
    have HP0 := Lib.hid (be32_any g7 0 (32 - 0) (32 - 0) 122 (List.replicate 32 0) S.a y0.drew HG0.out.drew (by decide) (by simp [put32]) (by decide))
    go_wp2_with (go_at_call 155; refine HP0.out.mono ?_; rintro e y1 ⟨rfl, hg, hk⟩; have HG1 := Lib.hid hg; have HK1 := Lib.hid hk; clear hg hk)
    have HD1 := Lib.hid (HD0.out.drew.kp HK1.out HNE.out)
    have HQ1 := Lib.hid (HQ0.out.drew.trans HK1.out)
    clear HP0 HG0 HD0 HQ0 HK1
    have z1 := HD1.out.word 1 (by decide)
    have q1 := xs32 w 4 (by decide)
    clear z0 q0
    go_still_tail 6, (by kernel_rfl)
    change wpList _ _ _ _ _ y1.drew
    have HP1 := Lib.hid (be32_any g7 4 (32 - 4) (32 - 4) 122 (put32 (List.replicate 32 0) 0 S.a) S.b y1.drew HG1.out.drew (by decide) (by simp [put32]) (by decide))
    go_wp2_with (go_at_call 155; refine HP1.out.mono ?_; rintro e y2 ⟨rfl, hg, hk⟩; have HG2 := Lib.hid hg; have HK2 := Lib.hid hk; clear hg hk)
    have HD2 := Lib.hid (HD1.out.drew.kp HK2.out HNE.out)
    have HQ2 := Lib.hid (HQ1.out.drew.trans HK2.out)
    clear HP1 HG1 HD1 HQ1 HK2
    have z2 := HD2.out.word 2 (by decide)
    have q2 := xs32 w 8 (by decide)
    clear z1 q1
    go_still_tail 6, (by kernel_rfl)
    change wpList _ _ _ _ _ y2.drew
    have HP2 := Lib.hid (be32_any g7 8 (32 - 8) (32 - 8) 122 (put32 (put32 (List.replicate 32 0) 0 S.a) 4 S.b) S.c y2.drew HG2.out.drew (by decide) (by simp [put32]) (by decide))
    go_wp2_with (go_at_call 155; refine HP2.out.mono ?_; rintro e y3 ⟨rfl, hg, hk⟩; have HG3 := Lib.hid hg; have HK3 := Lib.hid hk; clear hg hk)
    have HD3 := Lib.hid (HD2.out.drew.kp HK3.out HNE.out)
    have HQ3 := Lib.hid (HQ2.out.drew.trans HK3.out)
    clear HP2 HG2 HD2 HQ2 HK3
    have z3 := HD3.out.word 3 (by decide)
    have q3 := xs32 w 12 (by decide)
    clear z2 q2
    go_still_tail 6, (by kernel_rfl)
    change wpList _ _ _ _ _ y3.drew
    have HP3 := Lib.hid (be32_any g7 12 (32 - 12) (32 - 12) 122 (put32 (put32 (put32 (List.replicate 32 0) 0 S.a) 4 S.b) 8 S.c) S.d y3.drew HG3.out.drew (by decide) (by simp [put32]) (by decide))
    go_wp2_with (go_at_call 155; refine HP3.out.mono ?_; rintro e y4 ⟨rfl, hg, hk⟩; have HG4 := Lib.hid hg; have HK4 := Lib.hid hk; clear hg hk)
    have HD4 := Lib.hid (HD3.out.drew.kp HK4.out HNE.out)
    have HQ4 := Lib.hid (HQ3.out.drew.trans HK4.out)
    clear HP3 HG3 HD3 HQ3 HK4
    have z4 := HD4.out.word 4 (by decide)
    have q4 := xs32 w 16 (by decide)
    clear z3 q3
    go_still_tail 6, (by kernel_rfl)
    change wpList _ _ _ _ _ y4.drew
    have HP4 := Lib.hid (be32_any g7 16 (32 - 16) (32 - 16) 122 (put32 (put32 (put32 (put32 (List.replicate 32 0) 0 S.a) 4 S.b) 8 S.c) 12 S.d) S.e y4.drew HG4.out.drew (by decide) (by simp [put32]) (by decide))
    go_wp2_with (go_at_call 155; refine HP4.out.mono ?_; rintro e y5 ⟨rfl, hg, hk⟩; have HG5 := Lib.hid hg; have HK5 := Lib.hid hk; clear hg hk)
    have HD5 := Lib.hid (HD4.out.drew.kp HK5.out HNE.out)
    have HQ5 := Lib.hid (HQ4.out.drew.trans HK5.out)
    clear HP4 HG4 HD4 HQ4 HK5
    have z5 := HD5.out.word 5 (by decide)
    have q5 := xs32 w 20 (by decide)
    clear z4 q4
    go_still_tail 6, (by kernel_rfl)
    change wpList _ _ _ _ _ y5.drew
    have HP5 := Lib.hid (be32_any g7 20 (32 - 20) (32 - 20) 122 (put32 (put32 (put32 (put32 (put32 (List.replicate 32 0) 0 S.a) 4 S.b) 8 S.c) 12 S.d) 16 S.e) S.f y5.drew HG5.out.drew (by decide) (by simp [put32]) (by decide))
    go_wp2_with (go_at_call 155; refine HP5.out.mono ?_; rintro e y6 ⟨rfl, hg, hk⟩; have HG6 := Lib.hid hg; have HK6 := Lib.hid hk; clear hg hk)
    have HD6 := Lib.hid (HD5.out.drew.kp HK6.out HNE.out)
    have HQ6 := Lib.hid (HQ5.out.drew.trans HK6.out)
    clear HP5 HG5 HD5 HQ5 HK6
    have z6 := HD6.out.word 6 (by decide)
    have q6 := xs32 w 24 (by decide)
    clear z5 q5
    go_still_tail 6, (by kernel_rfl)
    change wpList _ _ _ _ _ y6.drew
    have HP6 := Lib.hid (be32_any g7 24 (32 - 24) (32 - 24) 122 (put32 (put32 (put32 (put32 (put32 (put32 (List.replicate 32 0) 0 S.a) 4 S.b) 8 S.c) 12 S.d) 16 S.e) 20 S.f) S.g y6.drew HG6.out.drew (by decide) (by simp [put32]) (by decide))
    go_wp2_with (go_at_call 155; refine HP6.out.mono ?_; rintro e y7 ⟨rfl, hg, hk⟩; have HG7 := Lib.hid hg; have HK7 := Lib.hid hk; clear hg hk; have z74 := (HD6.out.drew.kp HK7.out HNE.out).tail.2.2)
    have HD7 := Lib.hid (HD6.out.drew.kp HK7.out HNE.out)
    have HQ7 := Lib.hid (HQ6.out.drew.trans HK7.out)
    clear HP6 HG6 HD6 HQ6 HK7
    have z7 := HD7.out.word 7 (by decide)
    have q7 := xs32 w 28 (by decide)
    clear z6 q6
    go_still_tail 6, (by kernel_rfl)
    change wpList _ _ _ _ _ y7.drew
    have HP7 := Lib.hid (be32_any g7 28 (32 - 28) (32 - 28) 122 (put32 (put32 (put32 (put32 (put32 (put32 (put32 (List.replicate 32 0) 0 S.a) 4 S.b) 8 S.c) 12 S.d) 16 S.e) 20 S.f) 24 S.g) S.h y7.drew HG7.out.drew (by decide) (by simp [put32]) (by decide))
    go_wp2_with (first
      | (go_at_call 155
         refine HP7.out.mono ?_
         rintro e y8 ⟨rfl, hg, hk⟩
         rw [St.bytes_puts] at hg
         have HG8 := Lib.hid hg
         have HK8 := Lib.hid hk
         have HD8 := Lib.hid (HD7.out.drew.kp HK8.out HNE.out)
         have HQ8 := Lib.hid (HQ7.out.drew.trans HK8.out)
         have HG9 := Lib.hid (HGR.out.kp HQ8.out (fun e => HN7.out.1 e))
         clear hg hk HP7 HG7 HD7 HQ7)
      | (refine wpList_load_row rfl 122 _ rfl g7 rfl 122 _ (0, 0) _ HG8.out Tryd.underlying122 rfl HI.out ?_)
      | (refine wpList_store_row rfl 122 _ _ rfl g2 (S.bytes.map u8v).toArray rfl rfl 122 _ HG9.out HI.out (by rw [HSZ.out]; simp) (all_one _) ?_))
    rw [HSH.out]
    exact bodyPost_ret (v := .agg (S.bytes.map u8v).toArray) (results_cell_row Tryd.results138 _ _ g2 122 _ (0, 0) _ rfl (setRow_heap _ g2 _ _ _ _ HG9.out) Tryd.underlying122 rfl HI.out) rfl ⟨rfl,
      ⟨_, _, _, _, (HD8.out.kp (S := fun i => i = g2) ⟨rfl, rfl, rfl, by simp, fun i hi hne => setRow_other _ g2 i _ hne⟩ (fun e => by have := HGN.out; omega))⟩,
      (HKW.out.trans' HQ8.out (fun i hi e => by have := HN7.out; omega)).trans' (T := fun i => i = g2) ⟨rfl, rfl, rfl, by simp, fun i hi hne => setRow_other _ g2 i _ hne⟩ (fun i hi e => by have := HGN.out; omega)⟩

end Go.Proofs.YtfodkjpjejoemaaDoor
