
/-
  The digest's sum: checkSum, Sum.
  Conditions: the digest has taken so many bytes, at most 2^32; the table _K holds the rounds' words.
-/
import Derived.Test.YtfodkjpjejoemaaGreatDoorZd
import Derived.Deep.RegionHeld3
import Derived.Deep.DrawnRows
namespace Go.Proofs.YtfodkjpjejoemaaGreatDoor
open Go Go.RowKit
attribute [local go_sem ↓] Go.wp_at_zero Go.wp_at_succ

theorem ArrB.drew {w : World} {g : Nat} {t : TypeId} {L : List UInt8} (h : ArrB w g t L) : ArrB w.drew g t L := h
theorem ArrB.byts {w : World} {g : Nat} {t : TypeId} {L : List UInt8} (h : ArrB w g t L) (n c : Nat) (hn : n ≤ L.length) (hc : n ≤ c) (hm : c ≤ maxLen) : Byts w (.slice (some ⟨g, 0, none⟩) n c) (L.take n) := by
  have hl : (L.take n).length = n := by rw [List.length_take]; omega
  refine ⟨some ⟨g, 0, none⟩, c, by rw [hl], by omega, hm, (fun e => by cases e), fun _ => ⟨g, 0, rfl, fun i hi => ⟨_, by rw [Nat.zero_add]; exact h.cell i (by omega), ?_⟩⟩⟩
  unfold U8
  have hi' : i < L.length := by omega
  simp [List.getD, hi']
theorem ArrB.bys {w : World} {g b : Nat} {t : TypeId} {L : List UInt8} (h : ArrB w g t L) (hne : g ≠ b) (n c : Nat) (hn : n ≤ L.length) (hc : n ≤ c) (hm : c ≤ maxLen) : Bys w b (.slice (some ⟨g, 0, none⟩) n c) (L.take n) :=
  fun _ k => (h.kp k hne).byts n c hn hc hm

theorem put64_eq (L : List UInt8) (o N : Nat) : ∀ k, k ≤ 8 → o + 8 ≤ L.length → put64 L o N k = L.take o ++ ((be64 N).take k ++ L.drop (o + k)) := by
  intro k
  induction k with
  | zero => intro _ _; simp [put64]
  | succ k ih =>
    intro hk ho
    have h1 : (L.take o).length = o := by rw [List.length_take]; omega
    have h2 : ((be64 N).take k).length = k := by rw [List.length_take]; simp [be64]; omega
    rw [put64, ih (by omega) ho, be64_take N k (by omega), List.set_append_right _ _ (by omega), h1, show o + k - o = k by omega, List.set_append_right _ _ (by omega), h2, Nat.sub_self,
      List.drop_eq_getElem_cons (show o + k < L.length by omega), List.set_cons_zero]
    simp [Nat.add_assoc]
theorem pad_bytes (len t : Nat) (ht : t = shaZeros len + 1) (N : Nat) (hN : N = 8 * len) : (put64 (128 :: List.replicate 71 0) t N 8).take (t + 8) = shaPadding len := by
  have hz := shaZeros_le len
  have hl8 : (be64 N).length = 8 := by simp [be64]
  rw [put64_eq _ _ _ 8 (by omega) (by simp; omega), be64_all]
  have e1 : (128 :: List.replicate 71 (0 : UInt8)).take t = 128 :: List.replicate (shaZeros len) 0 := by
    rw [ht, List.take_succ_cons, List.take_replicate, Nat.min_eq_left (by omega)]
  have h1 : (128 :: List.replicate (shaZeros len) (0 : UInt8)).length = t := by simp; omega
  rw [e1, List.take_append, h1, List.take_of_length_le (by omega), show t + 8 - t = 8 by omega, List.take_append_of_le_length (by omega), List.take_of_length_le (by omega), hN]
  rfl

theorem xs32 (_ : World) (k : Nat) (hk : k < 32) : ∀ (b : Nat) (w : World), (Instr.sliceAt 161 (.pointer (some ⟨b, 0, none⟩)) (some (.int .i64 (k : Int))) none none).run Tryz.prog w = .ok (.slice (some ⟨b, k, none⟩) (32 - k) (32 - k)) w := by
  intro b w
  have hl : Tryz.prog.arrayLen 161 = 32 := by kernel_rfl
  have he : Tryz.prog.elem 161 = 5 := by kernel_rfl
  rw [run_sliceAt_array_l (P := Tryz.prog) w 161 _ (by rw [hl, he]; exact Tryz.underlying161) .i64 _ (by omega) (by rw [hl]; omega), hl, he, sz1]
  simp only [Result.andThen, slicedAt, Int.toNat_natCast, Nat.mul_one]
  rw [if_neg (by omega)]
  unfold Addr.add
  split <;> simp_all
theorem xs72_to (t : Nat) (ht : t + 8 ≤ 72) : ∀ (b : Nat) (w : World), (Instr.sliceAt 189 (.pointer (some ⟨b, 0, none⟩)) none (some (.int .u64 ((t : Int) + 8))) none).run Tryz.prog w = .ok (.slice (some ⟨b, 0, none⟩) (t + 8) 72) w := by
  intro b w
  have hl : Tryz.prog.arrayLen 189 = 72 := by kernel_rfl
  have he : Tryz.prog.elem 189 = 5 := by kernel_rfl
  rw [run_sliceAt_array_h (P := Tryz.prog) w 189 _ (by rw [hl, he]; exact Tryz.underlying189) .u64 _ (by omega) (by rw [hl]; omega), hl, he, sz1]
  simp [Result.andThen, slicedAt, Addr.add]
  omega
theorem xs22_from (t : Nat) (ht : t + 8 ≤ 72) : ∀ (b : Nat) (w : World), (Instr.slice 24 (.slice (some ⟨b, 0, none⟩) (t + 8) 72) (some (.int .u64 (t : Int))) none none).run Tryz.prog w = .ok (.slice (some ⟨b, t, none⟩) 8 (72 - t)) w := by
  intro b w
  have hu : Tryz.prog.underlying 24 = some (.slice (Tryz.prog.elem 24)) := by kernel_rfl
  have he : Tryz.prog.elem 24 = 5 := by kernel_rfl
  rw [run_slice_l (P := Tryz.prog) w 24 _ _ _ hu .u64 _ (by omega) (by omega), he, sz1]
  simp only [Result.andThen, sliced, Int.toNat_natCast, Nat.mul_one]
  rw [if_neg (by omega), show t + 8 - t = 8 by omega]
  simp only [Option.map_some]
  unfold Addr.add
  split <;> simp_all
theorem St.bytes_puts (S : St) : put32 (put32 (put32 (put32 (put32 (put32 (put32 (put32 (List.replicate 32 0) 0 S.a) 4 S.b) 8 S.c) 12 S.d) 16 S.e) 20 S.f) 24 S.g) 28 S.h = S.bytes := by
  simp only [put32, List.replicate, List.set, St.bytes, St.list, be32, List.flatMap_cons, List.flatMap_nil, List.cons_append, List.nil_append]
theorem all_one (L : List UInt8) : (L.map u8v).toArray.all (·.oneCell') = true := by
  rw [List.all_toArray]; simp [Value.oneCell']
theorem shaPad_mod (bs : List UInt8) : (shaPad bs).length % 64 = 0 := by
  unfold shaPad; rw [List.length_append]; exact shaPadding_length _

set_option maxRecDepth 100000 in
set_option maxHeartbeats 8000000 in
theorem checkSum_any (bs : List UInt8) (b : Nat) (w : World) (d : Dg w b bs) (hK : KTab w) (hl : bs.length ≤ 4294967000) :
    Calls Tryz.prog 92 #[.pointer (some ⟨b, 0, none⟩)] w fun e w' => e = .returned (.agg ((sha bs).map u8v).toArray) ∧ (∃ h x nx len, DgL w' b h x nx len) ∧ Kp (fun i => i = b) w w' := by
  have HD := Lib.hid d
  have HKT := Lib.hid hK
  obtain ⟨x, d, hx⟩ := d
  obtain ⟨c72, c73, c74⟩ := d.tail
  have hbw := d.lt
  obtain ⟨len, hlen⟩ : ∃ n, n = bs.length := ⟨_, rfl⟩
  rw [← hlen] at c73
  have HL := Lib.hid hlen
  have hl2 : len ≤ 4294967000 := by omega
  obtain ⟨t, ht⟩ : ∃ t, t = shaZeros len + 1 := ⟨_, rfl⟩
  obtain ⟨r, hr⟩ : ∃ r, r = len % 64 := ⟨_, rfl⟩
  obtain ⟨N, hN⟩ : ∃ N, N = 8 * len := ⟨_, rfl⟩
  have HTT := Lib.hid ht
  have HN := Lib.hid hN
  have htz := shaZeros_le len
  have ht64 : t ≤ 64 := by omega
  have ht1 : 1 ≤ t := by omega
  have fr : (len : Int) % 64 = (r : Int) := by omega
  have fN : (len : Int) * 8 = (N : Int) := by omega
  have hr64 : (r : Int) < 64 := by omega
  have hN2 : N ≤ 34359738368 := by omega
  have q1 := xs72_to t (by omega)
  have q2 := xs22_from t (by omega)
  have hcase : (r < 56 ∧ t + r = 56) ∨ (56 ≤ r ∧ t + r = 120) := by unfold shaZeros at ht; omega
  clear ht hN htz hlen d hx hl c72 c74 hr hK
  rcases hcase with ⟨hr56, htr⟩ | ⟨hr56, htr⟩
  case inl =>
    have ft : (56 : Int) - (r : Int) = (t : Int) := by omega
    have hr56i : (r : Int) < 56 := by omega
    clear htr
    go_enter Tryz.func92, Tryz.ntmps92
    go_upto_region 10 with fail
    generalize hw2 : World.alloc _ _ = w2
    have HK2 : Hid (Keep w w2) := Lib.hid (by rw [← hw2]; exact ((Kp.refl _ _).alloc _).alloc _)
    have HG2 : Hid (ArrB w2 w.heap.size 161 (List.replicate 32 0)) := Lib.hid (by rw [← hw2]; exact heap_alloc2_old _ _ _)
    have HG4 : Hid (ArrB w2 (w.heap.size + 1) 189 (128 :: List.replicate 71 0)) := Lib.hid (by rw [← hw2]; exact heap_alloc2_new _ _ _)
    obtain ⟨g4, hg4⟩ : ∃ g, g = w.heap.size + 1 := ⟨_, rfl⟩
    obtain ⟨g2, hg2⟩ : ∃ g, g = w.heap.size := ⟨_, rfl⟩
    rw [← hg4] at HG4 ⊢
    rw [← hg2] at HG2 ⊢
    have HGN : Hid (b < g2 ∧ g2 < g4 ∧ w.heap.size ≤ g2) := Lib.hid (by omega)
    have q2' := q2 g4
    have HB := Lib.hid (be64_any g4 t 8 (72 - t) N 189 (128 :: List.replicate 71 0) w2 HG4.out (by omega) (by simp; omega) (by omega) (by omega))
    clear hw2 hg4 hg2 c73 q1 hbw
    go_wp2_with (go_at_call 99; refine HB.out.mono ?_; rintro e w3 ⟨rfl, hg, hk⟩; have HG5 := Lib.hid hg; have HK3 := Lib.hid hk; clear hg hk)
    have HD3 := Lib.hid ((HD.out.kp HK2.out (fun x => x)).kp HK3.out (fun e => by have := HGN.out; omega))
    have HKT3 := Lib.hid ((HKT.out.keep HK2.out (fun x => x)).keep HK3.out (fun e => by have := HGN.out; have h1 := World.block_lt_of_cell? w _ (HKT.out 0 (by decide)); simp at h1; omega))
    have HBY : Hid (Bys w3 b (.slice (some ⟨g4, 0, none⟩) (t + 8) 72) (shaPadding len)) := Lib.hid (by
      have h1 := HG5.out.bys (b := b) (by have := HGN.out; omega) (t + 8) 72 (by rw [put64_length]; simp; omega) (by omega) (by simp [maxLen])
      rwa [pad_bytes len t HTT.out N HN.out] at h1)
    have HG6 := Lib.hid (HG2.out.kp HK3.out (fun e => by have := HGN.out; omega))
    have HWR := Lib.hid (write_any bs (shaPadding len) b _ w3 HD3.out HBY.out HKT3.out (by have h1 := HL.out; have h2 := shaZeros_le len; simp [shaPadding, be64]; omega))
    go_wp2_with (go_at_call 84; refine HWR.out.mono ?_; rintro e w4 ⟨rfl, hd, hk⟩; rw [HL.out] at hd; obtain ⟨x4, hd4, hx4⟩ := hd; have HD4 : Hid (DgL w4 b (shaRun shaIV (shaPad bs) ((shaPad bs).length / 64)).list x4 ((shaPad bs).length % 64) (shaPad bs).length) := Lib.hid hd4; rw [shaPad_mod] at HD4; have HK4 := Lib.hid hk; have z72 : w4.cell? ⟨b, 72, none⟩ = some (.int .i64 0) := HD4.out.tail.1; clear hd4 hx4 hk)
    generalize hw5 : World.alloc _ _ = y0
    have HKY : Hid (Keep w4 y0) := Lib.hid (by rw [← hw5]; exact (Kp.refl _ _).alloc _)
    have HG0 : Hid (ArrB y0 w4.heap.size 161 (List.replicate 32 0)) := Lib.hid (by rw [← hw5]; exact heap_alloc_new _ _)
    obtain ⟨g7, hg7⟩ : ∃ g, g = w4.heap.size := ⟨_, rfl⟩
    rw [← hg7] at HG0 ⊢
    have HNE : Hid (¬ b = g7) := Lib.hid (by have := HD4.out.lt; omega)
    have HN7 : Hid (g2 ≠ g7 ∧ w.heap.size ≤ g7) := Lib.hid (by have h1 := HG6.out.lt; have h2 := HK4.out.size; have h3 := HK3.out.size; have h4 := HK2.out.size; omega)
    have HD0 := Lib.hid (HD4.out.kp HKY.out (fun x => x))
    have HSH : Hid (sha bs = (shaRun shaIV (shaPad bs) ((shaPad bs).length / 64)).bytes) := Lib.hid rfl
    generalize shaRun shaIV (shaPad bs) ((shaPad bs).length / 64) = S at HD0 HSH
    generalize (shaPad bs).length = tl at HD0
    have HQ0 : Hid (Kp (fun i => i = g7) y0 y0) := Lib.hid (Kp.refl _ _)
    have HGR := Lib.hid ((HG6.out.kp HK4.out (fun e => by have := HGN.out; omega)).kp HKY.out (fun x => x))
    have HKW : Hid (Kp (fun i => i = b) w y0) := Lib.hid ((((HK2.out.mono (T := fun i => i = b) (fun _ _ x => x.elim)).trans' HK3.out (fun i hi e => by have := HGN.out; omega)).trans HK4.out).trans' HKY.out (fun _ _ x => x.elim))
    clear hw5 hg7 z72 HD4 HWR HBY HG5 HG6 HB HG2 HG4 HD3 HKT3 HK2 HK3 HK4 HKY q2' q2
    have hsz : (S.bytes.map u8v).toArray.size = 32 := by simp [St.bytes_length]
    have hi : (Tryz.prog.info? 161).map (·.size) = some (S.bytes.map u8v).toArray.size := by rw [hsz]; kernel_rfl
    have HI := Lib.hid hi
    have HSZ := Lib.hid hsz
    clear hi hsz
    have z0 := HD0.out.word 0 (by decide)
    have q0 := xs32 w 0 (by decide)
    go_still_tail 6, (by kernel_rfl)
    change wpList _ _ _ _ _ y0.drew
    have HP0 := Lib.hid (be32_any g7 0 (32 - 0) (32 - 0) 161 (List.replicate 32 0) S.a y0.drew HG0.out.drew (by decide) (by simp) (by decide))
    go_wp2_with (go_at_call 100; refine HP0.out.mono ?_; rintro e y1 ⟨rfl, hg, hk⟩; have HG1 := Lib.hid hg; have HK1 := Lib.hid hk; clear hg hk)
    have HD1 := Lib.hid (HD0.out.drew.kp HK1.out HNE.out)
    have HQ1 := Lib.hid (HQ0.out.drew.trans HK1.out)
    clear HP0 HG0 HD0 HQ0 HK1
    have z1 := HD1.out.word 1 (by decide)
    have q1 := xs32 w 4 (by decide)
    clear z0 q0
    go_still_tail 6, (by kernel_rfl)
    change wpList _ _ _ _ _ y1.drew
    have HP1 := Lib.hid (be32_any g7 4 (32 - 4) (32 - 4) 161 (put32 (List.replicate 32 0) 0 S.a) S.b y1.drew HG1.out.drew (by decide) (by simp [put32]) (by decide))
    go_wp2_with (go_at_call 100; refine HP1.out.mono ?_; rintro e y2 ⟨rfl, hg, hk⟩; have HG2 := Lib.hid hg; have HK2 := Lib.hid hk; clear hg hk)
    have HD2 := Lib.hid (HD1.out.drew.kp HK2.out HNE.out)
    have HQ2 := Lib.hid (HQ1.out.drew.trans HK2.out)
    clear HP1 HG1 HD1 HQ1 HK2
    have z2 := HD2.out.word 2 (by decide)
    have q2 := xs32 w 8 (by decide)
    clear z1 q1
    go_still_tail 6, (by kernel_rfl)
    change wpList _ _ _ _ _ y2.drew
    have HP2 := Lib.hid (be32_any g7 8 (32 - 8) (32 - 8) 161 (put32 (put32 (List.replicate 32 0) 0 S.a) 4 S.b) S.c y2.drew HG2.out.drew (by decide) (by simp [put32]) (by decide))
    go_wp2_with (go_at_call 100; refine HP2.out.mono ?_; rintro e y3 ⟨rfl, hg, hk⟩; have HG3 := Lib.hid hg; have HK3 := Lib.hid hk; clear hg hk)
    have HD3 := Lib.hid (HD2.out.drew.kp HK3.out HNE.out)
    have HQ3 := Lib.hid (HQ2.out.drew.trans HK3.out)
    clear HP2 HG2 HD2 HQ2 HK3
    have z3 := HD3.out.word 3 (by decide)
    have q3 := xs32 w 12 (by decide)
    clear z2 q2
    go_still_tail 6, (by kernel_rfl)
    change wpList _ _ _ _ _ y3.drew
    have HP3 := Lib.hid (be32_any g7 12 (32 - 12) (32 - 12) 161 (put32 (put32 (put32 (List.replicate 32 0) 0 S.a) 4 S.b) 8 S.c) S.d y3.drew HG3.out.drew (by decide) (by simp [put32]) (by decide))
    go_wp2_with (go_at_call 100; refine HP3.out.mono ?_; rintro e y4 ⟨rfl, hg, hk⟩; have HG4 := Lib.hid hg; have HK4 := Lib.hid hk; clear hg hk)
    have HD4 := Lib.hid (HD3.out.drew.kp HK4.out HNE.out)
    have HQ4 := Lib.hid (HQ3.out.drew.trans HK4.out)
    clear HP3 HG3 HD3 HQ3 HK4
    have z4 := HD4.out.word 4 (by decide)
    have q4 := xs32 w 16 (by decide)
    clear z3 q3
    go_still_tail 6, (by kernel_rfl)
    change wpList _ _ _ _ _ y4.drew
    have HP4 := Lib.hid (be32_any g7 16 (32 - 16) (32 - 16) 161 (put32 (put32 (put32 (put32 (List.replicate 32 0) 0 S.a) 4 S.b) 8 S.c) 12 S.d) S.e y4.drew HG4.out.drew (by decide) (by simp [put32]) (by decide))
    go_wp2_with (go_at_call 100; refine HP4.out.mono ?_; rintro e y5 ⟨rfl, hg, hk⟩; have HG5 := Lib.hid hg; have HK5 := Lib.hid hk; clear hg hk)
    have HD5 := Lib.hid (HD4.out.drew.kp HK5.out HNE.out)
    have HQ5 := Lib.hid (HQ4.out.drew.trans HK5.out)
    clear HP4 HG4 HD4 HQ4 HK5
    have z5 := HD5.out.word 5 (by decide)
    have q5 := xs32 w 20 (by decide)
    clear z4 q4
    go_still_tail 6, (by kernel_rfl)
    change wpList _ _ _ _ _ y5.drew
    have HP5 := Lib.hid (be32_any g7 20 (32 - 20) (32 - 20) 161 (put32 (put32 (put32 (put32 (put32 (List.replicate 32 0) 0 S.a) 4 S.b) 8 S.c) 12 S.d) 16 S.e) S.f y5.drew HG5.out.drew (by decide) (by simp [put32]) (by decide))
    go_wp2_with (go_at_call 100; refine HP5.out.mono ?_; rintro e y6 ⟨rfl, hg, hk⟩; have HG6 := Lib.hid hg; have HK6 := Lib.hid hk; clear hg hk)
    have HD6 := Lib.hid (HD5.out.drew.kp HK6.out HNE.out)
    have HQ6 := Lib.hid (HQ5.out.drew.trans HK6.out)
    clear HP5 HG5 HD5 HQ5 HK6
    have z6 := HD6.out.word 6 (by decide)
    have q6 := xs32 w 24 (by decide)
    clear z5 q5
    go_still_tail 6, (by kernel_rfl)
    change wpList _ _ _ _ _ y6.drew
    have HP6 := Lib.hid (be32_any g7 24 (32 - 24) (32 - 24) 161 (put32 (put32 (put32 (put32 (put32 (put32 (List.replicate 32 0) 0 S.a) 4 S.b) 8 S.c) 12 S.d) 16 S.e) 20 S.f) S.g y6.drew HG6.out.drew (by decide) (by simp [put32]) (by decide))
    go_wp2_with (go_at_call 100; refine HP6.out.mono ?_; rintro e y7 ⟨rfl, hg, hk⟩; have HG7 := Lib.hid hg; have HK7 := Lib.hid hk; clear hg hk; have z74 := (HD6.out.drew.kp HK7.out HNE.out).tail.2.2)
    have HD7 := Lib.hid (HD6.out.drew.kp HK7.out HNE.out)
    have HQ7 := Lib.hid (HQ6.out.drew.trans HK7.out)
    clear HP6 HG6 HD6 HQ6 HK7
    have z7 := HD7.out.word 7 (by decide)
    have q7 := xs32 w 28 (by decide)
    clear z6 q6
    go_still_tail 6, (by kernel_rfl)
    change wpList _ _ _ _ _ y7.drew
    have HP7 := Lib.hid (be32_any g7 28 (32 - 28) (32 - 28) 161 (put32 (put32 (put32 (put32 (put32 (put32 (put32 (List.replicate 32 0) 0 S.a) 4 S.b) 8 S.c) 12 S.d) 16 S.e) 20 S.f) 24 S.g) S.h y7.drew HG7.out.drew (by decide) (by simp [put32]) (by decide))
    go_wp2_with (first
      | (go_at_call 100
         refine HP7.out.mono ?_
         rintro e y8 ⟨rfl, hg, hk⟩
         rw [St.bytes_puts] at hg
         have HG8 := Lib.hid hg
         have HK8 := Lib.hid hk
         have HD8 := Lib.hid (HD7.out.drew.kp HK8.out HNE.out)
         have HQ8 := Lib.hid (HQ7.out.drew.trans HK8.out)
         have HG9 := Lib.hid (HGR.out.kp HQ8.out (fun e => HN7.out.1 e))
         clear hg hk HP7 HG7 HD7 HQ7)
      | (refine wpList_load_row rfl 161 _ rfl g7 rfl 161 _ (0, 0) _ HG8.out Tryz.underlying161 rfl HI.out ?_)
      | (refine wpList_store_row rfl 161 _ _ rfl g2 (S.bytes.map u8v).toArray rfl rfl 161 _ HG9.out HI.out (by rw [HSZ.out]; simp) (all_one _) ?_))
    rw [HSH.out]
    exact bodyPost_ret (v := .agg (S.bytes.map u8v).toArray) (results_cell_row Tryz.results92 _ _ g2 161 _ (0, 0) _ rfl (setRow_heap _ g2 _ _ _ _ HG9.out) Tryz.underlying161 rfl HI.out) rfl ⟨rfl,
      ⟨_, _, _, _, (HD8.out.kp (S := fun i => i = g2) ⟨rfl, rfl, rfl, by simp, fun i hi hne => setRow_other _ g2 i _ hne⟩ (fun e => by have := HGN.out; omega))⟩,
      (HKW.out.trans' HQ8.out (fun i hi e => by have := HN7.out; omega)).trans' (T := fun i => i = g2) ⟨rfl, rfl, rfl, by simp, fun i hi hne => setRow_other _ g2 i _ hne⟩ (fun i hi e => by have := HGN.out; omega)⟩
  case inr =>
    have ft : (120 : Int) - (r : Int) = (t : Int) := by omega
    have hr56i : (56 : Int) ≤ (r : Int) := by omega
    clear htr
    go_enter Tryz.func92, Tryz.ntmps92
    go_upto_region 10 with fail
    generalize hw2 : World.alloc _ _ = w2
    have HK2 : Hid (Keep w w2) := Lib.hid (by rw [← hw2]; exact ((Kp.refl _ _).alloc _).alloc _)
    have HG2 : Hid (ArrB w2 w.heap.size 161 (List.replicate 32 0)) := Lib.hid (by rw [← hw2]; exact heap_alloc2_old _ _ _)
    have HG4 : Hid (ArrB w2 (w.heap.size + 1) 189 (128 :: List.replicate 71 0)) := Lib.hid (by rw [← hw2]; exact heap_alloc2_new _ _ _)
    obtain ⟨g4, hg4⟩ : ∃ g, g = w.heap.size + 1 := ⟨_, rfl⟩
    obtain ⟨g2, hg2⟩ : ∃ g, g = w.heap.size := ⟨_, rfl⟩
    rw [← hg4] at HG4 ⊢
    rw [← hg2] at HG2 ⊢
    have HGN : Hid (b < g2 ∧ g2 < g4 ∧ w.heap.size ≤ g2) := Lib.hid (by omega)
    have q2' := q2 g4
    have HB := Lib.hid (be64_any g4 t 8 (72 - t) N 189 (128 :: List.replicate 71 0) w2 HG4.out (by omega) (by simp; omega) (by omega) (by omega))
    clear hw2 hg4 hg2 c73 q1 hbw
    go_wp2_with (go_at_call 99; refine HB.out.mono ?_; rintro e w3 ⟨rfl, hg, hk⟩; have HG5 := Lib.hid hg; have HK3 := Lib.hid hk; clear hg hk)
    have HD3 := Lib.hid ((HD.out.kp HK2.out (fun x => x)).kp HK3.out (fun e => by have := HGN.out; omega))
    have HKT3 := Lib.hid ((HKT.out.keep HK2.out (fun x => x)).keep HK3.out (fun e => by have := HGN.out; have h1 := World.block_lt_of_cell? w _ (HKT.out 0 (by decide)); simp at h1; omega))
    have HBY : Hid (Bys w3 b (.slice (some ⟨g4, 0, none⟩) (t + 8) 72) (shaPadding len)) := Lib.hid (by
      have h1 := HG5.out.bys (b := b) (by have := HGN.out; omega) (t + 8) 72 (by rw [put64_length]; simp; omega) (by omega) (by simp [maxLen])
      rwa [pad_bytes len t HTT.out N HN.out] at h1)
    have HG6 := Lib.hid (HG2.out.kp HK3.out (fun e => by have := HGN.out; omega))
    have HWR := Lib.hid (write_any bs (shaPadding len) b _ w3 HD3.out HBY.out HKT3.out (by have h1 := HL.out; have h2 := shaZeros_le len; simp [shaPadding, be64]; omega))
    go_wp2_with (go_at_call 84; refine HWR.out.mono ?_; rintro e w4 ⟨rfl, hd, hk⟩; rw [HL.out] at hd; obtain ⟨x4, hd4, hx4⟩ := hd; have HD4 : Hid (DgL w4 b (shaRun shaIV (shaPad bs) ((shaPad bs).length / 64)).list x4 ((shaPad bs).length % 64) (shaPad bs).length) := Lib.hid hd4; rw [shaPad_mod] at HD4; have HK4 := Lib.hid hk; have z72 : w4.cell? ⟨b, 72, none⟩ = some (.int .i64 0) := HD4.out.tail.1; clear hd4 hx4 hk)
    generalize hw5 : World.alloc _ _ = y0
    have HKY : Hid (Keep w4 y0) := Lib.hid (by rw [← hw5]; exact (Kp.refl _ _).alloc _)
    have HG0 : Hid (ArrB y0 w4.heap.size 161 (List.replicate 32 0)) := Lib.hid (by rw [← hw5]; exact heap_alloc_new _ _)
    obtain ⟨g7, hg7⟩ : ∃ g, g = w4.heap.size := ⟨_, rfl⟩
    rw [← hg7] at HG0 ⊢
    have HNE : Hid (¬ b = g7) := Lib.hid (by have := HD4.out.lt; omega)
    have HN7 : Hid (g2 ≠ g7 ∧ w.heap.size ≤ g7) := Lib.hid (by have h1 := HG6.out.lt; have h2 := HK4.out.size; have h3 := HK3.out.size; have h4 := HK2.out.size; omega)
    have HD0 := Lib.hid (HD4.out.kp HKY.out (fun x => x))
    have HSH : Hid (sha bs = (shaRun shaIV (shaPad bs) ((shaPad bs).length / 64)).bytes) := Lib.hid rfl
    generalize shaRun shaIV (shaPad bs) ((shaPad bs).length / 64) = S at HD0 HSH
    generalize (shaPad bs).length = tl at HD0
    have HQ0 : Hid (Kp (fun i => i = g7) y0 y0) := Lib.hid (Kp.refl _ _)
    have HGR := Lib.hid ((HG6.out.kp HK4.out (fun e => by have := HGN.out; omega)).kp HKY.out (fun x => x))
    have HKW : Hid (Kp (fun i => i = b) w y0) := Lib.hid ((((HK2.out.mono (T := fun i => i = b) (fun _ _ x => x.elim)).trans' HK3.out (fun i hi e => by have := HGN.out; omega)).trans HK4.out).trans' HKY.out (fun _ _ x => x.elim))
    clear hw5 hg7 z72 HD4 HWR HBY HG5 HG6 HB HG2 HG4 HD3 HKT3 HK2 HK3 HK4 HKY q2' q2
    have hsz : (S.bytes.map u8v).toArray.size = 32 := by simp [St.bytes_length]
    have hi : (Tryz.prog.info? 161).map (·.size) = some (S.bytes.map u8v).toArray.size := by rw [hsz]; kernel_rfl
    have HI := Lib.hid hi
    have HSZ := Lib.hid hsz
    clear hi hsz
    have z0 := HD0.out.word 0 (by decide)
    have q0 := xs32 w 0 (by decide)
    go_still_tail 6, (by kernel_rfl)
    change wpList _ _ _ _ _ y0.drew
    have HP0 := Lib.hid (be32_any g7 0 (32 - 0) (32 - 0) 161 (List.replicate 32 0) S.a y0.drew HG0.out.drew (by decide) (by simp) (by decide))
    go_wp2_with (go_at_call 100; refine HP0.out.mono ?_; rintro e y1 ⟨rfl, hg, hk⟩; have HG1 := Lib.hid hg; have HK1 := Lib.hid hk; clear hg hk)
    have HD1 := Lib.hid (HD0.out.drew.kp HK1.out HNE.out)
    have HQ1 := Lib.hid (HQ0.out.drew.trans HK1.out)
    clear HP0 HG0 HD0 HQ0 HK1
    have z1 := HD1.out.word 1 (by decide)
    have q1 := xs32 w 4 (by decide)
    clear z0 q0
    go_still_tail 6, (by kernel_rfl)
    change wpList _ _ _ _ _ y1.drew
    have HP1 := Lib.hid (be32_any g7 4 (32 - 4) (32 - 4) 161 (put32 (List.replicate 32 0) 0 S.a) S.b y1.drew HG1.out.drew (by decide) (by simp [put32]) (by decide))
    go_wp2_with (go_at_call 100; refine HP1.out.mono ?_; rintro e y2 ⟨rfl, hg, hk⟩; have HG2 := Lib.hid hg; have HK2 := Lib.hid hk; clear hg hk)
    have HD2 := Lib.hid (HD1.out.drew.kp HK2.out HNE.out)
    have HQ2 := Lib.hid (HQ1.out.drew.trans HK2.out)
    clear HP1 HG1 HD1 HQ1 HK2
    have z2 := HD2.out.word 2 (by decide)
    have q2 := xs32 w 8 (by decide)
    clear z1 q1
    go_still_tail 6, (by kernel_rfl)
    change wpList _ _ _ _ _ y2.drew
    have HP2 := Lib.hid (be32_any g7 8 (32 - 8) (32 - 8) 161 (put32 (put32 (List.replicate 32 0) 0 S.a) 4 S.b) S.c y2.drew HG2.out.drew (by decide) (by simp [put32]) (by decide))
    go_wp2_with (go_at_call 100; refine HP2.out.mono ?_; rintro e y3 ⟨rfl, hg, hk⟩; have HG3 := Lib.hid hg; have HK3 := Lib.hid hk; clear hg hk)
    have HD3 := Lib.hid (HD2.out.drew.kp HK3.out HNE.out)
    have HQ3 := Lib.hid (HQ2.out.drew.trans HK3.out)
    clear HP2 HG2 HD2 HQ2 HK3
    have z3 := HD3.out.word 3 (by decide)
    have q3 := xs32 w 12 (by decide)
    clear z2 q2
    go_still_tail 6, (by kernel_rfl)
    change wpList _ _ _ _ _ y3.drew
    have HP3 := Lib.hid (be32_any g7 12 (32 - 12) (32 - 12) 161 (put32 (put32 (put32 (List.replicate 32 0) 0 S.a) 4 S.b) 8 S.c) S.d y3.drew HG3.out.drew (by decide) (by simp [put32]) (by decide))
    go_wp2_with (go_at_call 100; refine HP3.out.mono ?_; rintro e y4 ⟨rfl, hg, hk⟩; have HG4 := Lib.hid hg; have HK4 := Lib.hid hk; clear hg hk)
    have HD4 := Lib.hid (HD3.out.drew.kp HK4.out HNE.out)
    have HQ4 := Lib.hid (HQ3.out.drew.trans HK4.out)
    clear HP3 HG3 HD3 HQ3 HK4
    have z4 := HD4.out.word 4 (by decide)
    have q4 := xs32 w 16 (by decide)
    clear z3 q3
    go_still_tail 6, (by kernel_rfl)
    change wpList _ _ _ _ _ y4.drew
    have HP4 := Lib.hid (be32_any g7 16 (32 - 16) (32 - 16) 161 (put32 (put32 (put32 (put32 (List.replicate 32 0) 0 S.a) 4 S.b) 8 S.c) 12 S.d) S.e y4.drew HG4.out.drew (by decide) (by simp [put32]) (by decide))
    go_wp2_with (go_at_call 100; refine HP4.out.mono ?_; rintro e y5 ⟨rfl, hg, hk⟩; have HG5 := Lib.hid hg; have HK5 := Lib.hid hk; clear hg hk)
    have HD5 := Lib.hid (HD4.out.drew.kp HK5.out HNE.out)
    have HQ5 := Lib.hid (HQ4.out.drew.trans HK5.out)
    clear HP4 HG4 HD4 HQ4 HK5
    have z5 := HD5.out.word 5 (by decide)
    have q5 := xs32 w 20 (by decide)
    clear z4 q4
    go_still_tail 6, (by kernel_rfl)
    change wpList _ _ _ _ _ y5.drew
    have HP5 := Lib.hid (be32_any g7 20 (32 - 20) (32 - 20) 161 (put32 (put32 (put32 (put32 (put32 (List.replicate 32 0) 0 S.a) 4 S.b) 8 S.c) 12 S.d) 16 S.e) S.f y5.drew HG5.out.drew (by decide) (by simp [put32]) (by decide))
    go_wp2_with (go_at_call 100; refine HP5.out.mono ?_; rintro e y6 ⟨rfl, hg, hk⟩; have HG6 := Lib.hid hg; have HK6 := Lib.hid hk; clear hg hk)
    have HD6 := Lib.hid (HD5.out.drew.kp HK6.out HNE.out)
    have HQ6 := Lib.hid (HQ5.out.drew.trans HK6.out)
    clear HP5 HG5 HD5 HQ5 HK6
    have z6 := HD6.out.word 6 (by decide)
    have q6 := xs32 w 24 (by decide)
    clear z5 q5
    go_still_tail 6, (by kernel_rfl)
    change wpList _ _ _ _ _ y6.drew
    have HP6 := Lib.hid (be32_any g7 24 (32 - 24) (32 - 24) 161 (put32 (put32 (put32 (put32 (put32 (put32 (List.replicate 32 0) 0 S.a) 4 S.b) 8 S.c) 12 S.d) 16 S.e) 20 S.f) S.g y6.drew HG6.out.drew (by decide) (by simp [put32]) (by decide))
    go_wp2_with (go_at_call 100; refine HP6.out.mono ?_; rintro e y7 ⟨rfl, hg, hk⟩; have HG7 := Lib.hid hg; have HK7 := Lib.hid hk; clear hg hk; have z74 := (HD6.out.drew.kp HK7.out HNE.out).tail.2.2)
    have HD7 := Lib.hid (HD6.out.drew.kp HK7.out HNE.out)
    have HQ7 := Lib.hid (HQ6.out.drew.trans HK7.out)
    clear HP6 HG6 HD6 HQ6 HK7
    have z7 := HD7.out.word 7 (by decide)
    have q7 := xs32 w 28 (by decide)
    clear z6 q6
    go_still_tail 6, (by kernel_rfl)
    change wpList _ _ _ _ _ y7.drew
    have HP7 := Lib.hid (be32_any g7 28 (32 - 28) (32 - 28) 161 (put32 (put32 (put32 (put32 (put32 (put32 (put32 (List.replicate 32 0) 0 S.a) 4 S.b) 8 S.c) 12 S.d) 16 S.e) 20 S.f) 24 S.g) S.h y7.drew HG7.out.drew (by decide) (by simp [put32]) (by decide))
    go_wp2_with (first
      | (go_at_call 100
         refine HP7.out.mono ?_
         rintro e y8 ⟨rfl, hg, hk⟩
         rw [St.bytes_puts] at hg
         have HG8 := Lib.hid hg
         have HK8 := Lib.hid hk
         have HD8 := Lib.hid (HD7.out.drew.kp HK8.out HNE.out)
         have HQ8 := Lib.hid (HQ7.out.drew.trans HK8.out)
         have HG9 := Lib.hid (HGR.out.kp HQ8.out (fun e => HN7.out.1 e))
         clear hg hk HP7 HG7 HD7 HQ7)
      | (refine wpList_load_row rfl 161 _ rfl g7 rfl 161 _ (0, 0) _ HG8.out Tryz.underlying161 rfl HI.out ?_)
      | (refine wpList_store_row rfl 161 _ _ rfl g2 (S.bytes.map u8v).toArray rfl rfl 161 _ HG9.out HI.out (by rw [HSZ.out]; simp) (all_one _) ?_))
    rw [HSH.out]
    exact bodyPost_ret (v := .agg (S.bytes.map u8v).toArray) (results_cell_row Tryz.results92 _ _ g2 161 _ (0, 0) _ rfl (setRow_heap _ g2 _ _ _ _ HG9.out) Tryz.underlying161 rfl HI.out) rfl ⟨rfl,
      ⟨_, _, _, _, (HD8.out.kp (S := fun i => i = g2) ⟨rfl, rfl, rfl, by simp, fun i hi hne => setRow_other _ g2 i _ hne⟩ (fun e => by have := HGN.out; omega))⟩,
      (HKW.out.trans' HQ8.out (fun i hi e => by have := HN7.out; omega)).trans' (T := fun i => i = g2) ⟨rfl, rfl, rfl, by simp, fun i hi hne => setRow_other _ g2 i _ hne⟩ (fun i hi e => by have := HGN.out; omega)⟩

end Go.Proofs.YtfodkjpjejoemaaGreatDoor

/-
  The digest's Sum; the package's sum256, Sum, SumTruncated; two slices held against each other.
  Conditions: the arguments read as bytes; the table _K holds the rounds' words.
-/
namespace Go.Proofs.YtfodkjpjejoemaaGreatDoor
open Go Go.RowKit
attribute [local go_sem ↓] Go.wp_at_zero Go.wp_at_succ

theorem appByte' : AppOk Tryz.prog 24 5 1 := by
  obtain ⟨i0, hi, hz0, hz1, hz2⟩ := info_parts (show (Tryz.prog.info? 5).map (fun i => (i.zero, i.size, i.bytes)) = some (some (.int .u8 0), 1, 1) by kernel_rfl)
  exact ⟨Tryz.underlying24, by omega, i0, _, hi, hz0, hz1, hz2, rfl⟩
theorem Own.bytes' {w : World} {base : Nat} {e : TypeId} {v : Value} {bs : List UInt8} (h : Own w base e v (bs.map u8v)) : Byts w v bs := Own.slc_map u8v h fun _ _ => rfl

/-- bytes in a block that is not older than B -/
def Nw (B : Nat) (w : World) (v : Value) (bs : List UInt8) : Prop := ∃ g off c, v = .slice (some ⟨g, off, none⟩) bs.length c ∧ B ≤ g ∧ Byts w v bs
theorem Nw.byts {B : Nat} {w : World} {v : Value} {bs : List UInt8} (h : Nw B w v bs) : Byts w v bs := by obtain ⟨g, off, c, _, _, h⟩ := h; exact h
theorem Nw.keep {B : Nat} {w w' : World} {v : Value} {bs : List UInt8} (h : Nw B w v bs) (k : Keep w w') : Nw B w' v bs := by obtain ⟨g, off, c, e, hb, h⟩ := h; exact ⟨g, off, c, e, hb, h.keep k⟩
theorem Nw.mono {B B' : Nat} {w : World} {v : Value} {bs : List UInt8} (h : Nw B w v bs) (hB : B' ≤ B) : Nw B' w v bs := by obtain ⟨g, off, c, e, hb, h⟩ := h; exact ⟨g, off, c, e, by omega, h⟩
theorem Nw.of_own {B : Nat} {w : World} {e : TypeId} {v : Value} {bs : List UInt8} (h : Own w B e v (bs.map u8v)) (hp : 0 < bs.length) : Nw B w v bs := by
  obtain ⟨A, c, rfl, h1, h2, h3, h4⟩ := h.form
  obtain ⟨g, rfl, hg, hc⟩ := h4 (by simpa using hp)
  exact ⟨g, 0, c, by simp, hg, h.bytes'⟩
theorem Nw.of_arr {B : Nat} {w : World} {g : Nat} {t : TypeId} {L : List UInt8} (h : ArrB w g t L) (n c : Nat) (hn : n ≤ L.length) (hc : n ≤ c) (hm : c ≤ maxLen) (hB : B ≤ g) : Nw B w (.slice (some ⟨g, 0, none⟩) n c) (L.take n) :=
  ⟨g, 0, c, by rw [List.length_take, Nat.min_eq_left hn], hB, h.byts n c hn hc hm⟩
theorem Byts.bys_new {w w' : World} {b : Nat} {v : Value} {L : List UInt8} (h : Byts w v L) (k : Keep w w') (hb : w.heap.size ≤ b) : Bys w' b v L := fun wx kx => by
  obtain ⟨A, c, hv, h1, h2, h3, h4⟩ := h
  refine ⟨A, c, hv, h1, h2, h3, fun hn => ?_⟩
  obtain ⟨b', off, hA, hc⟩ := h4 hn
  refine ⟨b', off, hA, fun i hi => ?_⟩
  obtain ⟨u, hu, hr⟩ := hc i hi
  exact ⟨u, kx.cell_of (k.cell_of hu (fun x => x)) (fun e => by have := World.block_lt_of_cell? w _ hu; simp at e this; omega), hr⟩
theorem dg_empty {w : World} {b : Nat} {x : List UInt8} (d : DgL w b shaIV.list x 0 0) : Dg w b [] := ⟨x, d, rfl⟩

theorem xs32_all (_ : World) : ∀ (b : Nat) (w : World), (Instr.sliceAt 161 (.pointer (some ⟨b, 0, none⟩)) none none none).run Tryz.prog w = .ok (.slice (some ⟨b, 0, none⟩) 32 32) w := by
  intro b w
  have hl : Tryz.prog.arrayLen 161 = 32 := by kernel_rfl
  have he : Tryz.prog.elem 161 = 5 := by kernel_rfl
  rw [run_sliceAt_array_all (P := Tryz.prog) w 161 _ (by rw [hl, he]; exact Tryz.underlying161), hl, he, sz1]
  simp [Result.andThen, slicedAt, Addr.add]
theorem xs32_20 (_ : World) : ∀ (b : Nat) (w : World), (Instr.sliceAt 161 (.pointer (some ⟨b, 0, none⟩)) none (some (.int .i64 20)) none).run Tryz.prog w = .ok (.slice (some ⟨b, 0, none⟩) 20 32) w := by
  intro b w
  have hl : Tryz.prog.arrayLen 161 = 32 := by kernel_rfl
  have he : Tryz.prog.elem 161 = 5 := by kernel_rfl
  rw [run_sliceAt_array_h (P := Tryz.prog) w 161 _ (by rw [hl, he]; exact Tryz.underlying161) .i64 _ (by omega) (by rw [hl]; omega), hl, he, sz1]
  simp [Result.andThen, slicedAt, Addr.add]
theorem dgL_size (h : List W32) (x : List UInt8) (nx len : Nat) (hh : h.length = 8) (hx : x.length = 64) : (dgL h x nx len).toArray.size = 75 := by simp [dgL, hh, hx]
theorem dgL_one (h : List W32) (x : List UInt8) (nx len : Nat) : (dgL h x nx len).toArray.all (·.oneCell') = true := by
  rw [List.all_toArray]; simp [dgL, Value.oneCell']
theorem zero_digest_size : Tryz.zeroCells147.size = 75 := by kernel_rfl
theorem info_digest : (Tryz.prog.info? 147).map (·.size) = some 75 := by kernel_rfl
theorem info_sum : (Tryz.prog.info? 161).map (·.size) = some 32 := by kernel_rfl
theorem sha_size (bs : List UInt8) : ((sha bs).map u8v).toArray.size = 32 := by simp [sha_length]
theorem Src.of_arr {w : World} {g : Nat} {t : TypeId} {L : List UInt8} (h : ArrB w g t L) (n : Nat) (hn : n = L.length) : Src w (some ⟨g, 0, none⟩) n (L.map u8v) := by
  subst hn
  refine ⟨by simp, fun _ => ⟨_, rfl, fun j u hj => ?_⟩⟩
  have e : (⟨g, 0, none⟩ : Addr).add j = ⟨g, j, none⟩ := by unfold Addr.add; split <;> simp_all
  rw [e, cell_of_row _ _ _ _ _ _ h]
  simpa using hj

set_option maxRecDepth 100000 in
set_option maxHeartbeats 4000000 in
theorem dSum_any (bs : List UInt8) (b : Nat) (w : World) (d : Dg w b bs) (hK : KTab w) (hl : bs.length ≤ 4294967000) :
    Calls Tryz.prog 85 #[.pointer (some ⟨b, 0, none⟩), .slice none 0 0] w fun e w' => ∃ v, e = .returned v ∧ Own w' w.heap.size 5 v ((sha bs).map u8v) ∧ Keep w w' := by
  obtain ⟨x, d, hx⟩ := d
  have HX := Lib.hid hx
  have D := Lib.hid d
  have HKT := Lib.hid hK
  have hk1 : ∀ o, Keep w (w.alloc o) := fun o => (Kp.refl _ _).alloc o
  have HK1 := Lib.hid hk1
  have hd2 : Dg (w.alloc (Obj.cells (dgL (shaRun shaIV bs (bs.length / 64)).list x (bs.length % 64) bs.length).toArray 147)) w.heap.size bs := ⟨x, ⟨heap_alloc_new _ _, d.hlen, d.xlen⟩, hx⟩
  have HC := Lib.hid (checkSum_any bs w.heap.size _ hd2 (hK.keep (hk1 _) (fun x => x)) hl)
  have hsz := dgL_size (shaRun shaIV bs (bs.length / 64)).list x (bs.length % 64) bs.length d.hlen d.xlen
  have hone := dgL_one (shaRun shaIV bs (bs.length / 64)).list x (bs.length % 64) bs.length
  have hbody := d.body
  generalize dgL (shaRun shaIV bs (bs.length / 64)).list x (bs.length % 64) bs.length = cs at hbody hd2 HC hsz hone
  have HSZ := Lib.hid hsz
  have HONE := Lib.hid hone
  have HBODY := Lib.hid hbody
  have q1 := xs32_all w
  clear hx d hK hk1 hd2 hl hsz hone hbody
  go_enter Tryz.func85, Tryz.ntmps85
  go_wp2_with (first
    | (refine wpList_load_row rfl 147 _ rfl b rfl 147 _ (0, 0) _ HBODY.out Tryz.underlying147 rfl (by rw [HSZ.out]; exact info_digest) ?_)
    | (refine wpList_store_row rfl 147 _ _ rfl w.heap.size cs.toArray rfl rfl 147 _ (heap_alloc_new _ _) (by rw [HSZ.out]; exact info_digest) (by rw [HSZ.out]; exact zero_digest_size) HONE.out ?_
       rw [World.setRow_alloc_new])
    | (go_at_call 92
       refine HC.out.mono ?_
       rintro e w2 ⟨rfl, hd, hk⟩
       have HK2 := Lib.hid hk
       obtain ⟨h3, x3, n3, l3, hd3⟩ := hd
       have HD3 := Lib.hid hd3
       clear hk hd3)
    | (refine wpList_store_row rfl 161 _ _ rfl w2.heap.size ((sha bs).map u8v).toArray rfl rfl 161 _ (heap_alloc_new _ _) (by rw [sha_size]; exact info_sum) (by rw [sha_size]; rfl) (all_one _) ?_
       rw [World.setRow_alloc_new]
       generalize hw3 : World.alloc _ _ = w3
       have HG3 : Hid (ArrB w3 w2.heap.size 161 (sha bs)) := Lib.hid (by rw [← hw3]; exact heap_alloc_new _ _)
       have HK3 : Hid (Keep w2 w3) := Lib.hid (by rw [← hw3]; exact (Kp.refl _ _).alloc _)
       have z74 : w3.cell? ⟨w.heap.size, 74, none⟩ = some (.bool false) := HK3.out.cell_of HD3.out.tail.2.2 (fun x => x)
       clear hw3)
    | (at_builtin
       refine wpList_app rfl (.tmp 16) (.tmp 17) 24 rfl appByte' rfl (Own.nil_ _ w3.heap.size 5) rfl (Src.of_arr HG3.out 32 (by rw [sha_length])) (u8v_one' _) (fun e => by cases e) (by simp) (Nat.le_refl _) ?_
       intro v4 w4 ho hk hat
       have HO := Lib.hid ho
       have HK4 := Lib.hid hk
       clear ho hk hat))
  go_ret
  have hs : w.heap.size ≤ w3.heap.size := Nat.le_trans (HK1.out (Obj.cells cs.toArray 147)).size (Nat.le_trans HK2.out.size HK3.out.size)
  refine ⟨_, rfl, ?_, ?_⟩
  · have h1 := HO.out
    rw [List.nil_append] at h1
    rcases h1.2 with h2 | ⟨g, cap, cur, e1, hb, h3⟩
    · exact ⟨h1.1, .inl h2⟩
    · exact ⟨h1.1, .inr ⟨g, cap, cur, e1, Nat.le_trans hs hb, h3⟩⟩
  · exact (((HK1.out _).trans' HK2.out (fun i hi e => by omega)).trans HK3.out).trans' HK4.out (fun i hi e => by cases e)

theorem spl_all (cur news : List Value) (n : Nat) (hc : cur.length = n) (hn : news.length = n) : spl cur 0 news n = news := by
  unfold spl
  rw [List.take_zero, List.nil_append, List.take_of_length_le (by omega), List.drop_eq_nil_of_le (by omega), List.append_nil]

set_option maxRecDepth 100000 in
set_option maxHeartbeats 4000000 in
theorem sum256_any (v : Value) (p : List UInt8) (w : World) (hv : Byts w v p) (hK : KTab w) (hl : p.length ≤ 4294967000) :
    Calls Tryz.prog 75 #[v] w fun e w' => e = .returned (.agg ((sha p).map u8v).toArray) ∧ Keep w w' := by
  have HV := Lib.hid hv
  have HKT := Lib.hid hK
  have q1 := xs32_all w
  obtain ⟨A, c, rfl, h1, h2, h3, h4⟩ := hv
  clear hK h1 h2 h3 h4
  go_enter Tryz.func75, Tryz.ntmps75
  go_wp2_with fail
  generalize hw1 : World.alloc _ _ = w1
  have HK1 : Hid (Keep w w1) := Lib.hid (by rw [← hw1]; exact (Kp.refl _ _).alloc _)
  have HG2 : Hid (ArrB w1 w.heap.size 161 (List.replicate 32 0)) := Lib.hid (by rw [← hw1]; exact heap_alloc_new _ _)
  obtain ⟨g2, hg2⟩ : ∃ g, g = w.heap.size := ⟨_, rfl⟩
  rw [← hg2] at HG2 ⊢
  have HGN := Lib.hid hg2
  clear hw1 hg2
  go_wp2_with (first
    | (go_at_call 54
       refine (new_any w1).mono ?_
       rintro e w2 ⟨b, x, rfl, hb, hd, hk⟩
       have HB := Lib.hid hb
       have HD := Lib.hid (dg_empty hd)
       have HK2 := Lib.hid hk
       clear hb hd hk)
    | (go_at_call 84
       refine (write_any [] p b _ w2 HD.out (Byts.bys_new (HV.out.keep HK1.out) HK2.out HB.out) ((HKT.out.keep HK1.out (fun x => x)).keep HK2.out (fun x => x)) (by simp; omega)).mono ?_
       rintro e w3 ⟨rfl, hd, hk⟩
       rw [List.nil_append] at hd
       have HD3 := Lib.hid hd
       have HK3 := Lib.hid hk
       clear hd hk))
  generalize hw4 : World.alloc _ _ = w4
  have HK4 : Hid (Keep w3 w4) := Lib.hid (by rw [← hw4]; exact (Kp.refl _ _).alloc _)
  have HG4 : Hid (ArrB w4 w3.heap.size 161 (List.replicate 32 0)) := Lib.hid (by rw [← hw4]; exact heap_alloc_new _ _)
  obtain ⟨g4, hg4⟩ : ∃ g, g = w3.heap.size := ⟨_, rfl⟩
  rw [← hg4] at HG4 ⊢
  have HGN4 := Lib.hid hg4
  have HNB : Hid (g2 < b ∧ b < g4 ∧ w1.heap.size ≤ b ∧ w1.heap.size ≤ g4 ∧ w.heap.size ≤ b ∧ w.heap.size ≤ g4) := Lib.hid (by
    have h1 := HG2.out.lt; have h2 := HB.out; have h3 := HD3.out.lt; have h4 := HK1.out.size; omega)
  have HD4 := Lib.hid (HD3.out.kp HK4.out (fun x => x))
  have HT3 := Lib.hid (((HKT.out.keep HK1.out (fun x => x)).keep HK2.out (fun x => x)).keep HK3.out (fun e => by have h1 := World.block_lt_of_cell? w _ (HKT.out 0 (by decide)); have := HNB.out; simp at h1; omega))
  have HT4 := Lib.hid (HT3.out.keep HK4.out (fun x => x))
  have HR4 := Lib.hid (((HG2.out.kp HK2.out (fun x => x)).kp HK3.out (fun e => by have := HNB.out; omega)).kp HK4.out (fun x => x))
  have HW4 : Hid (Keep w w4) := Lib.hid (((HK1.out.trans HK2.out).trans' HK3.out (fun i hi e => by have := HNB.out; omega)).trans HK4.out)
  clear hw4 hg4 HK1 HK2 HK3 HK4 HG2 HB HD HD3 HT3
  go_region_held3 (fun _ => True) (trivial) (first
    | (go_at_call 85
       refine (dSum_any p b w4.drew (HD4.out.kp ((Kp.refl (fun _ => False) _).drew) (fun x => x)) (HT4.out.keep ((Kp.refl (fun _ => False) _).drew) (fun x => x)) hl).mono ?_
       rintro e w5 ⟨v5, rfl, ho, hk⟩
       obtain ⟨A5, c5, rfl, f1, f2, f3, f4⟩ := ho.form
       have e32 : ((sha p).map u8v).length = 32 := by simp [sha_length]
       rw [e32] at f1
       have HO := Lib.hid ho.bytes'
       have HK5 := Lib.hid hk
       have HG5 := Lib.hid (HG4.out.drew.kp hk (fun x => x))
       have HR5 := Lib.hid (HR4.out.drew.kp hk (fun x => x))
       rw [e32] at HO ⊢
       unfold maxLen at f2
       have HE := Lib.hid e32
       clear ho hk f3 f4 e32)
    | (refine step_cpy rfl (.tmp 9) (.tmp 11) 24 24 rfl Tryz.underlying24 (by kernel_rfl) rfl rfl (g := g4) (off := 0) (cur := (List.replicate 32 0).map u8v) (t := 161) HG5.out (byts_src' HO.out) (u8v_one' _) (fun _ => rfl) (by simp) ?_
       intro w6 hb hk
       rw [show min 32 32 = 32 from rfl, spl_all _ _ 32 (by simp) HE.out] at hb
       have HG6 : Hid (ArrB w6 g4 161 (sha p)) := Lib.hid hb.out
       have HR6 := Lib.hid (HR5.out.kp hk.out (fun e => by have := HNB.out; omega))
       have HK6 := Lib.hid hk.out
       clear hb hk))
  all_goals
    go_wp2_with (first
      | (refine wpList_load_row rfl 161 _ rfl g4 rfl 161 _ (0, 0) _ HG6.out Tryz.underlying161 rfl (by rw [sha_size]; exact info_sum) ?_)
      | (refine wpList_store_row rfl 161 _ _ rfl g2 ((sha p).map u8v).toArray rfl rfl 161 _ HR6.out (by rw [sha_size]; exact info_sum) (by rw [sha_size]; simp) (all_one _) ?_))
    exact bodyPost_ret (v := .agg ((sha p).map u8v).toArray) (results_cell_row Tryz.results75 _ _ g2 161 _ (0, 0) _ rfl (setRow_heap _ g2 _ _ _ _ HR6.out) Tryz.underlying161 rfl (by rw [sha_size]; exact info_sum)) rfl ⟨rfl,
      ((HW4.out.drew.trans HK5.out).trans' HK6.out (fun i hi e => by have := HNB.out; omega)).trans' (T := fun i => i = g2) ⟨rfl, rfl, rfl, by simp, fun i hi hne => setRow_other _ g2 i _ hne⟩ (fun i hi e => by have := HGN.out; omega)⟩

theorem mSum_any (v : Value) (p : List UInt8) (w : World) (hv : Byts w v p) (hK : KTab w) (hl : p.length ≤ 4294967000) :
    Calls Tryz.prog 62 #[v] w fun e w' => ∃ v', e = .returned v' ∧ Nw w.heap.size w' v' (sha p) ∧ Keep w w' := by
  have HS := Lib.hid (sum256_any v p w hv hK hl)
  have q1 := xs32_all w
  clear hv hK
  go_enter Tryz.func62, Tryz.ntmps62
  go_wp2_with (first
    | (go_at_call 75
       refine HS.out.mono ?_
       rintro e w1 ⟨rfl, hk⟩
       have HK := Lib.hid hk
       clear hk)
    | (refine wpList_store_row rfl 161 _ _ rfl w1.heap.size ((sha p).map u8v).toArray rfl rfl 161 _ (heap_alloc_new _ _) (by rw [sha_size]; exact info_sum) (by rw [sha_size]; rfl) (all_one _) ?_
       rw [World.setRow_alloc_new]
       generalize hw3 : World.alloc _ _ = w3
       have HG3 : Hid (ArrB w3 w1.heap.size 161 (sha p)) := Lib.hid (by rw [← hw3]; exact heap_alloc_new _ _)
       have HK3 : Hid (Keep w1 w3) := Lib.hid (by rw [← hw3]; exact (Kp.refl _ _).alloc _)
       clear hw3))
  go_ret
  have h1 := Nw.of_arr HG3.out 32 32 (by rw [sha_length]; exact Nat.le_refl _) (Nat.le_refl _) (by simp [maxLen]) HK.out.size
  rw [List.take_of_length_le (by rw [sha_length]; exact Nat.le_refl _)] at h1
  exact ⟨_, rfl, h1, HK.out.trans HK3.out⟩

theorem same_any (v1 v2 : Value) (L M : List UInt8) (w : World) (h1 : Byts w v1 L) (h2 : Byts w v2 M) :
    Calls Tryz.prog 13 #[v1, v2] w fun e w' => e = .returned (.bool (L == M)) ∧ w = w' := by
  have H1 := h1
  have H2 := h2
  obtain ⟨A, c, rfl, a1, a2, a3, a4⟩ := h1
  obtain ⟨B, d, rfl, b1, b2, b3, b4⟩ := h2
  have e1 := byts_string (P := Tryz.prog) Tryz.underlying24 Tryz.underlying5 Tryz.underlying9 H1
  have e2 := byts_string (P := Tryz.prog) Tryz.underlying24 Tryz.underlying5 Tryz.underlying9 H2
  clear a1 a2 a3 a4 b1 b2 b3 b4 H1 H2
  go_enter Tryz.func13, Tryz.ntmps13
  go_wp2
  go_ret
  exact ⟨rfl, rfl⟩

end Go.Proofs.YtfodkjpjejoemaaGreatDoor
