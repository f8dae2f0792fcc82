/-
  The digest's Sum; the package's sum256, Sum, SumTruncated; two slices held against each other.
  Conditions: the arguments read as bytes; the table _K holds the rounds' words.
-/
import Derived.Test.YtfodkjpjejoemaaDoorSha7
import Derived.Deep.RegionHeld3
import Derived.Deep.DrawnRows
namespace Go.Proofs.YtfodkjpjejoemaaDoor
open Go Go.RowKit
attribute [local go_sem ↓] Go.wp_at_zero Go.wp_at_succ

theorem appByte' : AppOk Tryd.prog 22 5 1 := by
  obtain ⟨i0, hi, hz0, hz1, hz2⟩ := info_parts (show (Tryd.prog.info? 5).map (fun i => (i.zero, i.size, i.bytes)) = some (some (.int .u8 0), 1, 1) by kernel_rfl)
  exact ⟨Tryd.underlying22, by omega, i0, _, hi, hz0, hz1, hz2, rfl⟩
theorem Own.bytes' {w : World} {base : Nat} {e : TypeId} {v : Value} {bs : List UInt8} (h : Own w base e v (bs.map u8v)) : Byts w v bs := Own.slc_map u8v h fun _ _ => rfl

/-- bytes in a block that is not older than B -/
def Nw (B : Nat) (w : World) (v : Value) (bs : List UInt8) : Prop := ∃ g off c, v = .slice (some ⟨g, off, none⟩) bs.length c ∧ B ≤ g ∧ Byts w v bs
theorem Nw.byts {B : Nat} {w : World} {v : Value} {bs : List UInt8} (h : Nw B w v bs) : Byts w v bs := by obtain ⟨g, off, c, _, _, h⟩ := h; exact h
theorem Nw.keep {B : Nat} {w w' : World} {v : Value} {bs : List UInt8} (h : Nw B w v bs) (k : Keep w w') : Nw B w' v bs := by obtain ⟨g, off, c, e, hb, h⟩ := h; exact ⟨g, off, c, e, hb, h.keep k⟩
theorem Nw.mono {B B' : Nat} {w : World} {v : Value} {bs : List UInt8} (h : Nw B w v bs) (hB : B' ≤ B) : Nw B' w v bs := by obtain ⟨g, off, c, e, hb, h⟩ := h; exact ⟨g, off, c, e, by omega, h⟩
theorem Nw.of_own {B : Nat} {w : World} {e : TypeId} {v : Value} {bs : List UInt8} (h : Own w B e v (bs.map u8v)) (hp : 0 < bs.length) : Nw B w v bs := by
  obtain ⟨A, c, rfl, h1, h2, h3, h4⟩ := h.form
  obtain ⟨g, rfl, hg, hc⟩ := h4 (by simpa using hp)
  exact ⟨g, 0, c, by simp, hg, h.bytes'⟩
theorem Nw.of_arr {B : Nat} {w : World} {g : Nat} {t : TypeId} {L : List UInt8} (h : ArrB w g t L) (n c : Nat) (hn : n ≤ L.length) (hc : n ≤ c) (hm : c ≤ maxLen) (hB : B ≤ g) : Nw B w (.slice (some ⟨g, 0, none⟩) n c) (L.take n) :=
  ⟨g, 0, c, by rw [List.length_take, Nat.min_eq_left hn], hB, h.byts n c hn hc hm⟩
theorem Byts.bys_new {w w' : World} {b : Nat} {v : Value} {L : List UInt8} (h : Byts w v L) (k : Keep w w') (hb : w.heap.size ≤ b) : Bys w' b v L := fun wx kx => by
  obtain ⟨A, c, hv, h1, h2, h3, h4⟩ := h
  refine ⟨A, c, hv, h1, h2, h3, fun hn => ?_⟩
  obtain ⟨b', off, hA, hc⟩ := h4 hn
  refine ⟨b', off, hA, fun i hi => ?_⟩
  obtain ⟨u, hu, hr⟩ := hc i hi
  exact ⟨u, kx.cell_of (k.cell_of hu (fun x => x)) (fun e => by have := World.block_lt_of_cell? w _ hu; simp at e this; omega), hr⟩
theorem dg_empty {w : World} {b : Nat} {x : List UInt8} (d : DgL w b shaIV.list x 0 0) : Dg w b [] := ⟨x, d, rfl⟩

theorem xs32_all (w0 : World) : ∀ (b : Nat) (w : World), (Instr.sliceAt 122 (.pointer (some ⟨b, 0, none⟩)) none none none).run Tryd.prog w = .ok (.slice (some ⟨b, 0, none⟩) 32 32) w := by
  intro b w
  have hl : Tryd.prog.arrayLen 122 = 32 := by kernel_rfl
  have he : Tryd.prog.elem 122 = 5 := by kernel_rfl
  rw [run_sliceAt_array_all (P := Tryd.prog) w 122 _ (by rw [hl, he]; exact Tryd.underlying122), hl, he, sz1]
  simp [Result.andThen, slicedAt, Addr.add]
theorem xs32_20 (w0 : World) : ∀ (b : Nat) (w : World), (Instr.sliceAt 122 (.pointer (some ⟨b, 0, none⟩)) none (some (.int .i64 20)) none).run Tryd.prog w = .ok (.slice (some ⟨b, 0, none⟩) 20 32) w := by
  intro b w
  have hl : Tryd.prog.arrayLen 122 = 32 := by kernel_rfl
  have he : Tryd.prog.elem 122 = 5 := by kernel_rfl
  rw [run_sliceAt_array_h (P := Tryd.prog) w 122 _ (by rw [hl, he]; exact Tryd.underlying122) .i64 _ (by omega) (by rw [hl]; omega), hl, he, sz1]
  simp [Result.andThen, slicedAt, Addr.add]
theorem dgL_size (h : List W32) (x : List UInt8) (nx len : Nat) (hh : h.length = 8) (hx : x.length = 64) : (dgL h x nx len).toArray.size = 75 := by simp [dgL, hh, hx]
theorem dgL_one (h : List W32) (x : List UInt8) (nx len : Nat) : (dgL h x nx len).toArray.all (·.oneCell') = true := by
  rw [List.all_toArray]; simp [dgL, Value.oneCell']
theorem zero_digest_size : Tryd.zeroCells188.size = 75 := by kernel_rfl
theorem info_digest : (Tryd.prog.info? 188).map (·.size) = some 75 := by kernel_rfl
theorem info_sum : (Tryd.prog.info? 122).map (·.size) = some 32 := by kernel_rfl
theorem sha_size (bs : List UInt8) : ((sha bs).map u8v).toArray.size = 32 := by simp [sha_length]
theorem Src.of_arr {w : World} {g : Nat} {t : TypeId} {L : List UInt8} (h : ArrB w g t L) (n : Nat) (hn : n = L.length) : Src w (some ⟨g, 0, none⟩) n (L.map u8v) := by
  subst hn
  refine ⟨by simp, fun _ => ⟨_, rfl, fun j u hj => ?_⟩⟩
  have e : (⟨g, 0, none⟩ : Addr).add j = ⟨g, j, none⟩ := by unfold Addr.add; split <;> simp_all
  rw [e, cell_of_row _ _ _ _ _ _ h]
  simpa using hj

set_option maxRecDepth 100000 in
set_option maxHeartbeats 4000000 in
theorem dSum_any (bs : List UInt8) (b : Nat) (w : World) (d : Dg w b bs) (hK : KTab w) (hl : bs.length ≤ 4294967000) :
    Calls Tryd.prog 114 #[.pointer (some ⟨b, 0, none⟩), .slice none 0 0] w fun e w' => ∃ v, e = .returned v ∧ Own w' w.heap.size 5 v ((sha bs).map u8v) ∧ Keep w w' := by
  obtain ⟨x, d, hx⟩ := d
  have HX := Lib.hid hx
  have D := Lib.hid d
  have HKT := Lib.hid hK
  have hk1 : ∀ o, Keep w (w.alloc o) := fun o => (Kp.refl _ _).alloc o
  have HK1 := Lib.hid hk1
  have hd2 : Dg (w.alloc (Obj.cells (dgL (shaRun shaIV bs (bs.length / 64)).list x (bs.length % 64) bs.length).toArray 188)) w.heap.size bs := ⟨x, ⟨heap_alloc_new _ _, d.hlen, d.xlen⟩, hx⟩
  have HC := Lib.hid (checkSum_any bs w.heap.size _ hd2 (hK.keep (hk1 _) (fun x => x)) hl)
  have hsz := dgL_size (shaRun shaIV bs (bs.length / 64)).list x (bs.length % 64) bs.length d.hlen d.xlen
  have hone := dgL_one (shaRun shaIV bs (bs.length / 64)).list x (bs.length % 64) bs.length
  have hbody := d.body
  generalize dgL (shaRun shaIV bs (bs.length / 64)).list x (bs.length % 64) bs.length = cs at hbody hd2 HC hsz hone
  have HSZ := Lib.hid hsz
  have HONE := Lib.hid hone
  have HBODY := Lib.hid hbody
  have q1 := xs32_all w
  clear hx d hK hk1 hd2 hl hsz hone hbody
  go_enter Tryd.func114, Tryd.ntmps114
  go_wp2_with (first
    | (refine wpList_load_row rfl 188 _ rfl b rfl 188 _ (0, 0) _ HBODY.out Tryd.underlying188 rfl (by rw [HSZ.out]; exact info_digest) ?_)
    | (refine wpList_store_row rfl 188 _ _ rfl w.heap.size cs.toArray rfl rfl 188 _ (heap_alloc_new _ _) (by rw [HSZ.out]; exact info_digest) (by rw [HSZ.out]; exact zero_digest_size) HONE.out ?_
       rw [World.setRow_alloc_new])
    | (go_at_call 138
       refine HC.out.mono ?_
       rintro e w2 ⟨rfl, hd, hk⟩
       have HK2 := Lib.hid hk
       obtain ⟨h3, x3, n3, l3, hd3⟩ := hd
       have HD3 := Lib.hid hd3
       clear hk hd3)
    | (refine wpList_store_row rfl 122 _ _ rfl w2.heap.size ((sha bs).map u8v).toArray rfl rfl 122 _ (heap_alloc_new _ _) (by rw [sha_size]; exact info_sum) (by rw [sha_size]; rfl) (all_one _) ?_
       rw [World.setRow_alloc_new]
       generalize hw3 : World.alloc _ _ = w3
       have HG3 : Hid (ArrB w3 w2.heap.size 122 (sha bs)) := Lib.hid (by rw [← hw3]; exact heap_alloc_new _ _)
       have HK3 : Hid (Keep w2 w3) := Lib.hid (by rw [← hw3]; exact (Kp.refl _ _).alloc _)
       have z74 : w3.cell? ⟨w.heap.size, 74, none⟩ = some (.bool false) := HK3.out.cell_of HD3.out.tail.2.2 (fun x => x)
       clear hw3)
    | (at_builtin
       refine wpList_app rfl (.tmp 16) (.tmp 17) 22 rfl appByte' rfl (Own.nil_ _ w3.heap.size 5) rfl (Src.of_arr HG3.out 32 (by rw [sha_length])) (u8v_one' _) (fun e => by cases e) (by simp) (Nat.le_refl _) ?_
       intro v4 w4 ho hk hat
       have HO := Lib.hid ho
       have HK4 := Lib.hid hk
       clear ho hk hat))
  go_ret
  have hs : w.heap.size ≤ w3.heap.size := Nat.le_trans (HK1.out (Obj.cells cs.toArray 188)).size (Nat.le_trans HK2.out.size HK3.out.size)
  refine ⟨_, rfl, ?_, ?_⟩
  · have h1 := HO.out
    rw [List.nil_append] at h1
    rcases h1.2 with h2 | ⟨g, cap, cur, e1, hb, h3⟩
    · exact ⟨h1.1, .inl h2⟩
    · exact ⟨h1.1, .inr ⟨g, cap, cur, e1, Nat.le_trans hs hb, h3⟩⟩
  · exact (((HK1.out _).trans' HK2.out (fun i hi e => by omega)).trans HK3.out).trans' HK4.out (fun i hi e => by cases e)

theorem spl_all (cur news : List Value) (n : Nat) (hc : cur.length = n) (hn : news.length = n) : spl cur 0 news n = news := by
  unfold spl
  rw [List.take_zero, List.nil_append, List.take_of_length_le (by omega), List.drop_eq_nil_of_le (by omega), List.append_nil]

set_option maxRecDepth 100000 in
set_option maxHeartbeats 4000000 in
theorem sum256_any (v : Value) (p : List UInt8) (w : World) (hv : Byts w v p) (hK : KTab w) (hl : p.length ≤ 4294967000) :
    Calls Tryd.prog 83 #[v] w fun e w' => e = .returned (.agg ((sha p).map u8v).toArray) ∧ Keep w w' := by
  have HV := Lib.hid hv
  have HKT := Lib.hid hK
  have q1 := xs32_all w
  obtain ⟨A, c, rfl, h1, h2, h3, h4⟩ := hv
  clear hK h1 h2 h3 h4
  go_enter Tryd.func83, Tryd.ntmps83
  go_wp2_with fail
  generalize hw1 : World.alloc _ _ = w1
  have HK1 : Hid (Keep w w1) := Lib.hid (by rw [← hw1]; exact (Kp.refl _ _).alloc _)
  have HG2 : Hid (ArrB w1 w.heap.size 122 (List.replicate 32 0)) := Lib.hid (by rw [← hw1]; exact heap_alloc_new _ _)
  obtain ⟨g2, hg2⟩ : ∃ g, g = w.heap.size := ⟨_, rfl⟩
  rw [← hg2] at HG2 ⊢
  have HGN := Lib.hid hg2
  clear hw1 hg2
  go_wp2_with (first
    | (go_at_call 112
       refine (new_any w1).mono ?_
       rintro e w2 ⟨b, x, rfl, hb, hd, hk⟩
       have HB := Lib.hid hb
       have HD := Lib.hid (dg_empty hd)
       have HK2 := Lib.hid hk
       clear hb hd hk)
    | (go_at_call 113
       refine (write_any [] p b _ w2 HD.out (Byts.bys_new (HV.out.keep HK1.out) HK2.out HB.out) ((HKT.out.keep HK1.out (fun x => x)).keep HK2.out (fun x => x)) (by simp; omega)).mono ?_
       rintro e w3 ⟨rfl, hd, hk⟩
       rw [List.nil_append] at hd
       have HD3 := Lib.hid hd
       have HK3 := Lib.hid hk
       clear hd hk))
  generalize hw4 : World.alloc _ _ = w4
  have HK4 : Hid (Keep w3 w4) := Lib.hid (by rw [← hw4]; exact (Kp.refl _ _).alloc _)
  have HG4 : Hid (ArrB w4 w3.heap.size 122 (List.replicate 32 0)) := Lib.hid (by rw [← hw4]; exact heap_alloc_new _ _)
  obtain ⟨g4, hg4⟩ : ∃ g, g = w3.heap.size := ⟨_, rfl⟩
  rw [← hg4] at HG4 ⊢
  have HGN4 := Lib.hid hg4
  have HNB : Hid (g2 < b ∧ b < g4 ∧ w1.heap.size ≤ b ∧ w1.heap.size ≤ g4 ∧ w.heap.size ≤ b ∧ w.heap.size ≤ g4) := Lib.hid (by
    have h1 := HG2.out.lt; have h2 := HB.out; have h3 := HD3.out.lt; have h4 := HK1.out.size; omega)
  have HD4 := Lib.hid (HD3.out.kp HK4.out (fun x => x))
  have HT3 := Lib.hid (((HKT.out.keep HK1.out (fun x => x)).keep HK2.out (fun x => x)).keep HK3.out (fun e => by have h1 := World.block_lt_of_cell? w _ (HKT.out 0 (by decide)); have := HNB.out; simp at h1; omega))
  have HT4 := Lib.hid (HT3.out.keep HK4.out (fun x => x))
  have HR4 := Lib.hid (((HG2.out.kp HK2.out (fun x => x)).kp HK3.out (fun e => by have := HNB.out; omega)).kp HK4.out (fun x => x))
  have HW4 : Hid (Keep w w4) := Lib.hid (((HK1.out.trans HK2.out).trans' HK3.out (fun i hi e => by have := HNB.out; omega)).trans HK4.out)
  clear hw4 hg4 HK1 HK2 HK3 HK4 HG2 HB HD HD3 HT3
  go_region_held3 (fun _ => True) (trivial) (first
    | (go_at_call 114
       refine (dSum_any p b w4.drew (HD4.out.kp ((Kp.refl (fun _ => False) _).drew) (fun x => x)) (HT4.out.keep ((Kp.refl (fun _ => False) _).drew) (fun x => x)) hl).mono ?_
       rintro e w5 ⟨v5, rfl, ho, hk⟩
       obtain ⟨A5, c5, rfl, f1, f2, f3, f4⟩ := ho.form
       have e32 : ((sha p).map u8v).length = 32 := by simp [sha_length]
       rw [e32] at f1
       have HO := Lib.hid ho.bytes'
       have HK5 := Lib.hid hk
       have HG5 := Lib.hid (HG4.out.drew.kp hk (fun x => x))
       have HR5 := Lib.hid (HR4.out.drew.kp hk (fun x => x))
       rw [e32] at HO ⊢
       unfold maxLen at f2
       have HE := Lib.hid e32
       clear ho hk f3 f4 e32)
    | (refine step_cpy rfl (.tmp 9) (.tmp 11) 22 22 rfl Tryd.underlying22 (by kernel_rfl) rfl rfl (g := g4) (off := 0) (cur := (List.replicate 32 0).map u8v) (t := 122) HG5.out (byts_src' HO.out) (u8v_one' _) (fun _ => rfl) (by simp) ?_
       intro w6 hb hk
       rw [show min 32 32 = 32 from rfl, spl_all _ _ 32 (by simp) HE.out] at hb
       have HG6 : Hid (ArrB w6 g4 122 (sha p)) := Lib.hid hb.out
       have HR6 := Lib.hid (HR5.out.kp hk.out (fun e => by have := HNB.out; omega))
       have HK6 := Lib.hid hk.out
       clear hb hk))
  all_goals
    go_wp2_with (first
      | (refine wpList_load_row rfl 122 _ rfl g4 rfl 122 _ (0, 0) _ HG6.out Tryd.underlying122 rfl (by rw [sha_size]; exact info_sum) ?_)
      | (refine wpList_store_row rfl 122 _ _ rfl g2 ((sha p).map u8v).toArray rfl rfl 122 _ HR6.out (by rw [sha_size]; exact info_sum) (by rw [sha_size]; simp) (all_one _) ?_))
    exact bodyPost_ret (v := .agg ((sha p).map u8v).toArray) (results_cell_row Tryd.results83 _ _ g2 122 _ (0, 0) _ rfl (setRow_heap _ g2 _ _ _ _ HR6.out) Tryd.underlying122 rfl (by rw [sha_size]; exact info_sum)) rfl ⟨rfl,
      ((HW4.out.drew.trans HK5.out).trans' HK6.out (fun i hi e => by have := HNB.out; omega)).trans' (T := fun i => i = g2) ⟨rfl, rfl, rfl, by simp, fun i hi hne => setRow_other _ g2 i _ hne⟩ (fun i hi e => by have := HGN.out; omega)⟩

theorem mSum_any (v : Value) (p : List UInt8) (w : World) (hv : Byts w v p) (hK : KTab w) (hl : p.length ≤ 4294967000) :
    Calls Tryd.prog 49 #[v] w fun e w' => ∃ v', e = .returned v' ∧ Nw w.heap.size w' v' (sha p) ∧ Keep w w' := by
  have HS := Lib.hid (sum256_any v p w hv hK hl)
  have q1 := xs32_all w
  clear hv hK
  go_enter Tryd.func49, Tryd.ntmps49
  go_wp2_with (first
    | (go_at_call 83
       refine HS.out.mono ?_
       rintro e w1 ⟨rfl, hk⟩
       have HK := Lib.hid hk
       clear hk)
    | (refine wpList_store_row rfl 122 _ _ rfl w1.heap.size ((sha p).map u8v).toArray rfl rfl 122 _ (heap_alloc_new _ _) (by rw [sha_size]; exact info_sum) (by rw [sha_size]; rfl) (all_one _) ?_
       rw [World.setRow_alloc_new]
       generalize hw3 : World.alloc _ _ = w3
       have HG3 : Hid (ArrB w3 w1.heap.size 122 (sha p)) := Lib.hid (by rw [← hw3]; exact heap_alloc_new _ _)
       have HK3 : Hid (Keep w1 w3) := Lib.hid (by rw [← hw3]; exact (Kp.refl _ _).alloc _)
       clear hw3))
  go_ret
  have h1 := Nw.of_arr HG3.out 32 32 (by rw [sha_length]; exact Nat.le_refl _) (Nat.le_refl _) (by simp [maxLen]) HK.out.size
  rw [List.take_of_length_le (by rw [sha_length]; exact Nat.le_refl _)] at h1
  exact ⟨_, rfl, h1, HK.out.trans HK3.out⟩

theorem mSumT_any (v : Value) (p : List UInt8) (w : World) (hv : Byts w v p) (hK : KTab w) (hl : p.length ≤ 4294967000) :
    Calls Tryd.prog 50 #[v] w fun e w' => ∃ v', e = .returned v' ∧ Nw w.heap.size w' v' ((sha p).take 20) ∧ Keep w w' := by
  have HS := Lib.hid (sum256_any v p w hv hK hl)
  have q1 := xs32_20 w
  clear hv hK
  go_enter Tryd.func50, Tryd.ntmps50
  go_wp2_with (first
    | (go_at_call 83
       refine HS.out.mono ?_
       rintro e w1 ⟨rfl, hk⟩
       have HK := Lib.hid hk
       clear hk)
    | (refine wpList_store_row rfl 122 _ _ rfl w1.heap.size ((sha p).map u8v).toArray rfl rfl 122 _ (heap_alloc_new _ _) (by rw [sha_size]; exact info_sum) (by rw [sha_size]; rfl) (all_one _) ?_
       rw [World.setRow_alloc_new]
       generalize hw3 : World.alloc _ _ = w3
       have HG3 : Hid (ArrB w3 w1.heap.size 122 (sha p)) := Lib.hid (by rw [← hw3]; exact heap_alloc_new _ _)
       have HK3 : Hid (Keep w1 w3) := Lib.hid (by rw [← hw3]; exact (Kp.refl _ _).alloc _)
       clear hw3))
  go_ret
  exact ⟨_, rfl, Nw.of_arr HG3.out 20 32 (by rw [sha_length]; decide) (by decide) (by simp [maxLen]) HK.out.size, HK.out.trans HK3.out⟩

theorem same_any (v1 v2 : Value) (L M : List UInt8) (w : World) (h1 : Byts w v1 L) (h2 : Byts w v2 M) :
    Calls Tryd.prog 18 #[v1, v2] w fun e w' => e = .returned (.bool (L == M)) ∧ w = w' := by
  have H1 := h1
  have H2 := h2
  obtain ⟨A, c, rfl, a1, a2, a3, a4⟩ := h1
  obtain ⟨B, d, rfl, b1, b2, b3, b4⟩ := h2
  have e1 := byts_string (P := Tryd.prog) Tryd.underlying22 Tryd.underlying5 Tryd.underlying9 H1
  have e2 := byts_string (P := Tryd.prog) Tryd.underlying22 Tryd.underlying5 Tryd.underlying9 H2
  clear a1 a2 a3 a4 b1 b2 b3 b4 H1 H2
  go_enter Tryd.func18, Tryd.ntmps18
  go_wp2
  go_ret
  exact ⟨rfl, rfl⟩

theorem iSum_any (v : Value) (p : List UInt8) (w : World) (hv : Byts w v p) (hK : KTab w) (hl : p.length ≤ 4294967000) :
    Calls Tryd.prog 16 #[v] w fun e w' => ∃ v1 v2, e = .returned (.tuple #[v1, v2]) ∧ Byts w' v1 (sha p) ∧ Byts w' v2 ((sha p).take 20) ∧ Keep w w' := by
  have HV := Lib.hid hv
  have HKT := Lib.hid hK
  clear hv hK
  go_enter Tryd.func16, Tryd.ntmps16
  go_wp2_with (first
    | (go_at_call 49
       refine (mSum_any _ p _ HV.out HKT.out hl).mono ?_
       rintro e w1 ⟨v1, rfl, h1, hk1⟩
       have H1 := Lib.hid h1.byts
       have HK1 := Lib.hid hk1
       clear h1 hk1)
    | (go_at_call 50
       refine (mSumT_any _ p _ (HV.out.keep HK1.out) (HKT.out.keep HK1.out (fun x => x)) hl).mono ?_
       rintro e w2 ⟨v2, rfl, h2, hk2⟩
       have H2 := Lib.hid h2.byts
       have HK2 := Lib.hid hk2
       clear h2 hk2))
  go_ret2
  exact ⟨_, _, rfl, H1.out.keep HK2.out, H2.out, HK1.out.trans HK2.out⟩
end Go.Proofs.YtfodkjpjejoemaaDoor
