
/-
  Messages read back: the fields of a proof, the message unmarshalled, the proof checked and handed on.
  Conditions: the slice reads as the proof's message.
-/
import Derived.Test.YtfodkjpjejoemaaGreatDoorMsg6
import Derived.Test.YtfodkjpjejoemaaGreatDoorZi
namespace Go.Proofs.YtfodkjpjejoemaaGreatDoor
open Go Go.RowKit
attribute [local go_sem ↓] Go.wp_at_zero Go.wp_at_succ

def flds (p : Prf) : List Fld :=
  (if asU64 p.total = 0 then [] else [.num 1 (asU64 p.total)]) ++ ((if asU64 p.index = 0 then [] else [.num 2 (asU64 p.index)]) ++ ((if p.leaf = [] then [] else [.byt 3 p.leaf]) ++ p.aunts.map (Fld.byt 4)))
theorem flds_enc (p : Prf) : (flds p).flatMap Fld.enc = msgOf p := by
  unfold flds msgOf fNum
  rw [List.flatMap_append, List.flatMap_append, List.flatMap_append, List.flatMap_map]
  congr 1
  · split <;> simp [Fld.enc]
  · congr 1
    · split <;> simp [Fld.enc]
    · congr 1
      · split <;> simp [Fld.enc]
def stepF (q : Prf) : Fld → Prf
  | .num 1 n => { q with total := IntKind.i64.wrap (n : Int) }
  | .num _ n => { q with index := IntKind.i64.wrap (n : Int) }
  | .byt 3 b => { q with leaf := b }
  | .byt _ b => { q with aunts := q.aunts ++ [b] }
theorem wrap_back (z : Int) (h1 : -9223372036854775808 ≤ z) (h2 : z ≤ 9223372036854775807) : IntKind.i64.wrap (asU64 z : Int) = z := by
  unfold asU64
  simp [IntKind.wrap, IntKind.bits, IntKind.signed]
  omega
theorem fold_aunts (L : List (List UInt8)) (q : Prf) : (L.map (Fld.byt 4)).foldl stepF q = { q with aunts := q.aunts ++ L } := by
  induction L generalizing q with
  | nil => simp
  | cons b L ih => rw [List.map_cons, List.foldl_cons, ih]; simp [stepF]
theorem flds_fold (p : Prf) (h1 : -9223372036854775808 ≤ p.total) (h2 : p.total ≤ 9223372036854775807) (h3 : -9223372036854775808 ≤ p.index) (h4 : p.index ≤ 9223372036854775807) : (flds p).foldl stepF ⟨0, 0, [], []⟩ = p := by
  unfold flds
  rw [List.foldl_append, List.foldl_append, List.foldl_append, fold_aunts]
  have e0 := wrap_back p.total h1 h2
  have e1 := wrap_back p.index h3 h4
  have z0 := asU64_zero p.total h1 h2
  have z1 := asU64_zero p.index h3 h4
  obtain ⟨t, i, l, a⟩ := p
  simp only at *
  by_cases c0 : asU64 t = 0 <;> by_cases c1 : asU64 i = 0 <;> by_cases c2 : l = [] <;> simp_all [stepF]
theorem fold_len (L : List Fld) (q : Prf) : (L.foldl stepF q).aunts.length ≤ q.aunts.length + L.length := by
  induction L generalizing q with
  | nil => simp
  | cons f L ih =>
    rw [List.foldl_cons, List.length_cons]
    have h1 := ih (stepF q f)
    have h2 : (stepF q f).aunts.length ≤ q.aunts.length + 1 := by
      unfold stepF; split <;> simp
    omega
theorem flds_len (p : Prf) : (flds p).length ≤ 3 + p.aunts.length := by
  unfold flds
  rw [List.length_append, List.length_append, List.length_append, List.length_map]
  have a : (if asU64 p.total = 0 then ([] : List Fld) else [.num 1 (asU64 p.total)]).length ≤ 1 := by split <;> simp
  have b : (if asU64 p.index = 0 then ([] : List Fld) else [.num 2 (asU64 p.index)]).length ≤ 1 := by split <;> simp
  have c : (if p.leaf = [] then ([] : List Fld) else [.byt 3 p.leaf]).length ≤ 1 := by split <;> simp
  omega
theorem flds_mem (p : Prf) (f : Fld) (h : f ∈ flds p) : f = .num 1 (asU64 p.total) ∨ f = .num 2 (asU64 p.index) ∨ f = .byt 3 p.leaf ∨ ∃ a ∈ p.aunts, f = .byt 4 a := by
  unfold flds at h
  simp only [List.mem_append, List.mem_map] at h
  rcases h with h | h | h | ⟨a, h, rfl⟩
  · split at h <;> simp at h; exact .inl h
  · split at h <;> simp at h; exact .inr (.inl h)
  · split at h <;> simp at h; exact .inr (.inr (.inl h))
  · exact .inr (.inr (.inr ⟨a, h, rfl⟩))

set_option maxHeartbeats 1000000 in
theorem unmarshal_any (bm B : Nat) (v : Value) (p : Prf) (w : World) (hv : Byp w (fun i => B ≤ i) v (msgOf p)) (hbm : w.heap[bm]? = some (.cells #[.int .i64 0, .int .i64 0, .slice none 0 0, .slice none 0 0] 105 (0, 0))) (hB : B ≤ bm)
    (b1 : -9223372036854775808 ≤ p.total) (b2 : p.total ≤ 9223372036854775807) (b3 : -9223372036854775808 ≤ p.index) (b4 : p.index ≤ 9223372036854775807) (hl : p.leaf.length ≤ 4294967296) (ha : ∀ a ∈ p.aunts, a.length ≤ 4294967296) (hn : p.aunts.length ≤ 1000000000) (hm : (msgOf p).length ≤ 1099511626000) :
    Calls Tryz.prog 70 #[.pointer (some ⟨bm, 0, none⟩), v] w fun e w' => e = .returned .nilIface ∧ (∃ bc, RdAt w' B bm bc p) ∧ Kp (fun i => B ≤ i) w w' := by
  obtain ⟨w1, hw1⟩ : ∃ w1, w1 = w.alloc (.cells #[.pointer (some ⟨bm, 0, none⟩)] 80) := ⟨_, rfl⟩
  obtain ⟨bc, hbc⟩ : ∃ bc, bc = w.heap.size := ⟨_, rfl⟩
  have lb := lt_of_block hbm
  have hk1 : Kp (fun i => B ≤ i) w w1 := by rw [hw1]; exact (Kp.refl _ _).alloc _
  have hv1 := hv.later hk1
  have hr1 : RdAt w1 B bm bc ⟨0, 0, [], []⟩ := by
    refine ⟨.slice none 0 0, .slice none 0 0, [], by rw [hw1, hbc]; exact heap_alloc_new _ _, ?_, Own.nil_ _ _ _, Own.nil_ _ _ _, rfl, fun i h => absurd h (by simp), hB, by omega⟩
    rw [hw1, ← hbm]; exact Below.heap_alloc _ _ _ lb
  have hfin := flds_fold p b1 b2 b3 b4
  have hok : ∀ f ∈ flds p, f.ok := by
    intro f hf
    have u0 := asU64_lt p.total
    have u1 := asU64_lt p.index
    rcases flds_mem p f hf with rfl | rfl | rfl | ⟨a, h, rfl⟩
    · exact ⟨by simp [Fld.tag], by simp [Fld.tag], by simpa [Fld.val] using u0, by simp [Fld.load]⟩
    · exact ⟨by simp [Fld.tag], by simp [Fld.tag], by simpa [Fld.val] using u1, by simp [Fld.load]⟩
    · exact ⟨by simp [Fld.tag], by simp [Fld.tag], by simp [Fld.val]; omega, by simpa [Fld.load] using hl⟩
    · have := ha a h
      exact ⟨by simp [Fld.tag], by simp [Fld.tag], by simp [Fld.val]; omega, by simpa [Fld.load] using this⟩
  have key := wireFields_any (.pointer (some ⟨bc, 0, none⟩)) (flds p) v w1 (fun i => B ≤ i) (fun k wr => RdAt wr B bm bc (((flds p).take k).foldl stepF ⟨0, 0, [], []⟩)) hok (by rw [flds_enc]; exact hv1) (by rw [flds_enc]; omega) (by simpa using hr1) (by
    intro k hk wr x hi hkp hx
    have hlen : (((flds p).take k).foldl stepF ⟨0, 0, [], []⟩).aunts.length ≤ 1099511627 := by
      have h1 := fold_len ((flds p).take k) ⟨0, 0, [], []⟩
      have h2 := flds_len p
      simp at h1
      omega
    rw [List.take_succ_eq_append_getElem hk, List.foldl_append, List.foldl_cons, List.foldl_nil]
    have hmem := flds_mem p _ (List.getElem_mem hk)
    have hok1 := hok _ (List.getElem_mem hk)
    generalize (flds p)[k] = f at *
    generalize ((flds p).take k).foldl stepF ⟨0, 0, [], []⟩ = q at *
    rcases hmem with rfl | rfl | rfl | ⟨a, h, rfl⟩
    · exact clo_num1 B bm bc _ _ q x wr hi (asU64_lt _) rfl
    · exact clo_num2 B bm bc _ _ q x wr hi (asU64_lt _) rfl
    · exact clo_byt3 B bm bc _ q x wr hi hx hl
    · exact clo_byt4 B bm bc _ q x wr hi hx (ha a h) hlen)
  simp only [List.take_length, hfin] at key
  have KEY := Lib.hid key
  have HK1 := Lib.hid hk1
  obtain ⟨A, c, rfl, -, -, -, -⟩ := hv.at_
  have HW1 := Lib.hid hw1
  have HBC := Lib.hid hbc
  clear key hk1 hv hv1 hr1 hok hfin hw1 hbc hbm
  go_enter Tryz.func70, Tryz.ntmps70
  go_wp2_with (go_at_call 68
               rw [← HW1.out, ← HBC.out]
               refine KEY.out.mono ?_
               rintro e w2 ⟨rfl, h2, hk2⟩
               have H2 := Lib.hid h2
               have HK2 := Lib.hid hk2
               clear h2 hk2)
  go_ret
  exact ⟨rfl, ⟨bc, H2.out⟩, HK1.out.trans HK2.out⟩
end Go.Proofs.YtfodkjpjejoemaaGreatDoor

/-
  Messages read back: the proof checked and handed on, ReadMessage.
  Conditions: the slice reads as the proof's message.
-/
namespace Go.Proofs.YtfodkjpjejoemaaGreatDoor
open Go Go.RowKit
attribute [local go_sem ↓] Go.wp_at_zero Go.wp_at_succ

/-- the two slices of a proof, each in blocks of its own from B on -/
def RdV (w : World) (B : Nat) (lv av : Value) (p : Prf) : Prop :=
  ∃ us, Own w B 5 lv (p.leaf.map u8v) ∧ Own w B 24 av us ∧ us.length = p.aunts.length ∧ (∀ i (h : i < us.length) (h' : i < p.aunts.length), Own w B 5 us[i] (p.aunts[i].map u8v))
theorem RdV.keep {w w' : World} {B : Nat} {lv av : Value} {p : Prf} (h : RdV w B lv av p) (k : Keep w w') : RdV w' B lv av p := by
  obtain ⟨us, h1, h2, h3, h4⟩ := h
  exact ⟨us, h1.keep k, h2.keep k, h3, fun i hi hi' => (h4 i hi hi').keep k⟩
theorem RdV.other {w w' : World} {B b : Nat} {cs : Array Value} {lv av : Value} {p : Prf} (h : RdV w B lv av p) (hb : w.heap[b]? = some (.cells cs 36 (0, 0))) (k : Kp (fun i => i = b) w w') : RdV w' B lv av p := by
  obtain ⟨us, h1, h2, h3, h4⟩ := h
  exact ⟨us, h1.kp_type hb (by decide) (fun i _ e => e) k, h2.kp_type hb (by decide) (fun i _ e => e) k, h3, fun i hi hi' => (h4 i hi hi').kp_type hb (by decide) (fun i _ e => e) k⟩
theorem RdV.read {w : World} {B : Nat} {lv av : Value} {p : Prf} (h : RdV w B lv av p) : Byts w lv p.leaf ∧ Mat w av p.aunts := by
  obtain ⟨us, hl, ha, hul, hus⟩ := h
  exact ⟨hl.slc_map u8v (fun _ _ => rfl), ha.slc hul fun i hi hi' => (hus i hi hi').slc_map u8v (fun _ _ => rfl)⟩
theorem RdAt.read {w : World} {B bm bc : Nat} {p : Prf} (h : RdAt w B bm bc p) : ∃ lv av, w.heap[bm]? = some (.cells #[.int .i64 p.total, .int .i64 p.index, lv, av] 105 (0, 0)) ∧ RdV w B lv av p := by
  obtain ⟨lv, av, us, _, hb, hl, ha, hul, hus, _, _⟩ := h
  exact ⟨lv, av, hb, us, hl, ha, hul, hus⟩

set_option maxHeartbeats 1000000 in
theorem fromProto_any (bm : Nat) (p : Prf) (w : World) (lv av : Value) (hb : w.heap[bm]? = some (.cells #[.int .i64 p.total, .int .i64 p.index, lv, av] 105 (0, 0))) (hl : Byts w lv p.leaf) (ha : Mat w av p.aunts)
    (b1 : -9223372036854775808 ≤ p.total) (b2 : p.total ≤ 9223372036854775807) (b3 : -9223372036854775808 ≤ p.index) (b4 : p.index ≤ 9223372036854775807)
    (t0 : TypeId) (x0 : Value) (hg : w.cell? ⟨3, 0, none⟩ = some (.iface t0 x0)) :
    Calls Tryz.prog 59 #[.pointer (some ⟨bm, 0, none⟩)] w fun e w' => (∃ v b', e = .returned (.tuple #[.pointer (some ⟨b', 0, none⟩), v]) ∧ ErrIs (!valid p) v ∧ w'.cell? ⟨b', 0, none⟩ = some (.int .i64 p.total) ∧ w'.cell? ⟨b', 1, none⟩ = some (.int .i64 p.index) ∧ w'.cell? ⟨b', 2, none⟩ = some lv ∧ w'.cell? ⟨b', 3, none⟩ = some av) ∧ Keep w w' := by
  have HV := Lib.hid (show PrfV w (.agg #[.int .i64 p.total, .int .i64 p.index, lv, av]) p from ⟨lv, av, rfl, hl, ha, b1, b2, b3, b4⟩)
  obtain ⟨w5, hw5⟩ : ∃ w5, w5 = w.alloc (.cells #[.int .i64 p.total, .int .i64 p.index, lv, av] 53) := ⟨_, rfl⟩
  have hp5 : PrfAt w5 w.heap.size p := by rw [hw5]; exact PrfV.at_new _ HV.out
  have HC5 := Lib.hid (show w5.cell? ⟨w.heap.size, 0, none⟩ = some (.int .i64 p.total) ∧ w5.cell? ⟨w.heap.size, 1, none⟩ = some (.int .i64 p.index) ∧ w5.cell? ⟨w.heap.size, 2, none⟩ = some lv ∧ w5.cell? ⟨w.heap.size, 3, none⟩ = some av by rw [hw5]; simp)
  have hk5 : Keep w w5 := by rw [hw5]; exact (Kp.refl _ _).alloc _
  have VAL := Lib.hid (validate_any w.heap.size p w5 hp5 t0 x0 (hk5.cell_of hg (fun x => x)))
  have HP5 := Lib.hid hp5
  have HK5 := Lib.hid hk5
  have HW5 := Lib.hid hw5
  have c0 : w.cell? ⟨bm, 0, none⟩ = some (.int .i64 p.total) := by rw [cell_of_row _ _ _ _ _ _ hb]; rfl
  have c1 : w.cell? ⟨bm, 1, none⟩ = some (.int .i64 p.index) := by rw [cell_of_row _ _ _ _ _ _ hb]; rfl
  have c2 : w.cell? ⟨bm, 2, none⟩ = some lv := by rw [cell_of_row _ _ _ _ _ _ hb]; rfl
  have c3 : w.cell? ⟨bm, 3, none⟩ = some av := by rw [cell_of_row _ _ _ _ _ _ hb]; rfl
  have lb := lt_of_block hb
  obtain ⟨A0, d0, rfl, -, -, -, -⟩ := hl
  obtain ⟨A1, d1, rfl, -, -, -, -⟩ := ha
  clear hb hg hp5 hk5 hw5
  go_enter Tryz.func59, Tryz.ntmps59
  go_wp2_with (go_at_call 71
               rw [← HW5.out]
               refine VAL.out.mono ?_
               rintro e w2 ⟨⟨v, rfl, he⟩, hk2⟩
               have HE := Lib.hid he
               have HK2 := Lib.hid hk2
               clear he hk2)
  go_ret2
  exact ⟨⟨v, w.heap.size, rfl, HE.out, HK2.out.cell_of HC5.out.1 (fun x => x), HK2.out.cell_of HC5.out.2.1 (fun x => x), HK2.out.cell_of HC5.out.2.2.1 (fun x => x), HK2.out.cell_of HC5.out.2.2.2 (fun x => x)⟩, HK5.out.trans HK2.out⟩

abbrev zP : Prf := ⟨0, 0, [], []⟩
theorem zP_val (w : World) : PrfV w (.agg #[.int .i64 0, .int .i64 0, .slice none 0 0, .slice none 0 0]) zP := ⟨_, _, rfl, Slc.nil_, Slc.nil_, by simp, by simp, by simp, by simp⟩

end Go.Proofs.YtfodkjpjejoemaaGreatDoor
