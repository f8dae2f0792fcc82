
/-
  The keys of a path: the law FnKeys walked: it answers true.
  Conditions: the table's cells hold its numbers, the library's error variable holds an error.
-/
import Derived.Test.YtfodkjpjejoemaaGreatDoorKey7
import Derived.Test.YtfodkjpjejoemaaGreatDoorZi
import Derived.Test.YtfodkjpjejoemaaGreatDoorZo
namespace Go.Proofs.YtfodkjpjejoemaaGreatDoor
open Go Go.RowKit
attribute [local go_sem ↓] Go.wp_at_zero Go.wp_at_succ

end Go.Proofs.YtfodkjpjejoemaaGreatDoor

/-
  Paths as text in plain Lean: keys escaped or as hexadecimal digits; they are the path's keys again.
  Conditions: none (definitions, and laws on them).
-/
namespace Go.Proofs.YtfodkjpjejoemaaGreatDoor
open Go

/-- a hexadecimal digit, upper case -/
def up (n : Nat) : UInt8 := UInt8.ofNat (if n < 10 then 48 + n else 55 + n)
/-- a byte that a path's segment bears as it is -/
def safeN (n : Nat) : Bool := bits .and .u8 (urlTab.getD n 0) 2 != 0
def safe (c : UInt8) : Bool := safeN c.toNat
def escB (c : UInt8) : List UInt8 := if safe c then [c] else [37, up (c.toNat / 16), up (c.toNat % 16)]
def esc (k : List UInt8) : List UInt8 := k.flatMap escB
def hexB (c : UInt8) : List UInt8 := [up (c.toNat / 16), up (c.toNat % 16)]
def hexU (k : List UInt8) : List UInt8 := k.flatMap hexB
def txt (p : List UInt8 × Bool) : List UInt8 := if p.2 then 120 :: 58 :: hexU p.1 else esc p.1
def pathL (KS : List (List UInt8 × Bool)) : List UInt8 := KS.flatMap fun p => 47 :: txt p

theorem up_fin : ∀ n : Fin 16, dg (up n.val) = n.val ∧ up n.val ≠ 47 ∧ up n.val ≠ 37 := by decide +kernel
theorem up_dg (n : Nat) (h : n < 16) : dg (up n) = n := (up_fin ⟨n, h⟩).1
theorem up_ne (n : Nat) (h : n < 16) : up n ≠ 47 := (up_fin ⟨n, h⟩).2.1
theorem two_up (c : UInt8) : two (up (c.toNat / 16)) (up (c.toNat % 16)) = c := by
  have h := c.toNat_lt
  unfold two
  rw [up_dg _ (by omega), up_dg _ (by omega)]
  have e : (((c.toNat / 16 : Nat) : Int) * 16 + ((c.toNat % 16 : Nat) : Int)).toNat = c.toNat := by omega
  rw [e]; simp
theorem safe_slash : safe 47 = false := by decide +kernel
theorem safe_pct : safe 37 = false := by decide +kernel
theorem safe_colon : safe 58 = true := by decide +kernel
theorem safe_x : safe 120 = true := by decide +kernel

theorem esc_nil : esc [] = [] := rfl
theorem esc_cons (c : UInt8) (k : List UInt8) : esc (c :: k) = escB c ++ esc k := List.flatMap_cons
theorem esc_append (a b : List UInt8) : esc (a ++ b) = esc a ++ esc b := List.flatMap_append
theorem escB_safe (c : UInt8) (h : safe c = true) : escB c = [c] := by unfold escB; rw [if_pos h]
theorem escB_not (c : UInt8) (h : safe c = false) : escB c = [37, up (c.toNat / 16), up (c.toNat % 16)] := by unfold escB; rw [if_neg (by simp [h])]
theorem unesc_esc : ∀ k : List UInt8, unesc (esc k) = some k
  | [] => unesc_nil
  | c :: k => by
    have ih := unesc_esc k
    rw [esc_cons]
    cases hs : safe c with
    | true =>
      rw [escB_safe c hs, List.cons_append, List.nil_append, unesc_plain, ih]
      · rfl
      · intro h; rw [h, safe_pct] at hs; cases hs
    | false =>
      have h := c.toNat_lt
      rw [escB_not c hs, List.cons_append, List.cons_append, List.cons_append, List.nil_append, unesc_two, ih, two_up]
      · rfl
      · rw [up_dg _ (by omega), up_dg _ (by omega)]; omega
theorem hexD_hexU : ∀ k : List UInt8, hexD (hexU k) = some k
  | [] => rfl
  | c :: k => by
    have ih := hexD_hexU k
    have h := c.toNat_lt
    show hexD (up (c.toNat / 16) :: up (c.toNat % 16) :: hexU k) = _
    rw [hexD, if_neg (by rw [up_dg _ (by omega), up_dg _ (by omega)]; omega), ih, two_up]
    rfl
theorem esc_no : ∀ (k : List UInt8), ∀ c ∈ esc k, c ≠ 47 := by
  intro k c hc
  obtain ⟨x, _, hx⟩ := List.mem_flatMap.1 hc
  have h := x.toNat_lt
  cases hs : safe x with
  | true =>
    rw [escB_safe x hs] at hx
    rw [List.mem_singleton.1 hx]
    intro e; rw [e, safe_slash] at hs; cases hs
  | false =>
    rw [escB_not x hs] at hx
    simp only [List.mem_cons, List.not_mem_nil, or_false] at hx
    rcases hx with rfl | rfl | rfl
    · decide
    · exact up_ne _ (by omega)
    · exact up_ne _ (by omega)
theorem hexU_no : ∀ (k : List UInt8), ∀ c ∈ hexU k, c ≠ 47 := by
  intro k c hc
  obtain ⟨x, _, hx⟩ := List.mem_flatMap.1 hc
  have h := x.toNat_lt
  simp only [hexB, List.mem_cons, List.not_mem_nil, or_false] at hx
  rcases hx with rfl | rfl
  · exact up_ne _ (by omega)
  · exact up_ne _ (by omega)
theorem txt_no (p : List UInt8 × Bool) : ∀ c ∈ txt p, c ≠ 47 := by
  intro c hc
  unfold txt at hc
  split at hc
  · simp only [List.mem_cons] at hc
    rcases hc with rfl | rfl | hc
    · decide
    · decide
    · exact hexU_no _ _ hc
  · exact esc_no _ _ hc
theorem prefix_two (a b : UInt8) (t : List UInt8) : Lib.hasPrefix (a :: b :: t) [120, 58] = (a == 120 && b == 58) := by
  unfold Lib.hasPrefix
  simp [List.isPrefixOf]
  rw [Bool.eq_iff_iff]
  simp
  constructor
  · rintro ⟨h1, h2⟩; exact ⟨h1.symm, h2.symm⟩
  · rintro ⟨h1, h2⟩; exact ⟨h1.symm, h2.symm⟩
theorem escB_head (c : UInt8) : ∃ t, (escB c = c :: t ∧ safe c = true) ∨ (escB c = 37 :: t ∧ safe c = false) := by
  cases hs : safe c with
  | true => exact ⟨[], .inl ⟨escB_safe c hs, rfl⟩⟩
  | false => exact ⟨_, .inr ⟨escB_not c hs, rfl⟩⟩
theorem esc_prefix (k : List UInt8) (h : Lib.hasPrefix k [120, 58] = false) : Lib.hasPrefix (esc k) [120, 58] = false := by
  cases hq : Lib.hasPrefix (esc k) [120, 58] with
  | false => rfl
  | true =>
    exfalso
    match k, h, hq with
    | [], _, hq => simp [esc, Lib.hasPrefix] at hq
    | [c], _, hq =>
      obtain ⟨t, ⟨e, hs⟩ | ⟨e, hs⟩⟩ := escB_head c
      · rw [esc_cons, escB_safe c hs] at hq
        simp [esc, Lib.hasPrefix, List.isPrefixOf] at hq
      · rw [esc_cons, escB_not c hs] at hq
        simp [Lib.hasPrefix, List.isPrefixOf] at hq
    | c :: d :: t, h, hq =>
      rw [prefix_two] at h
      rw [esc_cons, esc_cons] at hq
      cases hs : safe c with
      | false =>
        rw [escB_not c hs] at hq
        simp [Lib.hasPrefix, List.isPrefixOf] at hq
      | true =>
        rw [escB_safe c hs] at hq
        cases hs2 : safe d with
        | false =>
          rw [escB_not d hs2] at hq
          simp [Lib.hasPrefix, List.isPrefixOf] at hq
        | true =>
          rw [escB_safe d hs2] at hq
          simp only [List.cons_append, List.nil_append] at hq
          rw [prefix_two, h] at hq
          cases hq
theorem keyOf_txt (p : List UInt8 × Bool) (h : p.2 = false → Lib.hasPrefix p.1 [120, 58] = false) : keyOf (txt p) = some p.1 := by
  unfold keyOf txt
  cases hp : p.2 with
  | true =>
    rw [if_pos (rfl : true = true)]
    have e : Lib.hasPrefix (120 :: 58 :: hexU p.1) [120, 58] = true := by rw [prefix_two]; rfl
    rw [if_pos e]
    exact hexD_hexU p.1
  | false =>
    have e2 : (if (false : Bool) = true then 120 :: 58 :: hexU p.1 else esc p.1) = esc p.1 := if_neg (by simp)
    rw [e2, esc_prefix _ (h hp)]
    exact (if_neg (by simp)).trans (unesc_esc p.1)
theorem segs_path : ∀ (p : List UInt8 × Bool) (r : List (List UInt8 × Bool)), segs (txt p ++ pathL r) = (p :: r).map txt
  | p, [] => by
    show segs (txt p ++ []) = [txt p]
    rw [List.append_nil, segs_one _ (txt_no p)]
  | p, q :: r => by
    have ih := segs_path q r
    show segs (txt p ++ (47 :: txt q ++ pathL r)) = _
    rw [List.cons_append, segs_more _ _ (txt_no p), ih]
    rfl
theorem keysL_txt : ∀ (KS : List (List UInt8 × Bool)), (∀ p ∈ KS, p.2 = false → Lib.hasPrefix p.1 [120, 58] = false) → keysL (KS.map txt) = some (KS.map (·.1))
  | [], _ => rfl
  | p :: r, h => by
    rw [List.map_cons, keysL_cons _ _ _ (keyOf_txt p (h p (by simp))), keysL_txt r (fun q hq => h q (by simp [hq]))]
    rfl
theorem keysOf_path (KS : List (List UInt8 × Bool)) (h0 : KS ≠ []) (h : ∀ p ∈ KS, p.2 = false → Lib.hasPrefix p.1 [120, 58] = false) : keysOf (pathL KS) = some (KS.map (·.1)) := by
  match KS, h0, h with
  | p :: r, _, h =>
    show keysOf (47 :: (txt p ++ pathL r)) = _
    have e : keysOf (47 :: (txt p ++ pathL r)) = keysL (segs (txt p ++ pathL r)) := by simp [keysOf]
    rw [e, segs_path, keysL_txt _ h]
theorem escB_length (c : UInt8) : (escB c).length ≤ 3 ∧ 1 ≤ (escB c).length := by
  unfold escB; split <;> simp
theorem esc_length : ∀ k : List UInt8, (esc k).length ≤ 3 * k.length
  | [] => by simp [esc]
  | c :: k => by
    have := esc_length k
    have := (escB_length c).1
    rw [esc_cons, List.length_append, List.length_cons]; omega
theorem hexU_length : ∀ k : List UInt8, (hexU k).length = 2 * k.length
  | [] => rfl
  | c :: k => by
    have := hexU_length k
    show (up _ :: up _ :: hexU k).length = _
    simp; omega
theorem txt_length (p : List UInt8 × Bool) : (txt p).length ≤ 3 * p.1.length + 2 := by
  unfold txt
  split
  · have := hexU_length p.1; simp; omega
  · have := esc_length p.1; omega
end Go.Proofs.YtfodkjpjejoemaaGreatDoor

/-
  Paths as text: bytes that are escaped, hexadecimal digits.
  Conditions: the table's cells hold its numbers; the lengths are bounded.
-/
namespace Go.Proofs.YtfodkjpjejoemaaGreatDoor
open Go Go.RowKit
attribute [local go_sem ↓] Go.wp_at_zero Go.wp_at_succ

theorem shouldEscape_any (n : Nat) (w : World) (hn : n < 256) (ht : UTab w) :
    Calls Tryz.prog 67 #[.int .u8 (n : Int), .int .u8 2] w fun e w' => e = .returned (.bool (!safeN n)) ∧ w = w' := by
  have hc := ht n hn
  have hs : safeN n = (bits .and .u8 (urlTab.getD n 0) 2 != 0) := rfl
  rw [hs]
  obtain ⟨t, hT⟩ : ∃ t, t = urlTab.getD n 0 := ⟨_, rfl⟩
  rw [← hT] at hc ⊢
  obtain ⟨r, hr⟩ : ∃ r, r = bits .and .u8 t 2 := ⟨_, rfl⟩
  rw [← hr]
  have hr2 := hr.symm
  clear hT ht hs hr
  go_enter Tryz.func67, Tryz.ntmps67
  go_wp2
  go_ret
  exact ⟨ret_b (by simp [bne]), rfl⟩

def upS : ByteArray := { data := #[48, 49, 50, 51, 52, 53, 54, 55, 56, 57, 65, 66, 67, 68, 69, 70] }
theorem upS_fin : ∀ n : Fin 16, upS[n.val]'(show n.val < upS.size by have := n.isLt; exact this) = up n.val := by decide +kernel
theorem hex_at (n : Nat) (h : n < 16) (w : World) : (Instr.index 9 (.string { data := #[48, 49, 50, 51, 52, 53, 54, 55, 56, 57, 65, 66, 67, 68, 69, 70] }) (.int .u8 (n : Int))).run Tryz.prog w = .ok (.int .u8 ((up n).toNat : Int)) w := by
  have hz : upS.size = 16 := by decide
  have e := run_index_string (P := Tryz.prog) w 9 upS .u8 n Tryz.underlying9
  rw [dif_pos ⟨by omega, by rw [hz]; omega⟩] at e
  simp only [Int.toNat_natCast] at e
  rw [show upS[n]'(by rw [hz]; exact h) = up n from upS_fin ⟨n, h⟩] at e
  exact e

theorem makeB0 (n : Nat) (h : n ≤ 1099511627777) (w : World) : (Instr.makeSlice 24 (.int .i64 0) (.int .i64 (n : Int))).run Tryz.prog w = .ok (.slice (some ⟨w.heap.size, 0, none⟩) 0 n) (w.alloc (.cells (List.replicate n (u8v 0)).toArray 5)) := by
  obtain ⟨i0, hi, hz0, hz1, hz2⟩ := info_parts infoU8
  have hr := run_make (P := Tryz.prog) w 24 5 i0 (.int .u8 0) Tryz.underlying24 hi hz0 .i64 .i64 0 n (by omega) (by omega) (by rw [hz2]; omega) (by omega)
  rw [hr, hz1]
  have : madeCells (Value.int .u8 0).cells ((n : Int).toNat * 1) = (List.replicate n (u8v 0)).toArray := by
    unfold madeCells
    apply Array.ext
    · simp
    · intro j h1 h2
      simp [Nat.mod_one, Value.cells]
  rw [this]
  simp
theorem makeB (n : Nat) (h : n ≤ 1099511627777) (w : World) : (Instr.makeSlice 24 (.int .i64 (n : Int)) (.int .i64 (n : Int))).run Tryz.prog w = .ok (.slice (some ⟨w.heap.size, 0, none⟩) n n) (w.alloc (.cells (List.replicate n (u8v 0)).toArray 5)) := by
  obtain ⟨i0, hi, hz0, hz1, hz2⟩ := info_parts infoU8
  exact run_make_row1 24 5 i0 (.int .u8 0) Tryz.underlying24 hi hz0 hz1 rfl n n n rfl rfl (by rw [hz2]; omega) (by omega) w
theorem Own.room (w : World) (n : Nat) (h : n ≤ maxLen) : Own (w.alloc (.cells (List.replicate n (u8v 0)).toArray 5)) w.heap.size 5 (.slice (some ⟨w.heap.size, 0, none⟩) 0 n) [] :=
  ⟨by simp, .inr ⟨w.heap.size, n, _, rfl, Nat.le_refl _, heap_alloc_new _ _, Nat.zero_le _, h, by simp, by simp⟩⟩
theorem hexU_snoc (k : List UInt8) (c : UInt8) : hexU (k ++ [c]) = hexU k ++ [up (c.toNat / 16), up (c.toNat % 16)] := by
  unfold hexU; rw [List.flatMap_append]; simp [hexB]
theorem and_15 (C : Nat) (h : C < 256) : bits .and .u8 (C : Int) 15 = ((C % 16 : Nat) : Int) := by
  have h16 : ∀ n : Fin 256, bits .and .u8 (n.val : Int) 15 = ((n.val % 16 : Nat) : Int) := by decide +kernel
  exact h16 ⟨C, h⟩

set_option maxRecDepth 100000 in
set_option maxHeartbeats 2000000 in
theorem hexUpper_any (v : Value) (k : List UInt8) (w : World) (hv : Byts w v k) (hk : k.length ≤ 1073741824) :
    Calls Tryz.prog 45 #[v] w fun e w' => e = .returned (strV (hexU k)) ∧ Keep w w' := by
  have HV := Lib.hid hv
  obtain ⟨A, c, rfl, h1, h2, h3, h4⟩ := hv
  obtain ⟨n, hn⟩ : ∃ n, n = k.length := ⟨_, rfl⟩
  have HN := Lib.hid hn
  obtain ⟨N2, hN2⟩ : ∃ N2, N2 = 2 * n := ⟨_, rfl⟩
  have h2n : 2 * (n : Int) = (N2 : Int) := by omega
  rw [← hn] at h1 hk ⊢
  have hmk := makeB0 N2 (by omega)
  have hN2b : N2 ≤ 2147483648 := by omega
  have hroom := Own.room w N2 (by unfold maxLen; omega)
  have HRM := Lib.hid hroom
  have H4 := Lib.hid h4
  unfold maxLen at h2
  clear h3 h4 hn hN2 hroom
  go_enter Tryz.func45, Tryz.ntmps45
  go_wp2_with fail
  go_loopw [3, 12] (fun ov iv wr => ∃ i : Nat, i ≤ n ∧ iv = .int .i64 i ∧ Own wr w.heap.size 5 ov ((hexU (k.take i)).map u8v) ∧ Keep w wr) (fun _ iv _ => n - (intOf iv).toNat)
  case atStart => exact ⟨0, Nat.zero_le _, rfl, HRM.out, (Kp.refl _ _).alloc _⟩
  case round =>
    obtain ⟨i, hi, rfl, hown, hkp⟩ := hrel
    have HW := Lib.hid hown
    have HKP := Lib.hid hkp
    have HWF := Lib.hid hown.form
    obtain ⟨A2, c2, rfl, f1, f2, f3, f4⟩ := hown.form
    have hll : ((hexU (k.take i)).map u8v).length = 2 * i := by rw [List.length_map, hexU_length, List.length_take, ← HN.out]; omega
    have HLL := Lib.hid hll
    rw [hll] at f1 HW ⊢
    unfold maxLen at f2
    clear hown hkp f3 f4 hll HRM HWF
    by_cases hlt : i < n
    · obtain ⟨g, off, rfl, hc⟩ := H4.out (by rw [← HN.out]; omega)
      obtain ⟨u, hu, hur⟩ := hc i (by rw [← HN.out]; exact hlt)
      have hu2 := HKP.out.cell_of hu (fun x => x)
      obtain ⟨x, hx⟩ : ∃ x, x = k[i]'(by rw [← HN.out]; exact hlt) := ⟨_, rfl⟩
      rw [← hx] at hur
      have hur' : u = .int .u8 (x.toNat : Int) := hur
      subst hur'
      have hxl := x.toNat_lt
      have hsn : hexU (k.take (i + 1)) = hexU (k.take i) ++ [up (x.toNat / 16), up (x.toNat % 16)] := by
        rw [take_snoc k i (by rw [← HN.out]; exact hlt), hexU_snoc, ← hx]
      obtain ⟨C, hC⟩ : ∃ C, C = x.toNat := ⟨_, rfl⟩
      rw [← hC] at hu2 hxl hsn
      have HSN := Lib.hid hsn
      have ha := and_15 C hxl
      obtain ⟨D1, hD1⟩ : ∃ D, D = C / 16 := ⟨_, rfl⟩
      obtain ⟨D2, hD2⟩ : ∃ D, D = C % 16 := ⟨_, rfl⟩
      have hi1 := hex_at D1 (by omega)
      have hi2 := hex_at D2 (by omega)
      have hsh : (C : Int) / 16 = (D1 : Int) := by omega
      rw [← hD2] at ha
      rw [← hD1, ← hD2] at HSN
      clear hc hu hur hx hsn hC hD1 hD2
      go_wp2_with fail
      go_region_held3 (fun _ => True) (trivial) (first
        | (refine step_app rfl (.tmp 16) (.tmp 23) 24 rfl appB rfl (HW.out.drew.alloc _) rfl (news := [up D1, up D2].map u8v) ⟨rfl, fun _ => ⟨_, rfl, fun j u hj => by
             match j, hj with
             | 0, hj => simp at hj; subst hj; simp [Addr.add]
             | 1, hj => simp at hj; subst hj; simp [Addr.add]
             | j + 2, hj => simp at hj⟩⟩ (one1 _) (fun e => by cases e) (by rw [HLL.out]; omega) (by have := HKP.out.size; simp; omega) ?_
           intro v2 w2 h2 hk2 _
           have HO2 := Lib.hid h2
           have HK2 := Lib.hid hk2
           clear h2 hk2))
      all_goals
        go_wp2_with fail
        go_roundw
        case rel =>
          refine ⟨i + 1, hlt, by go_num, ?_, (HKP.out.drew.alloc _).trans' HK2.out (fun j hj e => by have := (HW.out.lt j e.symm).1; omega)⟩
          have h6 := HO2.out
          rw [← List.map_append, ← HSN.out] at h6
          exact h6
        case measure => simp [intOf]; omega
    · obtain rfl : i = n := by omega
      have hfull : k.take i = k := List.take_of_length_le (by rw [← HN.out]; exact Nat.le_refl _)
      have hby : Byts wr (.slice A2 (2 * i) c2) (hexU k) := by
        have h6 := HW.out.slc_map (R := U8) u8v (fun _ _ => rfl)
        rw [hfull] at h6
        exact h6
      have hst := byts_string (P := Tryz.prog) Tryz.underlying24 Tryz.underlying5 Tryz.underlying9 hby
      clear hfull hby
      go_wp2_with fail
      go_ret
      exact ⟨rfl, HKP.out⟩
end Go.Proofs.YtfodkjpjejoemaaGreatDoor

/-
  Paths as text: a segment escaped, walked.
  Conditions: the table's cells hold its numbers; the length is bounded.
-/
namespace Go.Proofs.YtfodkjpjejoemaaGreatDoor
open Go Go.RowKit
attribute [local go_sem ↓] Go.wp_at_zero Go.wp_at_succ

def cvC (s : ByteArray) (w : World) : Nat := grownCap w s.size 0 5
def cvW (s : ByteArray) (w : World) : World := w.drew.alloc (.cells (bytesRow s (cvC s w)) 5 ((bytesRow s (cvC s w)).size, (bytesRow s (cvC s w)).size + 1))
theorem cv_run (s : ByteArray) (w : World) : (convert 9 24 (.string s)).run Tryz.prog w = .ok (.slice (some ⟨w.heap.size, 0, none⟩) s.size (cvC s w)) (cvW s w) :=
  run_bytes_of_string w _ _ _ s Tryz.underlying9 Tryz.underlying24 Tryz.underlying5
theorem cv_keep (s : ByteArray) (w : World) : Keep w (cvW s w) := (Kp.refl _ _).drew.alloc _
theorem cv_size (s : ByteArray) (w : World) : (cvW s w).heap.size = w.heap.size + 1 := by unfold cvW; simp
theorem cv_byp (s : ByteArray) (w : World) (hs : s.size ≤ 1099511627776) (S : Nat → Prop) (hS : ¬ S w.heap.size) : Byp (cvW s w) S (.slice (some ⟨w.heap.size, 0, none⟩) s.size (cvC s w)) s.data.toList := by
  obtain ⟨A, c, w4, hr, hk, hb⟩ := bytes_of s w hs
  rw [cv_run] at hr
  simp only [Result.ok.injEq, Value.slice.injEq] at hr
  obtain ⟨⟨rfl, _, rfl⟩, rfl⟩ := hr
  exact hb S hS
theorem xs64_to (t : Nat) (ht : t ≤ 64) : ∀ (b : Nat) (w : World), (Instr.sliceAt 145 (.pointer (some ⟨b, 0, none⟩)) none (some (.int .i64 (t : Int))) none).run Tryz.prog w = .ok (.slice (some ⟨b, 0, none⟩) t 64) w := by
  intro b w
  have hl : Tryz.prog.arrayLen 145 = 64 := by kernel_rfl
  have he : Tryz.prog.elem 145 = 5 := by kernel_rfl
  rw [run_sliceAt_array_h (P := Tryz.prog) w 145 _ (by rw [hl, he]; exact Tryz.underlying145) .i64 _ (by omega) (by rw [hl]; omega), hl, he, szB]
  simp [Result.andThen, slicedAt, Addr.add]
theorem row_set {w : World} {g : Nat} {T : TypeId} {cur : List Value} (h : w.heap[g]? = some (.cells cur.toArray T (0, 0))) (k : Nat) (v : Value) : (w.setCell ⟨g, k, none⟩ v).heap[g]? = some (.cells (cur.set k v).toArray T (0, 0)) := by
  rw [heap_setCell_same _ _ _ _ _ _ h]
  simp
theorem row_at {w : World} {g : Nat} {T : TypeId} {cur : List Value} (h : w.heap[g]? = some (.cells cur.toArray T (0, 0))) (k : Nat) (hk : k < cur.length) : w.cell? ⟨g, k, none⟩ = some cur[k] ∧ w.frozen? ⟨g, k, none⟩ = false := by
  refine ⟨?_, frozen_of_row _ _ _ _ _ h⟩
  rw [cell_of_row _ _ _ _ _ _ h]
  simp [hk]
theorem take_set (cur : List Value) (J : Nat) (v : Value) (h : J < cur.length) : (cur.set J v).take (J + 1) = cur.take J ++ [v] := by
  rw [take_snoc (cur.set J v) J (by simpa using h), List.take_set]
  congr 1
  · exact List.set_eq_of_length_le (by rw [List.length_take]; omega)
  · simp
theorem esc_take_le (L : List UInt8) (i : Nat) : (esc (L.take i)).length ≤ (esc L).length := by
  conv => rhs; rw [← List.take_append_drop i L]
  rw [esc_append, List.length_append]; omega
theorem safe_space : safeN 32 = false := by decide +kernel

set_option maxRecDepth 100000 in
set_option maxHeartbeats 8000000 in
theorem escape_any (s : ByteArray) (w : World) (ht : UTab w) (hs : s.size ≤ 1073741824) :
    Calls Tryz.prog 56 #[.string s, .int .u8 2] w fun e w' => e = .returned (strV (esc s.data.toList)) ∧ Keep w w' := by
  obtain ⟨L, hL⟩ : ∃ L, L = s.data.toList := ⟨_, rfl⟩
  obtain ⟨N, hN⟩ : ∃ N, N = s.size := ⟨_, rfl⟩
  have hNL : N = L.length := by rw [hL, hN, size_data]
  have hcv := cv_run s
  have HCV1 := Lib.hid (cv_byp s w (by omega) (fun _ => False) (fun x => x))
  have HT1 := Lib.hid (ht.keep (cv_keep s w))
  have HK1 := Lib.hid (cv_keep s w)
  have HCV := Lib.hid (fun (wx : World) (S : Nat → Prop) (hS : ¬ S wx.heap.size) => cv_byp s wx (by omega) S hS)
  rw [← hL] at HCV1 HCV ⊢
  have HSL : Hid (Value.string s = strV L) := Lib.hid (by rw [hL]; exact strV_data s)
  have HNL := Lib.hid hNL
  have HT := Lib.hid ht
  rw [← hN] at hs
  have hsz : s.size = N := hN.symm
  rw [hsz] at HCV1 HCV hcv
  clear hL hN ht hNL
  go_enter Tryz.func56, Tryz.ntmps56
  go_wp2_with fail
  obtain ⟨w1, hw1⟩ : ∃ w1, w1 = cvW s w := ⟨_, rfl⟩
  rw [← hw1] at HCV1 HT1 HK1 ⊢
  have HW1 := Lib.hid hw1
  clear hw1
  go_loopw [5, 6, 19] (fun sv hv iv wr => ∃ i h : Nat, i ≤ N ∧ sv = .int .i64 0 ∧ hv = .int .i64 h ∧ iv = .int .i64 i ∧ (esc (L.take i)).length = i + 2 * h ∧ (h = 0 → esc (L.take i) = L.take i) ∧ w1 = wr) (fun _ _ iv _ => N - (intOf iv).toNat)
  case atStart => exact ⟨0, 0, Nat.zero_le _, rfl, rfl, rfl, by simp [esc], fun _ => by simp [esc], rfl⟩
  case round =>
    obtain ⟨i, h, hi, rfl, rfl, rfl, hel, he0, rfl⟩ := hrel
    have HEL := Lib.hid hel
    have HE0 := Lib.hid he0
    have hhi : h ≤ i := by have := esc_length (L.take i); rw [hel, List.length_take] at this; omega
    clear hel he0
    by_cases hlt : i < N
    · have hil : i < L.length := by rw [← HNL.out]; exact hlt
      obtain ⟨hm1, _, _, _, hm5⟩ := HCV1.out.at_.of_eq
      obtain ⟨g, off, hA, hc⟩ := hm5 (by omega)
      obtain ⟨u, hu, hur⟩ := hc i hil
      have hur' : u = .int .u8 (L[i].toNat : Int) := hur
      subst hur'
      simp only [Option.some.injEq, Addr.mk.injEq] at hA
      obtain ⟨rfl, rfl, -⟩ := hA
      rw [Nat.zero_add] at hu
      have hsn : esc (L.take (i + 1)) = esc (L.take i) ++ escB L[i] := by
        rw [take_snoc L i hil, esc_append]; simp [esc]
      have hts := take_snoc L i hil
      obtain ⟨c, hcc⟩ : ∃ c, c = L[i] := ⟨_, rfl⟩
      rw [← hcc] at hu hsn hts
      have hcl := c.toNat_lt
      have HSN := Lib.hid hsn
      have HTS := Lib.hid hts
      have HSE := Lib.hid (fun (wx : World) (hx : UTab wx) => shouldEscape_any c.toNat wx hcl hx)
      have hsafe : safe c = safeN c.toNat := rfl
      clear hm1 hm5 hc hur hsn hts hcc hil
      cases hq : safeN c.toNat with
      | true =>
        rw [hq] at HSE hsafe
        have HSF := Lib.hid hsafe
        clear hsafe hq
        go_wp2_with (go_at_call 67
                     refine (HSE.out _ HT1.out).mono ?_
                     rintro e w2 ⟨rfl, rfl⟩)
        go_roundw
        case rel => exact ⟨i + 1, h, hlt, rfl, rfl, by go_num, by rw [HSN.out, List.length_append, HEL.out, escB_safe c HSF.out]; simp; omega, fun h0 => by rw [HSN.out, HTS.out, HE0.out h0, escB_safe c HSF.out], by first | rfl | trivial⟩
        case measure => simp [intOf]; omega
      | false =>
        rw [hq] at HSE hsafe
        have HSF := Lib.hid hsafe
        clear hsafe hq
        by_cases h32 : c.toNat = 32
        · rw [h32] at hu HSE
          clear h32 hcl
          go_wp2_with (go_at_call 67
                       refine (HSE.out _ HT1.out).mono ?_
                       rintro e w2 ⟨rfl, rfl⟩)
          go_roundw
          case rel => exact ⟨i + 1, h + 1, hlt, rfl, by go_num, by go_num, by rw [HSN.out, List.length_append, HEL.out, escB_not c HSF.out]; simp; omega, fun h0 => by omega, by first | rfl | trivial⟩
          case measure => simp [intOf]; omega
        · have h32' : ((c.toNat : Int) == 32) = false := by rw [beq_eq_false_iff_ne]; omega
          clear h32
          go_wp2_with (go_at_call 67
                       refine (HSE.out _ HT1.out).mono ?_
                       rintro e w2 ⟨rfl, rfl⟩)
          go_roundw
          case rel => exact ⟨i + 1, h + 1, hlt, rfl, by go_num, by go_num, by rw [HSN.out, List.length_append, HEL.out, escB_not c HSF.out]; simp; omega, fun h0 => by omega, by first | rfl | trivial⟩
          case measure => simp [intOf]; omega
    · obtain rfl : i = N := by omega
      have hfull : L.take i = L := List.take_of_length_le (by rw [← HNL.out]; exact Nat.le_refl _)
      rw [hfull] at HEL HE0
      by_cases h0 : h = 0
      · subst h0
        have heq := HE0.out rfl
        have HEQ := Lib.hid heq
        clear heq hfull
        go_wp2_with fail
        go_ret
        rw [HEQ.out]
        exact ⟨by rw [← HSL.out]; rfl, HK1.out⟩
      · have h0' : ((h : Int) == 0) = false := by rw [beq_eq_false_iff_ne]; omega
        obtain ⟨R, hR⟩ : ∃ R, R = i + 2 * h := ⟨_, rfl⟩
        have hRi : (i : Int) + 2 * (h : Int) = (R : Int) := by omega
        have hRb : R ≤ 4294967296 := by omega
        have HRL : Hid ((esc L).length = R) := Lib.hid (by rw [HEL.out, hR])
        have hmk := makeB R (by omega)
        have hgT : 1 < w.heap.size := World.block_lt_of_cell? w _ (HT.out 0 (by omega))
        have hw1s := HK1.out.size
        clear hfull h0 hR HE0 HEL hhi HCV1 HT1
        by_cases h64 : R ≤ 64
        · have h64i : (R : Int) ≤ 64 := by omega
          have hxs := xs64_to R h64
          go_wp2_with fail
          generalize hwA : w1.alloc _ = wX
          obtain ⟨g, hg⟩ : ∃ g, g = w1.heap.size := ⟨_, rfl⟩
          have hrow : wX.heap[g]? = some (.cells (List.replicate 64 (u8v 0)).toArray 145 (0, 0)) := by
            rw [← hwA, hg, heap_alloc_new]; rfl
          have hgX : g < wX.heap.size := lt_of_block hrow
          have hkX : Keep w wX := by rw [← hwA]; exact HK1.out.alloc _
          rw [← hg]
          have hwg : w.heap.size ≤ g := by omega
          have hXs : wX.heap.size = g + 1 := by rw [← hwA, hg]; simp
          have HXS := Lib.hid hXs
          clear hXs
          have HROW := Lib.hid hrow
          have HKX := Lib.hid hkX
          have hcap : R ≤ 64 := h64
          clear hwA hg hrow hkX hxs h64
          go_loopw [13, 78] (fun jv iv wr => ∃ (q : Nat) (cur : List Value), q ≤ i ∧ jv = .int .i64 ((esc (L.take q)).length : Nat) ∧ iv = .int .i64 q ∧ wr.heap[g]? = some (.cells cur.toArray 145 (0, 0)) ∧ cur.length = 64 ∧ cur.take (esc (L.take q)).length = (esc (L.take q)).map u8v ∧ Kp (fun m => m = g) (cvW s wX) wr) (fun _ iv _ => i - (intOf iv).toNat)
          case atStart => exact ⟨0, _, Nat.zero_le _, rfl, rfl, ((cv_keep s wX).block g hgX (fun x => x)).trans HROW.out, by simp, by simp [esc], Kp.refl _ _⟩
          case round =>
            obtain ⟨q, cur, hq, rfl, rfl, hrw, hcl, htk, hkp⟩ := hrel
            have HRW := Lib.hid hrw
            have HCL := Lib.hid hcl
            have HTK := Lib.hid htk
            have HKP := Lib.hid hkp
            have hbyw := HCV.out wX (fun m => m = g) (by omega) wr hkp
            have htw : UTab wr := (HT.out.keep (HKX.out.trans (cv_keep s wX))).kpS hkp (by omega)
            have HTW := Lib.hid htw
            have hgw : g < wr.heap.size := lt_of_block hrw
            have hle := esc_take_le L (q + 1)
            rw [HRL.out] at hle
            obtain ⟨J, hJ⟩ : ∃ J, J = (esc (L.take q)).length := ⟨_, rfl⟩
            rw [← hJ] at HTK ⊢
            have HJ := Lib.hid hJ
            clear hrw hcl htk hkp htw hJ HROW
            by_cases hlt : q < i
            · have hil : q < L.length := by rw [← HNL.out]; exact hlt
              have hm5 := hbyw.of_eq.2.2.2.2
              obtain ⟨g2, off, hA, hc⟩ := hm5 (by omega)
              obtain ⟨u, hu, hur⟩ := hc q hil
              have hur' : u = .int .u8 (L[q].toNat : Int) := hur
              subst hur'
              simp only [Option.some.injEq, Addr.mk.injEq] at hA
              obtain ⟨rfl, rfl, -⟩ := hA
              rw [Nat.zero_add, HXS.out] at hu
              have hsn : esc (L.take (q + 1)) = esc (L.take q) ++ escB L[q] := by
                rw [take_snoc L q hil, esc_append]; simp [esc]
              obtain ⟨c, hcc⟩ : ∃ c, c = L[q] := ⟨_, rfl⟩
              rw [← hcc] at hu hsn
              have hcl := c.toNat_lt
              have HSN := Lib.hid hsn
              have HSE := Lib.hid (fun (wx : World) (hx : UTab wx) => shouldEscape_any c.toNat wx hcl hx)
              have hsafe : safe c = safeN c.toNat := rfl
              rw [hsn, List.length_append, ← HJ.out] at hle
              clear hm5 hc hur hsn hcc hil hbyw
              cases hqs : safeN c.toNat with
              | true =>
                rw [hqs] at HSE hsafe
                have hesc := escB_safe c hsafe
                rw [hesc] at hle
                simp only [List.length_cons, List.length_nil] at hle
                have HESC := Lib.hid hesc
                have hr0 := row_at HRW.out J (by rw [HCL.out]; omega)
                have hc0 := hr0.1
                have hf0 := hr0.2
                have hJ1 : (J : Int) < (R : Int) := by omega
                have h32 : ((c.toNat : Int) == 32) = false := by
                  rw [beq_eq_false_iff_ne]; intro h9
                  have h8 : c.toNat = 32 := by omega
                  rw [h8, safe_space] at hqs; cases hqs
                clear hsafe hqs hesc hr0
                go_wp2_with (go_at_call 67
                             refine (HSE.out _ HTW.out).mono ?_
                             rintro e w2 ⟨rfl, rfl⟩)
                go_roundw
                case rel =>
                  have hl1 : (esc (L.take (q + 1))).length = J + 1 := by rw [HSN.out, HESC.out, List.length_append, ← HJ.out]; rfl
                  refine ⟨q + 1, cur.set J (u8v c), hlt, by rw [hl1]; go_num, by go_num, row_set HRW.out J _, by simp [HCL.out], ?_, HKP.out.setCell (fun _ => rfl) _⟩
                  rw [hl1, take_set cur J _ (by rw [HCL.out]; omega), HTK.out, HSN.out, HESC.out, List.map_append]; rfl
                case measure => simp [intOf]; omega
              | false =>
                rw [hqs] at HSE hsafe
                have hesc := escB_not c hsafe
                rw [hesc] at hle
                simp only [List.length_cons, List.length_nil] at hle
                obtain ⟨D1, hD1⟩ : ∃ D, D = c.toNat / 16 := ⟨_, rfl⟩
                obtain ⟨D2, hD2⟩ : ∃ D, D = c.toNat % 16 := ⟨_, rfl⟩
                have hsh : (c.toNat : Int) / 16 = (D1 : Int) := by omega
                have hand := and_15 c.toNat hcl
                rw [← hD2] at hand hesc
                rw [← hD1] at hesc
                have hi1 := hex_at D1 (by omega)
                have hi2 := hex_at D2 (by omega)
                have HESC := Lib.hid hesc
                have hr0 := row_at HRW.out J (by rw [HCL.out]; omega)
                have hr1 := row_at HRW.out (J + 1) (by rw [HCL.out]; omega)
                have hr2 := row_at HRW.out (J + 2) (by rw [HCL.out]; omega)
                have hc0 := hr0.1
                have hf0 := hr0.2
                have hc1 := hr1.1
                have hf1 := hr1.2
                have hc2 := hr2.1
                have hf2 := hr2.2
                have hJ1 : (J : Int) < (R : Int) := by omega
                have hJ2 : (J : Int) + 1 < (R : Int) := by omega
                have hJ3 : (J : Int) + 2 < (R : Int) := by omega
                clear hsafe hqs hesc hr0 hr1 hr2 hD1 hD2
                cases h32 : ((c.toNat : Int) == 32)
                all_goals
                  go_wp2_with (go_at_call 67
                               refine (HSE.out _ HTW.out).mono ?_
                               rintro e w2 ⟨rfl, rfl⟩)
                  go_roundw
                  case rel =>
                    have hl1 : (esc (L.take (q + 1))).length = J + 3 := by rw [HSN.out, HESC.out, List.length_append, ← HJ.out]; rfl
                    refine ⟨q + 1, ((cur.set J (u8v 37)).set (J + 1) (u8v (up D1))).set (J + 2) (u8v (up D2)), hlt, by rw [hl1]; go_num, by go_num, row_set (row_set (row_set HRW.out J _) (J + 1) _) (J + 2) _, by simp [HCL.out], ?_, ((HKP.out.setCell (fun _ => rfl) _).setCell (fun _ => rfl) _).setCell (fun _ => rfl) _⟩
                    have hcl2 := HCL.out
                    rw [hl1, show J + 3 = J + 2 + 1 from rfl, take_set _ (J + 2) _ (by simp; omega), show J + 2 = J + 1 + 1 from rfl, take_set _ (J + 1) _ (by simp; omega), take_set _ J _ (by omega), HTK.out, HSN.out, HESC.out, List.map_append, List.append_assoc, List.append_assoc]; rfl
                  case measure => simp [intOf]; omega
            · obtain rfl : q = i := by omega
              have hfull : L.take q = L := List.take_of_length_le (by rw [← HNL.out]; exact Nat.le_refl _)
              have hJR : J = R := by rw [HJ.out, hfull, HRL.out]
              have htk2 := HTK.out
              rw [hfull, hJR] at htk2
              have hby : Byts wr (.slice (some ⟨g, 0, none⟩) R 64) (esc L) := by
                have hl := HRL.out
                refine ⟨_, 64, by rw [hl], by rw [hl]; exact hcap, by unfold maxLen; omega, (fun e => by cases e), fun _ => ⟨g, 0, rfl, fun m hm => ⟨u8v (esc L)[m], ?_, rfl⟩⟩⟩
                have hmc : m < cur.length := by rw [HCL.out]; omega
                rw [Nat.zero_add, (row_at HRW.out m hmc).1]
                have h1 : (cur.take R)[m]? = ((esc L).map u8v)[m]? := by rw [htk2]
                rw [List.getElem?_take_of_lt (by omega), List.getElem?_eq_getElem hmc, List.getElem?_map, List.getElem?_eq_getElem hm] at h1
                simpa using h1
              have hst := byts_string (P := Tryz.prog) Tryz.underlying24 Tryz.underlying5 Tryz.underlying9 hby
              clear hfull hJR htk2 hby hbyw hle
              go_wp2_with fail
              go_ret
              exact ⟨rfl, (HKX.out.trans (cv_keep s wX)).trans' HKP.out fun j hj e => by subst e; omega⟩
        · have h64i : ¬ (R : Int) ≤ 64 := by omega
          go_wp2_with fail
          generalize hwA : w1.alloc _ = wA
          obtain ⟨g, hg⟩ : ∃ g, g = w1.heap.size + 1 := ⟨_, rfl⟩
          have hsA : wA.heap.size = w1.heap.size + 1 := by rw [← hwA]; simp
          have hkA : Keep w wA := by rw [← hwA]; exact HK1.out.alloc _
          generalize hwX : wA.alloc _ = wX
          have hrow : wX.heap[g]? = some (.cells (List.replicate R (u8v 0)).toArray 5 (0, 0)) := by
            rw [← hwX, hg, ← hsA, heap_alloc_new]; simp
          have hXs0 : wX.heap.size = g + 1 := by rw [← hwX, hg, ← hsA]; simp
          have hkX0 : Keep w wX := by rw [← hwX]; exact hkA.alloc _
          have HXS := Lib.hid hXs0
          have hgX : g < wX.heap.size := lt_of_block hrow
          have hwg : w.heap.size ≤ g := by rw [hg, ← hsA]; exact hkA.size
          rw [← hg]
          have HROW := Lib.hid hrow
          have HKX := Lib.hid hkX0
          have hcap : R ≤ R := Nat.le_refl _
          clear hwA hwX hg hrow hkX0 hkA hmk h64 hsA hXs0
          go_loopw [13, 78] (fun jv iv wr => ∃ (q : Nat) (cur : List Value), q ≤ i ∧ jv = .int .i64 ((esc (L.take q)).length : Nat) ∧ iv = .int .i64 q ∧ wr.heap[g]? = some (.cells cur.toArray 5 (0, 0)) ∧ cur.length = R ∧ cur.take (esc (L.take q)).length = (esc (L.take q)).map u8v ∧ Kp (fun m => m = g) (cvW s wX) wr) (fun _ iv _ => i - (intOf iv).toNat)
          case atStart => exact ⟨0, _, Nat.zero_le _, rfl, rfl, ((cv_keep s wX).block g hgX (fun x => x)).trans HROW.out, by simp, by simp [esc], Kp.refl _ _⟩
          case round =>
            obtain ⟨q, cur, hq, rfl, rfl, hrw, hcl, htk, hkp⟩ := hrel
            have HRW := Lib.hid hrw
            have HCL := Lib.hid hcl
            have HTK := Lib.hid htk
            have HKP := Lib.hid hkp
            have hbyw := HCV.out wX (fun m => m = g) (by omega) wr hkp
            have htw : UTab wr := (HT.out.keep (HKX.out.trans (cv_keep s wX))).kpS hkp (by omega)
            have HTW := Lib.hid htw
            have hgw : g < wr.heap.size := lt_of_block hrw
            have hle := esc_take_le L (q + 1)
            rw [HRL.out] at hle
            obtain ⟨J, hJ⟩ : ∃ J, J = (esc (L.take q)).length := ⟨_, rfl⟩
            rw [← hJ] at HTK ⊢
            have HJ := Lib.hid hJ
            clear hrw hcl htk hkp htw hJ HROW
            by_cases hlt : q < i
            · have hil : q < L.length := by rw [← HNL.out]; exact hlt
              have hm5 := hbyw.of_eq.2.2.2.2
              obtain ⟨g2, off, hA, hc⟩ := hm5 (by omega)
              obtain ⟨u, hu, hur⟩ := hc q hil
              have hur' : u = .int .u8 (L[q].toNat : Int) := hur
              subst hur'
              simp only [Option.some.injEq, Addr.mk.injEq] at hA
              obtain ⟨rfl, rfl, -⟩ := hA
              rw [Nat.zero_add, HXS.out] at hu
              have hsn : esc (L.take (q + 1)) = esc (L.take q) ++ escB L[q] := by
                rw [take_snoc L q hil, esc_append]; simp [esc]
              obtain ⟨c, hcc⟩ : ∃ c, c = L[q] := ⟨_, rfl⟩
              rw [← hcc] at hu hsn
              have hcl := c.toNat_lt
              have HSN := Lib.hid hsn
              have HSE := Lib.hid (fun (wx : World) (hx : UTab wx) => shouldEscape_any c.toNat wx hcl hx)
              have hsafe : safe c = safeN c.toNat := rfl
              rw [hsn, List.length_append, ← HJ.out] at hle
              clear hm5 hc hur hsn hcc hil hbyw
              cases hqs : safeN c.toNat with
              | true =>
                rw [hqs] at HSE hsafe
                have hesc := escB_safe c hsafe
                rw [hesc] at hle
                simp only [List.length_cons, List.length_nil] at hle
                have HESC := Lib.hid hesc
                have hr0 := row_at HRW.out J (by rw [HCL.out]; omega)
                have hc0 := hr0.1
                have hf0 := hr0.2
                have hJ1 : (J : Int) < (R : Int) := by omega
                have h32 : ((c.toNat : Int) == 32) = false := by
                  rw [beq_eq_false_iff_ne]; intro h9
                  have h8 : c.toNat = 32 := by omega
                  rw [h8, safe_space] at hqs; cases hqs
                clear hsafe hqs hesc hr0
                go_wp2_with (go_at_call 67
                             refine (HSE.out _ HTW.out).mono ?_
                             rintro e w2 ⟨rfl, rfl⟩)
                go_roundw
                case rel =>
                  have hl1 : (esc (L.take (q + 1))).length = J + 1 := by rw [HSN.out, HESC.out, List.length_append, ← HJ.out]; rfl
                  refine ⟨q + 1, cur.set J (u8v c), hlt, by rw [hl1]; go_num, by go_num, row_set HRW.out J _, by simp [HCL.out], ?_, HKP.out.setCell (fun _ => rfl) _⟩
                  rw [hl1, take_set cur J _ (by rw [HCL.out]; omega), HTK.out, HSN.out, HESC.out, List.map_append]; rfl
                case measure => simp [intOf]; omega
              | false =>
                rw [hqs] at HSE hsafe
                have hesc := escB_not c hsafe
                rw [hesc] at hle
                simp only [List.length_cons, List.length_nil] at hle
                obtain ⟨D1, hD1⟩ : ∃ D, D = c.toNat / 16 := ⟨_, rfl⟩
                obtain ⟨D2, hD2⟩ : ∃ D, D = c.toNat % 16 := ⟨_, rfl⟩
                have hsh : (c.toNat : Int) / 16 = (D1 : Int) := by omega
                have hand := and_15 c.toNat hcl
                rw [← hD2] at hand hesc
                rw [← hD1] at hesc
                have hi1 := hex_at D1 (by omega)
                have hi2 := hex_at D2 (by omega)
                have HESC := Lib.hid hesc
                have hr0 := row_at HRW.out J (by rw [HCL.out]; omega)
                have hr1 := row_at HRW.out (J + 1) (by rw [HCL.out]; omega)
                have hr2 := row_at HRW.out (J + 2) (by rw [HCL.out]; omega)
                have hc0 := hr0.1
                have hf0 := hr0.2
                have hc1 := hr1.1
                have hf1 := hr1.2
                have hc2 := hr2.1
                have hf2 := hr2.2
                have hJ1 : (J : Int) < (R : Int) := by omega
                have hJ2 : (J : Int) + 1 < (R : Int) := by omega
                have hJ3 : (J : Int) + 2 < (R : Int) := by omega
                clear hsafe hqs hesc hr0 hr1 hr2 hD1 hD2
                cases h32 : ((c.toNat : Int) == 32)
                all_goals
                  go_wp2_with (go_at_call 67
                               refine (HSE.out _ HTW.out).mono ?_
                               rintro e w2 ⟨rfl, rfl⟩)
                  go_roundw
                  case rel =>
                    have hl1 : (esc (L.take (q + 1))).length = J + 3 := by rw [HSN.out, HESC.out, List.length_append, ← HJ.out]; rfl
                    refine ⟨q + 1, ((cur.set J (u8v 37)).set (J + 1) (u8v (up D1))).set (J + 2) (u8v (up D2)), hlt, by rw [hl1]; go_num, by go_num, row_set (row_set (row_set HRW.out J _) (J + 1) _) (J + 2) _, by simp [HCL.out], ?_, ((HKP.out.setCell (fun _ => rfl) _).setCell (fun _ => rfl) _).setCell (fun _ => rfl) _⟩
                    have hcl2 := HCL.out
                    rw [hl1, show J + 3 = J + 2 + 1 from rfl, take_set _ (J + 2) _ (by simp; omega), show J + 2 = J + 1 + 1 from rfl, take_set _ (J + 1) _ (by simp; omega), take_set _ J _ (by omega), HTK.out, HSN.out, HESC.out, List.map_append, List.append_assoc, List.append_assoc]; rfl
                  case measure => simp [intOf]; omega
            · obtain rfl : q = i := by omega
              have hfull : L.take q = L := List.take_of_length_le (by rw [← HNL.out]; exact Nat.le_refl _)
              have hJR : J = R := by rw [HJ.out, hfull, HRL.out]
              have htk2 := HTK.out
              rw [hfull, hJR] at htk2
              have hby : Byts wr (.slice (some ⟨g, 0, none⟩) R R) (esc L) := by
                have hl := HRL.out
                refine ⟨_, R, by rw [hl], by rw [hl]; exact hcap, by unfold maxLen; omega, (fun e => by cases e), fun _ => ⟨g, 0, rfl, fun m hm => ⟨u8v (esc L)[m], ?_, rfl⟩⟩⟩
                have hmc : m < cur.length := by rw [HCL.out]; omega
                rw [Nat.zero_add, (row_at HRW.out m hmc).1]
                have h1 : (cur.take R)[m]? = ((esc L).map u8v)[m]? := by rw [htk2]
                rw [List.getElem?_take_of_lt (by omega), List.getElem?_eq_getElem hmc, List.getElem?_map, List.getElem?_eq_getElem hm] at h1
                simpa using h1
              have hst := byts_string (P := Tryz.prog) Tryz.underlying24 Tryz.underlying5 Tryz.underlying9 hby
              clear hfull hJR htk2 hby hbyw hle
              go_wp2_with fail
              go_ret
              exact ⟨rfl, (HKX.out.trans (cv_keep s wX)).trans' HKP.out fun j hj e => by subst e; omega⟩
end Go.Proofs.YtfodkjpjejoemaaGreatDoor
