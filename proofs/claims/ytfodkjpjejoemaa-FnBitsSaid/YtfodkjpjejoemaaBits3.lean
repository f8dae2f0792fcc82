/-
  Lists of bits joined, cut, taken from each other and turned: the package's own operations on words.
  Conditions: the arrays are known whole.
-/
import Derived.Test.YtfodkjpjejoemaaBits2
import Derived.StillTailTactics
import Derived.Deep.RegionHeld3
import Derived.Deep.DrawnRows
namespace Go.Proofs.Ytfodkjpjejoemaa
open Go Go.RowKit
attribute [local go_sem ↓] Go.wp_at_zero Go.wp_at_succ

theorem MaxInt_any (a b : Int) (w : World) : Calls Try.prog 46 #[.int .i64 a, .int .i64 b] w fun e w' => e = .returned (.int .i64 (max a b)) ∧ w = w' := by
  by_cases h : b < a
  · go_enter Try.func46, Try.ntmps46
    go_wp2
    go_ret
    exact ⟨ret_i (by show a = max a b; omega), rfl⟩
  · go_enter Try.func46, Try.ntmps46
    go_wp2
    go_ret
    exact ⟨ret_i (by show b = max a b; omega), rfl⟩
theorem MinInt_any (a b : Int) (w : World) : Calls Try.prog 47 #[.int .i64 a, .int .i64 b] w fun e w' => e = .returned (.int .i64 (min a b)) ∧ w = w' := by
  by_cases h : a < b
  · go_enter Try.func47, Try.ntmps47
    go_wp2
    go_ret
    exact ⟨ret_i (by show a = min a b; omega), rfl⟩
  · go_enter Try.func47, Try.ntmps47
    go_wp2
    go_ret
    exact ⟨ret_i (by show b = min a b; omega), rfl⟩

/-- the words of an array, cut or filled with zeros to room for n bits -/
def fitTo (ws : List Nat) (n : Nat) : List Nat := ws.take ((n + 63) / 64) ++ List.replicate ((n + 63) / 64 - ws.length) 0
theorem fitTo_length (ws : List Nat) (n : Nat) : (fitTo ws n).length = (n + 63) / 64 := by simp [fitTo]; omega
theorem fitTo_small {ws : List Nat} (n : Nat) (h : ∀ x ∈ ws, x < 2 ^ 64) : ∀ x ∈ fitTo ws n, x < 2 ^ 64 := by
  intro x hx
  rcases List.mem_append.1 hx with h1 | h1
  · exact h x (List.mem_of_mem_take h1)
  · obtain ⟨_, rfl⟩ := List.mem_replicate.1 h1; decide
theorem fitTo_getD (ws : List Nat) (n j : Nat) (h : j < (n + 63) / 64) : (fitTo ws n).getD j 0 = ws.getD j 0 := by
  unfold fitTo List.getD
  by_cases hj : j < ws.length
  · rw [List.getElem?_append_left (by simp; omega), List.getElem?_take_of_lt h]
  · rw [List.getElem?_append_right (by simp; omega), List.getElem?_eq_none (Nat.le_of_not_lt hj), List.getElem?_replicate]
    split <;> rfl

theorem wordsL_length (ws : List Nat) : (wordsL ws).length = ws.length := by simp [wordsL]
theorem words_src {w : World} {g : Nat} {ws : List Nat} {t : TypeId} (h : w.heap[g]? = some (.cells (wordsV ws) t (0, 0))) : Src w (some ⟨g, 0, none⟩) ws.length (wordsL ws) := by
  refine ⟨wordsL_length ws, fun _ => ⟨_, rfl, fun j u hj => ?_⟩⟩
  have e : (⟨g, 0, none⟩ : Addr).add j = ⟨g, j, none⟩ := by unfold Addr.add; split <;> simp_all
  rw [e, cell_of_row _ _ _ _ _ _ h]
  simpa [wordsV] using hj
theorem words_one (ws : List Nat) : ∀ u ∈ wordsL ws, u.oneCell' = true := by
  intro u hu; obtain ⟨x, _, rfl⟩ := List.mem_map.1 hu; rfl

theorem u64_size : (Try.prog.info? 63).map (·.size) = some 1 := by kernel_rfl

theorem fit_cells (ws : List Nat) (n : Nat) :
    (spl (wordsL (List.replicate ((n + 63) / 64) 0)) 0 (wordsL ws) (min ws.length ((n + 63) / 64))).toArray = wordsV (fitTo ws n) := by
  unfold wordsV fitTo spl wordsL
  congr 1
  have e : ws.take (min ws.length ((n + 63) / 64)) = ws.take ((n + 63) / 64) := by rw [List.take_eq_take_iff]; omega
  have e3 : (n + 63) / 64 - min ws.length ((n + 63) / 64) = (n + 63) / 64 - ws.length := by omega
  simp [List.map_append, ← List.map_take, e, e3]

set_option maxHeartbeats 800000 in
theorem copyBits_any (b g n : Nat) (ws : List Nat) (m : Nat) (w : World) (h : BA w b g n ws) (hm : m ≤ 4294967296) :
    Calls Try.prog 45 #[.pointer (some ⟨b, 0, none⟩), .int .i64 m] w fun e w' => ∃ b' g', e = .returned (.pointer (some ⟨b', 0, none⟩)) ∧ w.heap.size ≤ b' ∧ w.heap.size ≤ g' ∧ BA w' b' g' m (fitTo ws m) ∧ Keep w w' := by
  obtain ⟨c0, c1, c2⟩ := h.cells
  have hlt := h.lt
  have hl := h.len
  have hb := h.bound
  have H := Lib.hid h
  have hmk := fun W => run_make_words ((m + 63) / 64) (((m : Int) + 63) / 64) (((m : Int) + 63) / 64) (by omega) (by omega) (by omega) W
  have HL := Lib.hid hl
  clear c2 h hl
  go_enter Try.func45, Try.ntmps45
  go_wp2_with (with_reducible refine wpList_cpy rfl (.tmp 10) (.tmp 14) _ _ rfl Try.underlying60 u64_size rfl rfl (g := w.heap.size) (off := 0) (cur := wordsL (List.replicate ((m + 63) / 64) 0)) (heap_alloc_new _ _) (words_src (t := 63) ((Below.heap_alloc _ _ _ hlt.2).trans H.out.body)) (words_one ws) (fun _ => rfl) (by simp [wordsL]) ?_)
  intro w1 hw1 hk1
  have hz : w.heap.size + 1 ≤ w1.heap.size := by have := hk1.out.size; simpa using this
  clear hmk
  go_wp2
  go_ret
  refine ⟨w1.heap.size, w.heap.size, rfl, by omega, Nat.le_refl _, ?_, ?_⟩
  · have h1 := hw1.out
    rw [fit_cells] at h1
    exact
    { head := by rw [heap_alloc_new, fitTo_length]
      body := (Below.heap_alloc _ _ _ (by omega)).trans h1
      len := fitTo_length _ _
      small := fitTo_small _ H.out.small
      bound := hm }
  · exact (((Kp.refl _ _).alloc _).trans' hk1.out fun i hi e => by omega).alloc _

theorem quiet_same {P : Program} {f : FuncId} {args : Array Value} {w : World} {n : Nat} {v : Value}
    (h : Calls P f args (w.drewN n) fun e w' => e = .returned v ∧ w.drewN n = w') : Calls P f args (w.drewN n) fun e w'' => e = .returned v ∧ ∃ m, w'' = w.drewN m :=
  h.mono fun _ _ ⟨he, hm⟩ => ⟨he, n, hm.symm⟩

/-- the first k words laid over by an operation with another array's words -/
def layTo (op : Nat → Nat → Nat) (cs os : List Nat) : Nat → List Nat
  | 0 => cs
  | k + 1 => (layTo op cs os k).set k (op ((layTo op cs os k).getD k 0) (os.getD k 0))
theorem layTo_length (op : Nat → Nat → Nat) (cs os : List Nat) (k : Nat) : (layTo op cs os k).length = cs.length := by
  induction k with
  | zero => rfl
  | succ k ih => simp [layTo, ih]
theorem layTo_getD (op : Nat → Nat → Nat) (cs os : List Nat) (k : Nat) (hk : k ≤ cs.length) (j : Nat) : (layTo op cs os k).getD j 0 = if j < k then op (cs.getD j 0) (os.getD j 0) else cs.getD j 0 := by
  induction k generalizing j with
  | zero => simp [layTo]
  | succ k ih =>
    have ih := ih (by omega)
    unfold layTo
    by_cases e : k = j
    · subst e
      rw [getD_set_eq _ (by rw [layTo_length]; omega), ih k]
      simp
    · rw [getD_set_ne' _ e, ih j]
      by_cases h : j < k
      · simp [h, show j < k + 1 from by omega]
      · simp [h, show ¬ j < k + 1 from by omega]
theorem layTo_small (op : Nat → Nat → Nat) (cs os : List Nat) (k : Nat) (hop : ∀ x y, x < 2 ^ 64 → y < 2 ^ 64 → op x y < 2 ^ 64) (hc : ∀ x ∈ cs, x < 2 ^ 64) (ho : ∀ x ∈ os, x < 2 ^ 64) : ∀ x ∈ layTo op cs os k, x < 2 ^ 64 := by
  induction k with
  | zero => exact hc
  | succ k ih => exact small_set ih (hop _ _ (getD_lt _ _ ih) (getD_lt _ _ ho))

set_option maxRecDepth 100000 in
set_option maxHeartbeats 4000000 in
theorem Or_any (b g n : Nat) (ws : List Nat) (b' g' n' : Nat) (ws' : List Nat) (w : World) (h : BA w b g n ws) (h' : BA w b' g' n' ws') :
    Calls Try.prog 29 #[.pointer (some ⟨b, 0, none⟩), .pointer (some ⟨b', 0, none⟩)] w fun e w' => ∃ c d, e = .returned (.pointer (some ⟨c, 0, none⟩)) ∧
      BA w' c d (max n n') (layTo (· ||| ·) (fitTo ws (max n n')) ws' (min ws.length ws'.length)) ∧ Keep w w' := by
  obtain ⟨c0, c1, c2⟩ := h.cells
  obtain ⟨d0, d1, d2⟩ := h'.cells
  have hb := h.bound
  have hb' := h'.bound
  have hl := h.len
  have hl' := h'.len
  have H := Lib.hid h
  have H' := Lib.hid h'
  have HL := Lib.hid hl
  have HL' := Lib.hid hl'
  have hM : max (n : Int) (n' : Int) = ((max n n' : Nat) : Int) := by omega
  have HM := Lib.hid hM
  have hm : max n n' ≤ 4294967296 := by omega
  clear h h' c2 d2 hl hl' hM
  go_enter Try.func29, Try.ntmps29
  go_wp2
  go_region_held3 (fun w' => Keep w w' ∧ w'.cell? ⟨b, 0, none⟩ = some (.int .i64 n) ∧ w'.cell? ⟨b', 0, none⟩ = some (.int .i64 n'))
    (first
      | exact ⟨(Kp.refl _ _).drew, by assumption, by assumption⟩
      | (go_split_ands; exact ⟨by assumption, by assumption, by assumption⟩)
      | (go_split_ands; exact ⟨Kp.trans (by assumption) (by assumption), Kp.cell_of (by assumption) (by assumption) (fun x => x), Kp.cell_of (by assumption) (by assumption) (fun x => x)⟩))
    (first
      | (go_at_call 46; refine (MaxInt_any _ _ _).mono ?_; rintro e w2 ⟨rfl, rfl⟩; rw [HM.out])
      | (go_at_call 45; go_split_ands; refine (copyBits_any b g n ws (max n n') _ (H.out.kp (by assumption) (fun x => x) (fun x => x)) hm).mono ?_; rintro e w3 ⟨c, d, rfl, hc, hd, hba, hk3⟩))
  have hkw : Keep w w3 := by go_split_ands; assumption
  have a1 : w3.cell? ⟨b, 1, none⟩ = some (.slice (some ⟨g, 0, none⟩) ws.length ws.length) := hkw.cell_of c1 (fun x => x)
  have a2 : w3.cell? ⟨b', 1, none⟩ = some (.slice (some ⟨g', 0, none⟩) ws'.length ws'.length) := hkw.cell_of d1 (fun x => x)
  have HK := Lib.hid hkw
  have HBA := Lib.hid hba
  clear hkw hk3 c0 c1 d0 d1 hba
  have hmn : min (ws.length : Int) (ws'.length : Int) = ((min ws.length ws'.length : Nat) : Int) := by omega
  have HMN := Lib.hid hmn
  clear hmn
  go_wp2
  go_quiet ((go_at_call 47; exact quiet_same (MinInt_any _ _ _)))
  rw [HMN.out]
  go_wp2
  have hmm : min ws.length ws'.length ≤ (fitTo ws (max n n')).length := by rw [fitTo_length]; have := HL.out; omega
  have hmm1 : min ws.length ws'.length ≤ ws'.length := by omega
  have hmm2 : min ws.length ws'.length ≤ 4294967296 := by have := HL'.out; omega
  obtain ⟨m, hm1⟩ : ∃ m, m = min ws.length ws'.length := ⟨_, rfl⟩
  rw [← hm1] at hmm hmm1 hmm2 ⊢
  have HM1 := Lib.hid hm1
  clear hm1
  clear a1 a2
  go_loopw [7] (fun i wr => ∃ k : Nat, k ≤ m ∧ i = .int .i64 k ∧ BA wr c d (max n n') (layTo (· ||| ·) (fitTo ws (max n n')) ws' k) ∧ Keep w wr) (fun i _ => m - (intOf i).toNat)
  case atStart => exact ⟨0, Nat.zero_le _, rfl, HBA.out.kp ((Kp.refl (fun _ => False) _).drewN _) (fun x => x) (fun x => x), HK.out.drewN _⟩
  case round =>
    obtain ⟨k, hk, rfl, hba, hkp⟩ := hrel
    by_cases hlt : k < m
    · have hbo := H'.out.kp hkp (fun x => x) (fun x => x)
      obtain ⟨e0, e1, e2⟩ := hba.cells
      obtain ⟨o0, o1, o2⟩ := hbo.cells
      have hlen := layTo_length (· ||| ·) (fitTo ws (max n n')) ws' k
      have HS := Lib.hid (show layTo (· ||| ·) (fitTo ws (max n n')) ws' (k + 1) = (layTo (· ||| ·) (fitTo ws (max n n')) ws' k).set k ((layTo (· ||| ·) (fitTo ws (max n n')) ws' k).getD k 0 ||| ws'.getD k 0) from rfl)
      obtain ⟨cs, hcs⟩ : ∃ cs, cs = layTo (· ||| ·) (fitTo ws (max n n')) ws' k := ⟨_, rfl⟩
      rw [← hcs] at hba e1 e2 hlen HS
      clear hcs
      have hj : k < cs.length := by omega
      have hj' : k < ws'.length := by omega
      have e3 := e2 k hj
      have o3 := o2 k hj'
      have ef : wr.frozen? ⟨d, k, none⟩ = false := frozen_of_row _ _ _ _ _ hba.body
      have i1 : (0 : Int) ≤ (k : Int) := by omega
      have i2 : (k : Int) < (cs.length : Int) := by omega
      have i3 : (k : Int) < (ws'.length : Int) := by omega
      have s1 := Lib.hid (hba.small cs[k] (List.getElem_mem hj))
      have s2 := Lib.hid (hbo.small ws'[k] (List.getElem_mem hj'))
      have HB := Lib.hid hba
      have HKP := Lib.hid hkp
      clear e2 o2 e0 o0 hba hbo hkp hlen
      go_wp2
      go_still_tail 16, (by kernel_rfl)
      change wpList _ _ _ _ _ wr.drew
      go_wp2
      go_roundw
      case rel =>
        have hd' : w.heap.size ≤ d := hd
        refine ⟨k + 1, by omega, by go_num, ?_, (HKP.out.setCell (p := ⟨d, k, none⟩) (fun hh => by have : d < w.heap.size := hh; omega) _).drew⟩
        rw [HS.out, u64_or_nat cs[k] ws'[k] (by simpa using s1.out) (by simpa using s2.out)]
        have := (HB.out.store k (cs[k] ||| ws'[k]) (Nat.or_lt_two_pow s1.out s2.out)).kp ((Kp.refl (fun _ => False) _).drew) (fun x => x) (fun x => x)
        simpa [hj, hj'] using this
      case measure => simp [intOf]; omega
    · obtain rfl : k = m := by omega
      have HB := Lib.hid hba
      have HKP := Lib.hid hkp
      clear hba hkp
      go_wp2
      go_ret
      exact ⟨c, d, rfl, by have := HM1.out; rw [← this]; exact HB.out, HKP.out⟩
end Go.Proofs.Ytfodkjpjejoemaa
