/-
  FnTold's parts: bits read from JSON.
  Conditions: the text is a list's; its length is bounded.
-/
import Derived.Test.YtfodkjpjejoemaaDoorTold5
import Derived.Deep.RegionLaw
namespace Go.Proofs.YtfodkjpjejoemaaDoor
open Go Go.RowKit
attribute [local go_sem ↓] Go.wp_at_zero Go.wp_at_succ

theorem idxS (s : ByteArray) (k : Nat) (h : k < s.size) (w : World) : (Instr.index 9 (.string s) (.int .i64 (k : Int))).run Tryd.prog w = .ok (.int .u8 (((s.data.toList[k]'(by rw [← size_data]; exact h)).toNat : Nat) : Int)) w := by
  rw [run_index_string w _ s .i64 k Tryd.underlying9, dif_pos ⟨by omega, by omega⟩]
  simp only [Int.toNat_natCast]
  rw [at_data s k h]
theorem wordsL_len (ws : List Nat) : (wordsL ws).length = ws.length := by simp [wordsL]
theorem words_from {w : World} {g : Nat} {ws : List Nat} {t : TypeId} (h : w.heap[g]? = some (.cells (wordsV ws) t (0, 0))) : Src w (some ⟨g, 0, none⟩) ws.length (wordsL ws) := by
  refine ⟨wordsL_len ws, fun _ => ⟨_, rfl, fun j u hj => ?_⟩⟩
  have e : (⟨g, 0, none⟩ : Addr).add j = ⟨g, j, none⟩ := by unfold Addr.add; split <;> simp_all
  rw [e, cell_of_row _ _ _ _ _ _ h]
  simpa [wordsV] using hj
theorem words_ones (ws : List Nat) : ∀ u ∈ wordsL ws, u.oneCell' = true := by
  intro u hu; obtain ⟨x, _, rfl⟩ := List.mem_map.1 hu; rfl
theorem szW : (Tryd.prog.info? 125).map (·.size) = some 1 := by kernel_rfl
theorem marks_at (L : List Bool) (j : Nat) (h : j < (marksL L).length) : (marksL L)[j] = if L.getD j false then 120 else 95 := by
  have h2 : j < L.length := by rw [← marksL_length]; exact h
  simp [marksL, List.getD, h2]

/-- what stands between the quotes -/
def InnerIs (L : List Bool) (e : Ending) : Prop := ∃ S : ByteArray, e = .returned (.tuple #[.string S, .bool true]) ∧ S.data.toList = marksL L

set_option maxRecDepth 100000 in
set_option maxHeartbeats 2000000 in
theorem jsonBits_any (s : ByteArray) (L : List Bool) (w : World) (hd : s.data.toList = 34 :: (marksL L ++ [34])) (hn : L.length ≤ 900) :
    Calls Tryd.prog 107 #[.string s] w fun e w' => InnerIs L e ∧ w = w' := by
  have hsz : s.size = L.length + 2 := by rw [size_data, hd]; simp [marksL_length]
  have hi0 : ∀ w, (Instr.index 9 (.string s) (.int .i64 0)).run Tryd.prog w = .ok (.int .u8 34) w := fun w => by
    have := idxS s 0 (by omega) w
    simpa [hd] using this
  have hi1 : ∀ w, (Instr.index 9 (.string s) (.int .i64 ((s.size : Int) - 1))).run Tryd.prog w = .ok (.int .u8 34) w := fun w => by
    have := idxS s (L.length + 1) (by omega) w
    rw [show ((s.size : Int) - 1) = ((L.length + 1 : Nat) : Int) by omega, this]
    have e : (s.data.toList[L.length + 1]'(by rw [← size_data]; omega)) = 34 := by
      simp only [hd, List.getElem_cons_succ]
      rw [List.getElem_append_right (by rw [marksL_length]; exact Nat.le_refl _)]
      simp [marksL_length]
    rw [e]; rfl
  obtain ⟨S, hS⟩ : ∃ S : ByteArray, S = s.extract 1 (s.size - 1) := ⟨_, rfl⟩
  have hsl : ∀ w, (Instr.slice 9 (.string s) (some (.int .i64 1)) (some (.int .i64 ((s.size : Int) - 1))) none).run Tryd.prog w = .ok (.string S) w := fun w => by
    rw [run_slice_string w _ s .i64 .i64 1 ((s.size : Int) - 1) Tryd.underlying9 (by omega) (by omega) (by omega), hS]
    rw [show ((s.size : Int) - 1).toNat = s.size - 1 by omega]
    rfl
  have hSd : S.data.toList = marksL L := by
    rw [hS, ← ByteArray.toList_eq, Lib.extract_toList, hd, hsz]
    simp [marksL_length]
  have hSz : S.size = L.length := by rw [size_data, hSd, marksL_length]
  have HSD := Lib.hid hSd
  obtain ⟨n, hnn⟩ : ∃ n, n = L.length := ⟨_, rfl⟩
  rw [← hnn] at hsz hSz hn
  have HN := Lib.hid hnn
  have HSZ := Lib.hid hSz
  have hs2 : ¬ (s.size : Int) < 2 := by omega
  have hs3 : s.size ≤ 902 := by omega
  have hs4 : 2 ≤ s.size := by omega
  have hS5 : S.size ≤ 900 := by omega
  clear hd hsz hS hSd hnn hSz
  go_enter Tryd.func107, Tryd.ntmps107
  go_wp2_with fail
  go_loop [4] (fun iv => ∃ i : Nat, i ≤ S.size ∧ iv = .int .i64 i) (fun iv => S.size - (intOf iv).toNat)
  case atStart => exact ⟨0, Nat.zero_le _, rfl⟩
  case round =>
    obtain ⟨i, hi, rfl⟩ := hrel
    by_cases hlt : i < S.size
    · have hx := fun w => idxS S i hlt w
      have hm : (S.data.toList[i]'(by rw [← size_data]; exact hlt)) = if L.getD i false then 120 else 95 := by
        simp only [HSD.out]
        exact marks_at L i (by rw [marksL_length, ← HN.out, ← HSZ.out]; exact hlt)
      rw [hm] at hx
      clear hm
      cases hv : L.getD i false
      · rw [hv] at hx
        replace hx : ∀ w, (Instr.index 9 (.string S) (.int .i64 (i : Int))).run Tryd.prog w = .ok (.int .u8 95) w := hx
        clear hv
        go_wp2_with fail
        go_round
        case rel => exact ⟨i + 1, hlt, by go_num⟩
        case measure => simp [intOf]; omega
      · rw [hv] at hx
        replace hx : ∀ w, (Instr.index 9 (.string S) (.int .i64 (i : Int))).run Tryd.prog w = .ok (.int .u8 120) w := hx
        clear hv
        go_wp2_with fail
        go_round
        case rel => exact ⟨i + 1, hlt, by go_num⟩
        case measure => simp [intOf]; omega
    · obtain rfl : i = S.size := by omega
      go_wp2_with fail
      go_ret2
      exact ⟨⟨S, rfl, HSD.out⟩, rfl⟩

theorem newArray_any (n : Nat) (w : World) (h0 : 0 < n) (hn : n ≤ 4294967296) :
    Calls Tryd.prog 108 #[.int .i64 n] w fun e w' => (∃ b g, e = .returned (.pointer (some ⟨b, 0, none⟩)) ∧ w.heap.size ≤ b ∧ w.heap.size ≤ g ∧ BA w' b g n (packTo [] n 0)) ∧ Keep w w' := by
  have hmk := fun W => run_make_words ((n + 63) / 64) (((n : Int) + 63) / 64) (((n : Int) + 63) / 64) (by omega) (by omega) (by omega) W
  go_enter Tryd.func108, Tryd.ntmps108
  go_wp2
  go_ret
  refine ⟨⟨w.heap.size + 1, w.heap.size, rfl, by omega, by omega, ?_⟩, ((Kp.refl _ _).alloc _).alloc _⟩
  exact
    { head := by rw [heap_alloc2_new]; simp [packTo]
      body := by rw [heap_alloc2_old]; rfl
      len := packTo_length _ _ _
      small := packTo_small _ _ _
      bound := hn }

/-- the array that is read into: its block, and where its words lie -/
def ReadIs (w w' : World) (p : Nat) (L : List Bool) (e : Ending) : Prop := e = .returned .nilIface ∧ ∃ g, w.heap.size ≤ g ∧ BA w' p g L.length (pack L)

set_option maxRecDepth 100000 in
set_option maxHeartbeats 4000000 in
theorem unmarshalJSON_any (p : Nat) (v : Value) (L : List Bool) (w : World) (hp : w.heap[p]? = some (.cells #[.int .i64 0, .slice none 0 0] 119 (0, 0))) (hv : Byts w v (34 :: (marksL L ++ [34]))) (h0 : 0 < L.length) (hn : L.length ≤ 900) :
    Calls Tryd.prog 79 #[.pointer (some ⟨p, 0, none⟩), v] w fun e w' => ReadIs w w' p L e ∧ Kp (fun i => i = p) w w' := by
  have HV := Lib.hid hv
  have HP := Lib.hid hp
  have hpl := lt_of_block hp
  obtain ⟨A, c, rfl, a1, a2, -, -⟩ := hv
  obtain ⟨N, hN⟩ : ∃ N, N = (34 :: (marksL L ++ [34])).length := ⟨_, rfl⟩
  rw [← hN] at a1 HV ⊢
  obtain ⟨s, hs⟩ : ∃ s : ByteArray, s = ⟨(34 :: (marksL L ++ [34])).toArray⟩ := ⟨_, rfl⟩
  have hsd : s.data.toList = 34 :: (marksL L ++ [34]) := by rw [hs]
  have hst : (convert 22 9 (.slice A N c)).run Tryd.prog w = .ok (.string s) w := by
    rw [byts_string (P := Tryd.prog) Tryd.underlying22 Tryd.underlying5 Tryd.underlying9 HV.out, hs]
  have hnull : (s.toList == [110, 117, 108, 108]) = false := by
    rw [ByteArray.toList_eq, hsd]; rfl
  have HJ := Lib.hid (jsonBits_any s L w hsd hn)
  have HML := Lib.hid (marksL_length L)
  have HNA := Lib.hid (fun n w h0 hn => newArray_any n w h0 hn)
  obtain ⟨n, hnn⟩ : ∃ n, n = L.length := ⟨_, rfl⟩
  rw [← hnn] at h0 hn
  have HN := Lib.hid hnn
  clear hp hN hs hsd hnn
  go_enter Tryd.func79, Tryd.ntmps79
  go_wp2_with (first
    | (go_at_call 107
       refine HJ.out.mono ?_
       rintro e w' ⟨⟨S, rfl, hS⟩, rfl⟩
       have hSz : S.size = n := by rw [size_data, hS, HML.out, HN.out]
       have HSS := Lib.hid hS
       have HSZ := Lib.hid hSz
       have hSz2 : S.size ≤ 900 := by omega
       have hSz0 : 0 < S.size := by omega
       clear hS hSz)
    | (go_at_call 108
       refine (HNA.out S.size _ (by omega) (by omega)).mono ?_
       rintro e w1 ⟨⟨b, g, rfl, hb, hg, hba⟩, hk⟩
       have HB := Lib.hid hba
       have HK := Lib.hid hk
       clear hba hk))
  go_loopw [10] (fun iv wr => ∃ i : Nat, i ≤ S.size ∧ iv = .int .i64 i ∧ BA wr b g S.size (packTo L S.size i) ∧ Keep w wr) (fun iv _ => S.size - (intOf iv).toNat)
  case atStart => exact ⟨0, Nat.zero_le _, rfl, HB.out, HK.out⟩
  case round =>
    obtain ⟨i, hi, rfl, hba, hk⟩ := hrel
    have HBA := Lib.hid hba
    have HKR := Lib.hid hk
    by_cases hlt : i < S.size
    · have hx := fun w => idxS S i hlt w
      have hm : (S.data.toList[i]'(by rw [← size_data]; exact hlt)) = if L.getD i false then 120 else 95 := by
        simp only [HSS.out]
        exact marks_at L i (by rw [marksL_length, ← HN.out, ← HSZ.out]; exact hlt)
      rw [hm] at hx
      have HST := Lib.hid (show packTo L S.size (i + 1) = if L.getD i false then setBit (packTo L S.size i) i else packTo L S.size i from rfl)
      clear hm hba hk
      cases hv : L.getD i false
      · rw [hv] at hx HST
        replace hx : ∀ w, (Instr.index 9 (.string S) (.int .i64 (i : Int))).run Tryd.prog w = .ok (.int .u8 95) w := hx
        clear hv
        go_wp2_with fail
        go_roundw
        case rel => exact ⟨i + 1, hlt, by go_num, by rw [HST.out]; exact HBA.out, HKR.out⟩
        case measure => simp [intOf]; omega
      · rw [hv] at hx HST
        replace hx : ∀ w, (Instr.index 9 (.string S) (.int .i64 (i : Int))).run Tryd.prog w = .ok (.int .u8 120) w := hx
        clear hv
        go_wp2_with (go_at_call 109
                     refine (SetIndex_any b g S.size _ i true _ HBA.out (by omega)).mono ?_
                     rintro e w2 ⟨rfl, hp2, hk2⟩
                     unfold SetPost at hp2
                     rw [if_pos hlt, if_pos rfl] at hp2
                     have HP2 := Lib.hid hp2
                     have HK2 := Lib.hid (HKR.out.trans' hk2 fun i hi e => by subst e; omega)
                     clear hp2 hk2)
        go_roundw
        case rel => exact ⟨i + 1, hlt, by go_num, by rw [HST.out]; exact HP2.out, HK2.out⟩
        case measure => simp [intOf]; omega
    · obtain rfl : i = S.size := by omega
      have hpn : packTo L S.size S.size = pack L := by rw [HSZ.out, HN.out]; rfl
      rw [hpn] at hba HBA
      have hwl : (pack L).length = (S.size + 63) / 64 := by rw [HSZ.out, HN.out]; exact packTo_length _ _ _
      have hsm := HBA.out.small
      obtain ⟨ws, hws⟩ : ∃ ws, ws = pack L := ⟨_, rfl⟩
      rw [← hws] at hba HBA hwl hsm
      have HWS := Lib.hid hws
      have HSM := Lib.hid hsm
      obtain ⟨d0, d1, -⟩ := hba.cells
      obtain ⟨m, hm⟩ : ∃ m, m = ws.length := ⟨_, rfl⟩
      rw [← hm] at d1 hwl
      have HWM := Lib.hid hm
      have hm2 : m ≤ 20 := by omega
      have hrp := (HKR.out.block p hpl (fun x => x)).trans HP.out
      have e0 : wr.cell? ⟨p, 0, none⟩ = some (.int .i64 0) := by rw [cell_of_row _ _ _ _ _ _ hrp]; rfl
      have e1 : wr.cell? ⟨p, 1, none⟩ = some (.slice none 0 0) := by rw [cell_of_row _ _ _ _ _ _ hrp]; rfl
      have f0 : wr.frozen? ⟨p, 0, none⟩ = false := frozen_of_row _ _ _ _ _ hrp
      have f1 : wr.frozen? ⟨p, 1, none⟩ = false := frozen_of_row _ _ _ _ _ hrp
      have hpb : ¬ p = b := by omega
      have hpg : ¬ p = g := by omega
      have hpw : p < wr.heap.size := lt_of_block hrp
      have hbl := hba.lt.1
      have hgl := hba.lt.2
      have hmk := fun W => run_make_words m (m : Int) (m : Int) rfl rfl (by omega) W
      have HRP := Lib.hid hrp
      have HWL := Lib.hid hwl
      clear hpn hws hsm hm hwl hrp hba hk
      go_wp2_with fail
      obtain ⟨h, hh⟩ : ∃ h, h = wr.heap.size := ⟨_, rfl⟩
      obtain ⟨w7, hw7⟩ : ∃ w7, w7 = ((wr.setCell ⟨p, 0, none⟩ (.int .i64 (S.size : Int))).setCell ⟨p, 1, none⟩ (.slice (some ⟨wr.heap.size, 0, none⟩) m m)).alloc (.cells (wordsV (List.replicate m 0)) 125) := ⟨_, rfl⟩
      have hk7 : Kp (fun i => i = p) wr w7 := by
        rw [hw7]
        exact (((Kp.refl (fun i => i = p) wr).setCell (p := ⟨p, 0, none⟩) (fun _ => rfl) _).setCell (p := ⟨p, 1, none⟩) (fun _ => rfl) _).alloc _
      have hrp7 : w7.heap[p]? = some (.cells #[.int .i64 S.size, .slice (some ⟨h, 0, none⟩) m m] 119 (0, 0)) := by
        rw [hw7, hh, Below.heap_alloc _ _ _ (by simpa using hpw), heap_setCell_same _ _ _ _ _ _ (heap_setCell_same _ _ _ _ _ _ HRP.out)]; rfl
      have hrh7 : w7.heap[h]? = some (.cells (wordsV (List.replicate m 0)) 125 (0, 0)) := by
        have := heap_alloc_new ((wr.setCell ⟨p, 0, none⟩ (.int .i64 (S.size : Int))).setCell ⟨p, 1, none⟩ (.slice (some ⟨wr.heap.size, 0, none⟩) m m)) (.cells (wordsV (List.replicate m 0)) 125)
        rw [hw7, hh]
        simpa using this
      have hba7 : BA w7 b g S.size ws := HBA.out.kp hk7 (fun e => hpb e.symm) (fun e => hpg e.symm)
      have c7 : w7.cell? ⟨p, 1, none⟩ = some (.slice (some ⟨h, 0, none⟩) m m) := by rw [cell_of_row _ _ _ _ _ _ hrp7]; rfl
      have c8 : w7.cell? ⟨b, 1, none⟩ = some (.slice (some ⟨g, 0, none⟩) m m) := by have := hba7.cells.2.1; rwa [← HWM.out] at this
      have hph : ¬ p = h := by omega
      have hbh : ¬ b = h := by omega
      have hsz7 : h ≤ w7.heap.size := by rw [hh]; exact hk7.size
      have hhl := lt_of_block hrh7
      have hbl7 := hba7.lt.1
      have hpl7 := lt_of_block hrp7
      have HR7 := Lib.hid hrp7
      have HH7 := Lib.hid hrh7
      have HG7 := Lib.hid hba7.body
      have HK7 := Lib.hid ((Kp.keep HKR.out).trans hk7 : Kp (fun i => i = p) w w7)
      have HHH := Lib.hid hh
      rw [← hw7, ← hh]
      clear hw7 hh hk7 hrp7 hrh7 hba7 d0 d1 e0 e1 f0 f1 hmk
      go_region_law (first
        | (refine step_cpy rfl (.tmp 72) (.tmp 76) 117 117 rfl Tryd.underlying117 szW rfl rfl (g := h) (off := 0) (cur := wordsL (List.replicate m 0)) (news := wordsL ws) (t := 125) HH7.out (by have := words_from HG7.out; rwa [← HWM.out] at this) (words_ones ws) (fun _ => rfl) (by simp [wordsL]) ?_
           intro w8 hb8 hk8
           have HB8 := Lib.hid hb8.out
           have HK8 := Lib.hid hk8.out
           clear hb8 hk8))
      all_goals
        go_wp2_with fail
        go_ret
        have hfin : spl (wordsL (List.replicate m 0)) 0 (wordsL ws) (min m m) = wordsL ws := by
          have h1 : (wordsL ws).length = m := by rw [wordsL_len, HWM.out]
          have h2 : (wordsL (List.replicate m 0)).length = m := by simp [wordsL]
          unfold spl
          rw [Nat.min_self, Nat.zero_add, List.take_zero, List.nil_append, List.take_of_length_le (by omega), List.drop_of_length_le (by omega), List.append_nil]
        have hb8 := HB8.out
        rw [hfin] at hb8
        have hk8 : Kp (fun i => i = h) w7 _ := ((Kp.refl (fun i => i = h) w7).drew).trans HK8.out
        refine ⟨⟨rfl, h, by have := HKR.out.size; have := HHH.out; omega, ?_⟩, HK7.out.trans' hk8 fun i hi e => by have := HKR.out.size; have := HHH.out; omega⟩
        have hlen : S.size = L.length := by rw [HSZ.out, HN.out]
        rw [← HWS.out, ← hlen]
        exact
          { head := by rw [← HWM.out]; exact (hk8.block p hpl7 hph).trans HR7.out
            body := hb8
            len := by rw [← HWM.out]; exact HWL.out
            small := HSM.out
            bound := by omega }

set_option maxHeartbeats 1000000 in
theorem readMarks_any (s : ByteArray) (L : List Bool) (w : World) (hd : s.data.toList = 34 :: (marksL L ++ [34])) (h0 : 0 < L.length) (hn : L.length ≤ 900) :
    Calls Tryd.prog 42 #[.string s] w fun e w' => (∃ v, e = .returned (.tuple #[v, .bool true]) ∧ Bools w' v L) ∧ Keep w w' := by
  have hsz : s.size ≤ 902 := by rw [size_data, hd]; simp [marksL_length]; omega
  obtain ⟨A, c, w4, hcv, hk4, hby⟩ := bytesOf s (w.alloc (.cells #[.int .i64 0, .slice none 0 0] 119)) (by omega)
  rw [hd] at hby
  have hpl : w.heap.size < (w.alloc (.cells #[.int .i64 0, .slice none 0 0] 119)).heap.size := by simp
  have hp4 : w4.heap[w.heap.size]? = some (.cells #[.int .i64 0, .slice none 0 0] 119 (0, 0)) := (hk4.block _ hpl (fun x => x)).trans (heap_alloc_new _ _)
  have HU := Lib.hid (unmarshalJSON_any w.heap.size _ L w4 hp4 hby h0 hn)
  have HK4 := Lib.hid hk4
  have HUP := Lib.hid (unpack_pack L)
  clear hd hby hp4 hk4 hpl
  go_enter Tryd.func42, Tryd.ntmps42
  go_wp2_with (first
    | (go_at_call 79
       refine HU.out.mono ?_
       rintro e w5 ⟨⟨rfl, g, hg, hba⟩, hk5⟩
       have HB := Lib.hid hba
       have hk5' : Keep w w5 := (((Kp.refl (fun _ => False) w).alloc (.cells #[.int .i64 0, .slice none 0 0] 119)).trans HK4.out).trans' hk5 fun i hi e => by omega
       have HK5 := Lib.hid hk5'
       clear hba hk5 hk5')
    | (go_at_call 80
       refine (list_any w.heap.size g L.length (pack L) _ HB.out).mono ?_
       rintro e w6 ⟨v, rfl, hv, hk6⟩
       rw [HUP.out] at hv
       have HV := Lib.hid hv
       have HK6 := Lib.hid hk6
       clear hv hk6))
  go_ret2
  exact ⟨⟨v, rfl, HV.out⟩, HK5.out.trans HK6.out⟩
end Go.Proofs.YtfodkjpjejoemaaDoor
