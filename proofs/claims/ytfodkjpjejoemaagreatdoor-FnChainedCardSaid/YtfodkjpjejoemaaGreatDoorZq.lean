
/-
  The keys of a path: the path's keys walked, and the thin call.
  Conditions: the table's cells hold its numbers, the library's error variable holds an error; the length is bounded.
-/
import Derived.Test.YtfodkjpjejoemaaGreatDoorZp
import Derived.Test.YtfodkjpjejoemaaGreatDoorZa
namespace Go.Proofs.YtfodkjpjejoemaaGreatDoor
open Go Go.RowKit
attribute [local go_sem ↓] Go.wp_at_zero Go.wp_at_succ

/-- r, if there is one, is this value; otherwise an error -/
def EndsD (w : World) (B : Nat) (r : Option (List UInt8)) (e : Ending) : Prop :=
  match r with
  | some k => ∃ v, e = .returned (.tuple #[v, .nilIface]) ∧ Own w B 5 v (k.map u8v)
  | none => ∃ v t x, e = .returned (.tuple #[v, .iface t x])
theorem hexdec_any (s : ByteArray) (w : World) (t : TypeId) (x : Value) (hE : w.cell? ⟨4, 0, none⟩ = some (.iface t x)) (hs : s.size ≤ 1099511627776) :
    Calls Tryz.prog 82 #[.string s] w fun e w' => EndsD w' w.heap.size (hexD s.data.toList) e ∧ Keep w w' := by
  refine (Tryz.hex_DecodeString_owns s w _ hE (by omega)).mono ?_
  rintro e w' ⟨v, rfl, h1, h2⟩
  refine ⟨?_, Kp.of_below h2⟩
  obtain ⟨d1, d2⟩ := decode_hexD s.data.toList
  cases hh : hexD s.data.toList with
  | some k =>
    rw [d1 k hh] at h1 ⊢
    refine ⟨v, rfl, ?_⟩
    have := h1
    rw [show (k.map fun b => Value.int .u8 (b.toNat : Int)) = k.map u8v from rfl] at this
    simpa [Own] using this
  | none =>
    have h3 := d2 hh
    cases ho : (Lib.Hx.decode s.data.toList).2 with
    | ok => exact absurd ho h3
    | bad c => exact ⟨v, _, _, rfl⟩
    | odd => exact ⟨v, _, _, rfl⟩

theorem makeM (n : Nat) (h : n ≤ 1099511627777) (w : World) : (Instr.makeSlice 22 (.int .i64 (n : Int)) (.int .i64 (n : Int))).run Tryz.prog w = .ok (.slice (some ⟨w.heap.size, 0, none⟩) n n) (w.alloc (.cells (List.replicate n (.slice none 0 0)).toArray 24)) := by
  obtain ⟨i0, hi, hz0, hz1, hz2⟩ := info_parts (show (Tryz.prog.info? 24).map (fun i => (i.zero, i.size, i.bytes)) = some (some (.slice none 0 0), 1, 24) by kernel_rfl)
  exact run_make_row1 22 24 i0 (.slice none 0 0) Tryz.underlying22 hi hz0 hz1 rfl n n n rfl rfl (by rw [hz2]; omega) (by omega) w

theorem bytes_of (s : ByteArray) (w : World) (hs : s.size ≤ 1099511627776) : ∃ A c w4, (convert 9 24 (.string s)).run Tryz.prog w = .ok (.slice A s.size c) w4 ∧ Keep w w4 ∧ ∀ S : Nat → Prop, ¬ S w.heap.size → Byp w4 S (.slice A s.size c) s.data.toList := by
  refine ⟨_, _, _, run_bytes_of_string w _ _ _ s Tryz.underlying9 Tryz.underlying24 Tryz.underlying5, (Kp.refl _ _).drew.alloc _, fun S hS wx kx => ?_⟩
  have hg := grownCap_ge w s.size 0 5
  have hm := grownCap_le_maxLen w s.size 0 5 (by unfold maxLen; omega)
  refine ⟨_, _, by rw [← size_data], by rw [← size_data]; exact hg, hm, (fun e => by cases e), fun _ => ⟨_, 0, rfl, fun i hi => ⟨.int .u8 ((s.data.toList[i]).toNat : Int), ?_, rfl⟩⟩⟩
  rw [Nat.zero_add]
  refine kx.cell_of ?_ hS
  have hrow : (w.drew.alloc (.cells (bytesRow s (grownCap w s.size 0 5)) 5 ((bytesRow s (grownCap w s.size 0 5)).size, (bytesRow s (grownCap w s.size 0 5)).size + 1))).cell? ⟨w.drew.heap.size, i, none⟩ = _ := World.cell?_alloc_mark _ _ _ _ i
  rw [show w.drew.heap.size = w.heap.size from rfl] at hrow
  rw [hrow, bytesRow_at s _ i (by simpa using hi)]
  simp

/-- what a path's segment gives -/
theorem pathUnescape_any (s : ByteArray) (w : World) (ht : UTab w) (hs : s.size ≤ 1099511627776) :
    Calls Tryz.prog 83 #[.string s] w fun e w' => EndsU (unesc s.data.toList) e ∧ Keep w w' := by
  have HT := Lib.hid ht
  clear ht
  go_enter Tryz.func83, Tryz.ntmps83
  go_wp2_with fail
  refine (unescape_any s _ HT.out hs).mono ?_
  rintro e w1 ⟨he, hk⟩
  have HK := Lib.hid hk
  clear hk
  cases hu : unesc s.data.toList with
  | some k =>
    rw [hu] at he
    have he2 : e = .returned (.tuple #[strV k, .nilIface]) := he
    subst he2
    have HU := Lib.hid hu
    clear he hu
    go_wp2_with fail
    go_ret2
    rw [HU.out]
    exact ⟨rfl, HK.out⟩
  | none =>
    rw [hu] at he
    obtain ⟨sv, t, x, rfl⟩ := he
    have HU := Lib.hid hu
    clear hu
    go_wp2_with fail
    go_ret2
    rw [HU.out]
    exact ⟨⟨_, _, _, rfl⟩, HK.out⟩

/-- the keys of a path, or an error -/
def EndsK (w : World) (r : Option (List (List UInt8))) (e : Ending) : Prop :=
  match r with
  | some ks => ∃ v, e = .returned (.tuple #[v, .nilIface]) ∧ Mat w v ks
  | none => ∃ t x, e = .returned (.tuple #[.slice none 0 0, .iface t x])

theorem UTab.kpS {S : Nat → Prop} {w w' : World} (h : UTab w) (k : Kp S w w') (hS : ¬ S 1) : UTab w' := fun i hi => k.cell_of (h i hi) hS
theorem segs_part : ∀ (L : List UInt8) (i : Nat) (h : i < (segs L).length), (segs L)[i].length ≤ L.length
  | [], i, h => by simp [segs] at h ⊢
  | c :: t, i, h => by
    have ih := segs_part t
    by_cases h47 : c = 47
    · have e : segs (c :: t) = [] :: segs t := by rw [segs, if_pos h47]
      simp only [e] at h ⊢
      cases i with
      | zero => simp
      | succ i =>
        have := ih i (by simpa using h)
        simp; omega
    · cases hq : segs t with
      | nil => exact absurd hq (segs_ne t)
      | cons a r =>
        have e : segs (c :: t) = (c :: a) :: r := by rw [segs, if_neg h47, hq]
        simp only [e] at h ⊢
        simp only [hq] at ih
        cases i with
        | zero => have := ih 0 (by simp); simpa using this
        | succ i => have := ih (i + 1) (by simpa using h); simp at this ⊢; omega
theorem mkS_data (l : List UInt8) : (⟨l.toArray⟩ : ByteArray).data.toList = l := by simp
theorem Own.at_ {w : World} {base g n c : Nat} {e : TypeId} {xs : List Value} (h : Own w base e (.slice (some ⟨g, 0, none⟩) n c) xs) (i : Nat) (hi : i < xs.length) : w.cell? ⟨g, i, none⟩ = some xs[i] ∧ w.frozen? ⟨g, i, none⟩ = false := by
  obtain ⟨_, cur, hh⟩ := h.block (g := g) rfl
  obtain ⟨A, c', hv, _, _, _, h4⟩ := h.form
  obtain ⟨g', hA, _, hc⟩ := h4 (by omega)
  simp only [Value.slice.injEq] at hv
  rw [hA] at hv
  simp at hv
  have := hc i hi
  rw [Nat.zero_add, ← hv.1] at this
  exact ⟨this, frozen_of_row _ _ _ _ _ hh⟩

theorem hasPrefix_len (l : List UInt8) (h : Lib.hasPrefix l [120, 58] = true) : 2 ≤ l.length := by
  have := (List.isPrefixOf_iff_prefix.1 h).length_le
  simpa using this

set_option maxRecDepth 100000 in
set_option maxHeartbeats 4000000 in
theorem keyPath_any (s : ByteArray) (w : World) (ht : UTab w) (t : TypeId) (x : Value) (hE : w.cell? ⟨4, 0, none⟩ = some (.iface t x)) (hs : s.size ≤ 1099511626776) :
    Calls Tryz.prog 73 #[.string s] w fun e w' => EndsK w' (keysOf s.data.toList) e ∧ Keep w w' := by
  have HT := Lib.hid ht
  have HE := Lib.hid hE
  obtain ⟨L, hL⟩ : ∃ L, L = s.data.toList := ⟨_, rfl⟩
  have hLN : s.size = L.length := by rw [hL, size_data]
  have hsl : s.toList = L := by rw [hL]; exact ByteArray.toList_eq s
  have HI : Hid (∀ (h : 0 < L.length) (w : World), (Instr.index 9 (.string s) (.int .i64 0)).run Tryz.prog w = .ok (.int .u8 ((L[0].toNat : Nat) : Int)) w) := Lib.hid fun h w => by
    subst hL
    exact idx_data s 0 (by rw [size_data]; exact h) w
  have HL := Lib.hid hL
  rw [← hL]
  clear hL ht hE
  cases L with
  | nil =>
    have hee : s.toList.isEmpty = true := by rw [hsl]; rfl
    clear HI
    go_enter Tryz.func73, Tryz.ntmps73
    go_wp2_with (go_at_call 57; refine (errNew2_any _ _).mono ?_; rintro e w1 ⟨⟨x, rfl⟩, hk1⟩)
    go_ret2
    exact ⟨⟨_, _, rfl⟩, hk1⟩
  | cons c R =>
    have hee : s.toList.isEmpty = false := by rw [hsl]; rfl
    have hx := HI.out (by simp)
    simp only [List.getElem_cons_zero] at hx
    clear HI hsl
    by_cases h47 : c = 47
    · subst h47
      replace hx : ∀ (w : World), (Instr.index 9 (.string s) (.int .i64 0)).run Tryz.prog w = .ok (.int .u8 47) w := hx
      have hkeys : keysOf (47 :: R) = keysL (segs R) := by simp [keysOf]
      rw [hkeys]
      obtain ⟨s1, hs1⟩ : ∃ s1, s1 = s.extract 1 s.size := ⟨_, rfl⟩
      have hsl1 : ∀ w, (Instr.slice 9 (.string s) (some (.int .i64 1)) none none).run Tryz.prog w = .ok (.string s1) w := fun w => by
        rw [run_slice_string_l w _ s Tryz.underlying9 .i64 _ (by omega) (by simp at hLN; omega), hs1]; rfl
      have hd1 : s1.data.toList = R := by
        rw [hs1, Lib.extract_data, ← HL.out, List.take_of_length_le (by rw [hLN]; simp)]; rfl
      have hz1 : s1.size ≤ 1099511626776 := by rw [size_data, hd1]; simp at hLN; omega
      have HD1 := Lib.hid hd1
      obtain ⟨N, hN⟩ : ∃ N, N = (segs R).length := ⟨_, rfl⟩
      have HN := Lib.hid hN
      have hN1 : N ≤ 1099511627777 := by have := segs_length R; rw [hN]; rw [size_data, hd1] at hz1; omega
      have hmk := makeM N hN1
      clear hs1 hd1 hkeys hN hLN
      go_enter Tryz.func73, Tryz.ntmps73
      go_wp2_with (go_at_call 80
                   refine (zzSplit_any s1 _ (by omega)).mono ?_
                   rintro e w1 ⟨v1, rfl, ho1, hk1⟩
                   rw [HD1.out] at ho1
                   have HO1 := Lib.hid ho1
                   have HK1 := Lib.hid hk1
                   obtain ⟨A1, c1, rfl, f1, f2, f3, f4⟩ := ho1.form
                   rw [List.length_map, ← HN.out] at f1 ⊢
                   have F4 := Lib.hid f4
                   clear ho1 hk1 f3 f4)
      have hg1 := HK1.out.size
      have hgE : 4 < w.heap.size := World.block_lt_of_cell? w _ HE.out
      have hgT : 1 < w.heap.size := World.block_lt_of_cell? w _ (HT.out 0 (by omega))
      have hHN := HN.out
      have HRL : Hid (R.length ≤ 1099511626776) := Lib.hid (by rw [← HD1.out, ← size_data]; exact hz1)
      clear hHN
      go_loopw [2, 3, 30] (fun kv _ iv wr => ∃ (i : Nat) (D : List (List UInt8)) (vals : List Value), i ≤ N ∧ kv = .slice (some ⟨w1.heap.size, 0, none⟩) N N ∧ iv = .int .i64 i ∧ D.length = i ∧ vals.length = N ∧ Goes (keysL (segs R)) D (keysL ((segs R).drop i)) ∧ Own wr w1.heap.size 24 (.slice (some ⟨w1.heap.size, 0, none⟩) N N) vals ∧ (∀ k (h : k < D.length) (h2 : k < vals.length), Byp wr (fun j => j = w1.heap.size) vals[k] D[k]) ∧ Keep w1 wr) (fun _ _ iv _ => N - (intOf iv).toNat)
      case atStart =>
        refine ⟨0, [], List.replicate N (.slice none 0 0), Nat.zero_le _, rfl, rfl, rfl, by simp, by simpa using Goes.start _, ?_, fun k h => absurd h (by simp), (Kp.refl _ _).alloc _⟩
        have := Own.made w1 w1.heap.size 24 (List.replicate N (.slice none 0 0)) (Nat.le_refl _) (by rw [List.length_replicate]; unfold maxLen; omega)
        simpa using this
      case round =>
        obtain ⟨i, D, vals, hi, rfl, rfl, hDl, hvl, hgo, hown, hby, hkp⟩ := hrel
        have HGO := Lib.hid hgo
        have HW := Lib.hid hown
        have HBY := Lib.hid hby
        have HKP := Lib.hid hkp
        have HDl := Lib.hid hDl
        have HVl := Lib.hid hvl
        clear hgo hown hby hkp hDl hvl
        by_cases hlt : i < N
        · have hil : i < (segs R).length := by rw [← HN.out]; exact hlt
          obtain ⟨g, rfl, hgb, hcs⟩ := F4.out (by rw [List.length_map, ← HN.out]; omega)
          have hc1 := hcs i (by rw [List.length_map]; exact hil)
          rw [Nat.zero_add, List.getElem_map] at hc1
          obtain ⟨part, hpart⟩ : ∃ p, p = (segs R)[i] := ⟨_, rfl⟩
          rw [← hpart] at hc1
          obtain ⟨S, hS⟩ : ∃ S : ByteArray, S = ⟨part.toArray⟩ := ⟨_, rfl⟩
          have hSd : S.data.toList = part := by rw [hS]
          have hc2 : wr.cell? ⟨g, i, none⟩ = some (.string S) := by
            rw [show Value.string S = strV part by rw [hS]; rfl]
            exact HKP.out.cell_of hc1 (fun x => x)
          have hpl : part.length ≤ 1099511626776 := by rw [hpart]; exact Nat.le_trans (segs_part R i hil) HRL.out
          have hdr := drop_at (segs R) i hil
          rw [← hpart] at hdr
          have HDR := Lib.hid hdr
          have HSD := Lib.hid hSd
          have hSz : S.size ≤ 1099511626776 := by rw [size_data, hSd]; exact hpl
          have HTr : Hid (UTab wr) := Lib.hid ((HT.out.keep HK1.out).keep HKP.out)
          have HEr : Hid (wr.cell? ⟨4, 0, none⟩ = some (.iface t x)) := Lib.hid (HKP.out.cell_of (HK1.out.cell_of HE.out (fun x => x)) (fun x => x))
          have hwr := HKP.out.size
          have HIV : i < vals.length := by rw [HVl.out]; exact hlt
          have hw1r : w1.heap.size < wr.heap.size := (HW.out.lt _ rfl).2
          clear hcs hc1 hpart hS hSd hdr F4 hil
          by_cases hp : Lib.hasPrefix part [120, 58] = true
          · have HP := Lib.hid hp
            have h2l := hasPrefix_len part hp
            have hkey : keyOf part = hexD (part.drop 2) := by unfold keyOf; rw [if_pos hp]
            obtain ⟨S2, hS2⟩ : ∃ S2, S2 = S.extract 2 S.size := ⟨_, rfl⟩
            have hsl2 : ∀ w, (Instr.slice 9 (.string S) (some (.int .i64 2)) none none).run Tryz.prog w = .ok (.string S2) w := fun w => by
              rw [run_slice_string_l w _ S Tryz.underlying9 .i64 _ (by omega) (by rw [size_data, HSD.out]; omega), hS2]; rfl
            have hS2d : S2.data.toList = part.drop 2 := by
              rw [hS2, Lib.extract_data, HSD.out, List.take_of_length_le (by rw [size_data, HSD.out, List.length_drop]; exact Nat.le_refl _)]
            have hS2z : S2.size ≤ 1099511626776 := by rw [size_data, hS2d, List.length_drop]; omega
            have HS2 := Lib.hid hS2d
            clear hS2 hS2d hp
            cases hq : hexD (part.drop 2) with
            | none =>
              have HQ := Lib.hid hq
              have hbad : keysL (segs R) = none := HGO.out.fail (by rw [HDR.out]; exact keysL_bad _ _ (by rw [hkey, hq]))
              have HBAD := Lib.hid hbad
              clear hq hbad hkey
              go_wp2_with (first
                | (go_at_call 81
                   refine (prefix_any S _).mono ?_
                   rintro e w2 ⟨rfl, rfl⟩
                   rw [HSD.out, HP.out])
                | (go_at_call 82
                   refine (hexdec_any S2 _ t x HEr.out (by omega)).mono ?_
                   rintro e w3 ⟨hd3, hk3⟩
                   rw [HS2.out, HQ.out] at hd3
                   obtain ⟨v3, t3, x3, rfl⟩ := hd3
                   have HK3 := Lib.hid hk3
                   clear hk3)
                | (go_at_call 57
                   refine (errNew2_any _ _).mono ?_
                   rintro e w4 ⟨⟨x4, rfl⟩, hk4⟩
                   have HK4 := Lib.hid hk4
                   clear hk4))
              go_ret2
              rw [HBAD.out]
              exact ⟨⟨_, _, rfl⟩, ((HK1.out.trans HKP.out).trans HK3.out).trans HK4.out⟩
            | some k =>
              have HQ := Lib.hid hq
              have hst : Goes (keysL (segs R)) (D ++ [k]) (keysL ((segs R).drop (i + 1))) := HGO.out.step (by rw [HDR.out]; exact keysL_cons _ _ _ (by rw [hkey, hq]))
              have HST := Lib.hid hst
              clear hq hst hkey
              go_wp2_with (first
                | (go_at_call 81
                   refine (prefix_any S _).mono ?_
                   rintro e w2 ⟨rfl, rfl⟩
                   rw [HSD.out, HP.out])
                | (go_at_call 82
                   refine (hexdec_any S2 _ t x HEr.out (by omega)).mono ?_
                   rintro e w3 ⟨hd3, hk3⟩
                   rw [HS2.out, HQ.out] at hd3
                   obtain ⟨v3, rfl, ho3⟩ := hd3
                   have HK3 := Lib.hid hk3
                   have HO3 := Lib.hid ho3
                   obtain ⟨A3, c3, rfl, -, -, -, -⟩ := ho3.form
                   have hw3 := (HW.out.keep hk3).at_ i HIV
                   have hc3 := hw3.1
                   have hf3 := hw3.2
                   have hz3 : w1.heap.size < w3.heap.size := Nat.lt_of_lt_of_le hw1r hk3.size
                   clear hk3 ho3 hw3))
              go_roundw
              case rel =>
                refine ⟨i + 1, D ++ [k], vals.set i (.slice A3 k.length c3), by omega, rfl, by go_num, by simp [HDl.out], by simp [HVl.out], HST.out, (HW.out.keep HK3.out).set_ i _, ?_, (HKP.out.trans HK3.out).setCell (fun h => absurd h (Nat.lt_irrefl _)) _⟩
                intro j hj hj2
                have hk5 : Kp (fun j => j = w1.heap.size) w3 (w3.setCell ⟨w1.heap.size, i, none⟩ (.slice A3 k.length c3)) := Kp.setCell (S := fun j => j = w1.heap.size) (Kp.refl _ _) (fun _ => rfl) _
                by_cases hji : j = i
                · subst hji
                  have e2 : (D ++ [k])[j]'hj = k := by simp [HDl.out]
                  rw [e2, List.getElem_set_self]
                  have h6 := ((HO3.out.byp (fun _ => rfl)).mono (T := fun m => m = w1.heap.size) (fun m _ e => by subst e; exact hw1r)).later hk5
                  rw [List.length_map] at h6
                  exact h6
                · have hjD : j < D.length := by simp at hj; have := HDl.out; omega
                  rw [List.getElem_append_left hjD, List.getElem_set_ne (by omega)]
                  exact ((HBY.out j hjD (by simpa using hj2)).later (HK3.out.keep)).later hk5
              case measure => simp [intOf]; omega
          · have hp' : Lib.hasPrefix part [120, 58] = false := by simpa using hp
            have HP := Lib.hid hp'
            have hkey : keyOf part = unesc part := by unfold keyOf; rw [if_neg hp]
            clear hp hp'
            cases hq : unesc part with
            | none =>
              have HQ := Lib.hid hq
              have hbad : keysL (segs R) = none := HGO.out.fail (by rw [HDR.out]; exact keysL_bad _ _ (by rw [hkey, hq]))
              have HBAD := Lib.hid hbad
              clear hq hbad hkey
              go_wp2_with (first
                | (go_at_call 81
                   refine (prefix_any S _).mono ?_
                   rintro e w2 ⟨rfl, rfl⟩
                   rw [HSD.out, HP.out])
                | (go_at_call 83
                   refine (pathUnescape_any S _ HTr.out (by omega)).mono ?_
                   rintro e w3 ⟨hd3, hk3⟩
                   rw [HSD.out, HQ.out] at hd3
                   obtain ⟨v3, t3, x3, rfl⟩ := hd3
                   have HK3 := Lib.hid hk3
                   clear hk3)
                | (go_at_call 57
                   refine (errNew2_any _ _).mono ?_
                   rintro e w4 ⟨⟨x4, rfl⟩, hk4⟩
                   have HK4 := Lib.hid hk4
                   clear hk4))
              go_ret2
              rw [HBAD.out]
              exact ⟨⟨_, _, rfl⟩, ((HK1.out.trans HKP.out).trans HK3.out).trans HK4.out⟩
            | some k =>
              have HQ := Lib.hid hq
              have hst : Goes (keysL (segs R)) (D ++ [k]) (keysL ((segs R).drop (i + 1))) := HGO.out.step (by rw [HDR.out]; exact keysL_cons _ _ _ (by rw [hkey, hq]))
              have HST := Lib.hid hst
              obtain ⟨S2, hS2⟩ : ∃ S2 : ByteArray, S2 = ⟨k.toArray⟩ := ⟨_, rfl⟩
              have hkl := unesc_length _ _ _ (Nat.le_refl _) hq
              have hS2d : S2.data.toList = k := by rw [hS2]
              have hS2z : S2.size ≤ 1099511626776 := by rw [size_data, hS2d]; omega
              have HS2 := Lib.hid (show strV k = .string S2 by rw [hS2]; rfl)
              have HS2D := Lib.hid hS2d
              clear hq hst hkey hS2 hS2d hkl
              go_wp2_with (first
                | (go_at_call 81
                   refine (prefix_any S _).mono ?_
                   rintro e w2 ⟨rfl, rfl⟩
                   rw [HSD.out, HP.out])
                | (go_at_call 83
                   refine (pathUnescape_any S _ HTr.out (by omega)).mono ?_
                   rintro e w2 ⟨hd3, hk2⟩
                   rw [HSD.out, HQ.out] at hd3
                   have hd4 : e = .returned (.tuple #[strV k, .nilIface]) := hd3
                   rw [HS2.out] at hd4
                   subst hd4
                   obtain ⟨A3, c3, w3, hcv, hk3, hb3⟩ := bytes_of S2 w2 (by omega)
                   have HK3 := Lib.hid (hk2.trans hk3)
                   have HB3 := Lib.hid (hb3 (fun m => m = w1.heap.size) (fun e => by have := hk2.size; omega))
                   have hw3 := (HW.out.keep (hk2.trans hk3)).at_ i HIV
                   have hc3 := hw3.1
                   have hf3 := hw3.2
                   have hz3 : w1.heap.size < w3.heap.size := Nat.lt_of_lt_of_le hw1r (hk2.trans hk3).size
                   clear hk2 hk3 hb3 hw3 hd3))
              go_roundw
              case rel =>
                refine ⟨i + 1, D ++ [k], vals.set i (.slice A3 S2.size c3), by omega, rfl, by go_num, by simp [HDl.out], by simp [HVl.out], HST.out, (HW.out.keep HK3.out).set_ i _, ?_, (HKP.out.trans HK3.out).setCell (fun h => absurd h (Nat.lt_irrefl _)) _⟩
                intro j hj hj2
                have hk5 : Kp (fun j => j = w1.heap.size) w3 (w3.setCell ⟨w1.heap.size, i, none⟩ (.slice A3 S2.size c3)) := Kp.setCell (S := fun j => j = w1.heap.size) (Kp.refl _ _) (fun _ => rfl) _
                by_cases hji : j = i
                · subst hji
                  have e2 : (D ++ [k])[j]'hj = k := by simp [HDl.out]
                  rw [e2, List.getElem_set_self, ← HS2D.out]
                  exact HB3.out.later hk5
                · have hjD : j < D.length := by simp at hj; have := HDl.out; omega
                  rw [List.getElem_append_left hjD, List.getElem_set_ne (by omega)]
                  exact ((HBY.out j hjD (by simpa using hj2)).later (HK3.out.keep)).later hk5
              case measure => simp [intOf]; omega
        · obtain rfl : i = N := by omega
          have hdone : keysL (segs R) = some D := HGO.out.done (by rw [drop_end _ i (by rw [← HN.out]; exact Nat.le_refl _)]; rfl)
          have HDONE := Lib.hid hdone
          clear hdone
          go_wp2_with fail
          go_ret2
          rw [HDONE.out]
          refine ⟨⟨_, rfl, HW.out.slc (by rw [HVl.out, HDl.out]) fun k h h' => (HBY.out k h' h).at_⟩, HK1.out.trans HKP.out⟩
    · have h47' : ((c.toNat : Int) != 47) = true := by
        rw [bne_iff_ne]
        intro h
        apply h47
        apply UInt8.toNat_inj.1
        simpa using (by omega : c.toNat = 47)
      have hkeys : keysOf (c :: R) = none := by simp [keysOf, h47]
      rw [hkeys]
      clear h47 hkeys
      go_enter Tryz.func73, Tryz.ntmps73
      go_wp2_with (go_at_call 57; refine (errNew2_any _ _).mono ?_; rintro e w1 ⟨⟨x, rfl⟩, hk1⟩)
      go_ret2
      exact ⟨⟨_, _, rfl⟩, hk1⟩
end Go.Proofs.YtfodkjpjejoemaaGreatDoor

/-
  The keys of a path: the specification's walked, and the package's thin call.
  Conditions: the length is bounded.
-/
namespace Go.Proofs.YtfodkjpjejoemaaGreatDoor
open Go Go.RowKit
attribute [local go_sem ↓] Go.wp_at_zero Go.wp_at_succ

/-- the keys of a path, or none -/
def EndsS (w : World) (r : Option (List (List UInt8))) (e : Ending) : Prop :=
  match r with
  | some ks => ∃ v, e = .returned (.tuple #[v, .bool true]) ∧ Mat w v ks
  | none => e = .returned (.tuple #[.slice none 0 0, .bool false])

theorem Own.lower {w : World} {base base' : Nat} {e : TypeId} {v : Value} {xs : List Value} (h : Own w base e v xs) (hb : base' ≤ base) : Own w base' e v xs := by
  refine ⟨h.1, ?_⟩
  rcases h.2 with h2 | ⟨g, cap, cur, rfl, hg, h3⟩
  · exact .inl h2
  · exact .inr ⟨g, cap, cur, rfl, Nat.le_trans hb hg, h3⟩
/-- a list of slices of bytes that the call has made -/
def Outs (w : World) (B : Nat) (v : Value) (D : List (List UInt8)) : Prop :=
  ∃ vals, Own w B 24 v vals ∧ vals.length = D.length ∧ ∀ j (h : j < vals.length) (h2 : j < D.length), Own w B 5 vals[j] (D[j].map u8v)
theorem Outs.nil_ (w : World) (B : Nat) : Outs w B (.slice none 0 0) [] := ⟨[], Own.nil_ _ _ _, rfl, fun j h => absurd h (by simp)⟩
theorem Outs.keep {w w' : World} {B : Nat} {v : Value} {D : List (List UInt8)} (h : Outs w B v D) (k : Keep w w') : Outs w' B v D := by
  obtain ⟨vals, h1, h2, h3⟩ := h
  exact ⟨vals, h1.keep k, h2, fun j hj hj2 => (h3 j hj hj2).keep k⟩
theorem Outs.mat {w : World} {B : Nat} {v : Value} {D : List (List UInt8)} (h : Outs w B v D) : Mat w v D := by
  obtain ⟨vals, h1, h2, h3⟩ := h
  exact h1.slc h2 fun j hj hj2 => (h3 j hj hj2).slc_map u8v fun _ _ => rfl
/-- one more, behind the append -/
theorem Outs.snoc {w w2 : World} {B : Nat} {ov v2 kv : Value} {vals : List Value} {D : List (List UInt8)} {K : List UInt8} (h1 : Own w B 24 ov vals) (h2 : vals.length = D.length)
    (h3 : ∀ j (h : j < vals.length) (h2 : j < D.length), Own w B 5 vals[j] (D[j].map u8v)) (hk : Own w B 5 kv (K.map u8v)) (ho : Own w2 B 24 v2 (vals ++ [kv])) (k : Kp (fun i => some i = ov.ownBlock) w w2) : Outs w2 B v2 (D ++ [K]) := by
  refine ⟨vals ++ [kv], ho, by simp [h2], fun j hj hj2 => ?_⟩
  by_cases hjl : j < vals.length
  · rw [List.getElem_append_left hjl, List.getElem_append_left (by omega)]
    exact (h3 j hjl (by omega)).kp_own h1 (by decide) k
  · obtain rfl : j = vals.length := by simp at hj; omega
    have e1 : (vals ++ [kv])[vals.length]'hj = kv := by simp
    have e2 : (D ++ [K])[vals.length]'hj2 = K := by simp [h2]
    rw [e1, e2]
    exact hk.kp_own h1 (by decide) k

/-- what is left of a path and of its segments -/
def Left (P : List UInt8) (rem : List (List UInt8)) : Prop := (P = [] ∧ rem = []) ∨ ∃ T, P = 47 :: T ∧ rem = segs T
theorem Left.go {P : List UInt8} {rem : List (List UInt8)} (h : Left P rem) (hP : P ≠ []) (m : Nat) (hm : m < P.length) (hno : ∀ c ∈ (P.take (m + 1)).drop 1, c ≠ 47) (hend : m + 1 = P.length ∨ ∃ h : m + 1 < P.length, P[m + 1] = 47) :
    ∃ rem', rem = (P.take (m + 1)).drop 1 :: rem' ∧ Left (P.drop (m + 1)) rem' := by
  rcases h with ⟨h1, _⟩ | ⟨T, rfl, rfl⟩
  · exact absurd h1 hP
  · simp only [List.take_succ_cons, List.drop_succ_cons, List.drop_zero, List.length_cons] at *
    rcases hend with he | ⟨h47, he⟩
    · refine ⟨[], ?_, .inl ⟨List.drop_of_length_le (by omega), rfl⟩⟩
      have e : T.take m = T := List.take_of_length_le (by omega)
      rw [e] at hno ⊢
      exact segs_one _ hno
    · have h47' : T[m]'(by omega) = 47 := by simpa using he
      refine ⟨segs (T.drop (m + 1)), segs_slash T m (by omega) h47' hno, .inr ⟨T.drop (m + 1), ?_, rfl⟩⟩
      rw [drop_at T m (by omega), h47']
end Go.Proofs.YtfodkjpjejoemaaGreatDoor
