/-
  FnTold's parts: bits as text.
  Conditions: the array is known whole; the library's table of powers of ten reads as its numbers.
-/
import Derived.Test.YtfodkjpjejoemaaDoorTold4
import Derived.Test.YtfodkjpjejoemaaDoorShelf2
namespace Go.Proofs.YtfodkjpjejoemaaDoor
open Go Go.RowKit Go.Sort
attribute [local go_sem ↓] Go.wp_at_zero Go.wp_at_succ

theorem keep_grow (w : World) (k : Nat) (os : Array Obj) : Keep w (grow (w.drewN k) os) :=
  ⟨rfl, rfl, rfl, by simp [grow], fun i hi _ => by simp [grow, Array.getElem?_append_left hi]⟩
/-- the library's table of powers of ten -/
abbrev PTab (w : World) : Prop := Lib.TabIs Tryd.prog w "internal/strconv.uint64pow10" .u64 Lib.pow10Tab
theorem gPow : Tryd.prog.globalNamed "internal/strconv.uint64pow10" = some 6 := by kernel_rfl
theorem PTab.keep {w w' : World} (h : PTab w) (k : Keep w w') : PTab w' := by
  unfold PTab Lib.TabIs World.var? at h ⊢
  rw [gPow] at h ⊢
  simp only [Option.bind_some] at h ⊢
  have hlt : 6 < w.heap.size := by
    rcases Nat.lt_or_ge 6 w.heap.size with h' | h'
    · exact h'
    · rw [Array.getElem?_eq_none h'] at h; cases h
  rw [k.block _ hlt (fun x => x)]
  exact h
theorem dig_mark : ∀ p : Fin 10, isMark (UInt8.ofNat (48 + p.val)) = false := by decide
theorem itoa_marks (n : Nat) : ∀ c ∈ Lib.itoa (n : Int), isMark c = false := by
  intro c hc
  unfold Lib.itoa at hc
  rw [if_neg (by omega), Lib.decDigits_eq] at hc
  obtain ⟨t, _, rfl⟩ := List.mem_map.1 hc
  unfold Lib.dg
  exact dig_mark ⟨_, Nat.mod_lt _ (by omega)⟩
theorem itoa_filter (n : Nat) : (Lib.itoa (n : Int)).filter isMark = [] := List.filter_eq_nil_iff.2 fun c hc => by rw [itoa_marks n c hc]; decide
theorem itoa_length (n : Nat) (h : n ≤ 1000) : (Lib.itoa (n : Int)).length ≤ 4 := by
  unfold Lib.itoa
  rw [if_neg (by omega), Lib.decDigits_length]
  simp only [Int.toNat_natCast]
  by_cases h1 : n < 10
  · rw [Lib.nDigits_small h1]; omega
  · rw [Lib.nDigits_big h1]
    by_cases h2 : n / 10 < 10
    · rw [Lib.nDigits_small h2]; omega
    · rw [Lib.nDigits_big h2]
      by_cases h3 : n / 10 / 10 < 10
      · rw [Lib.nDigits_small h3]; omega
      · rw [Lib.nDigits_big h3, Lib.nDigits_small (by omega)]; omega

/-- a text whose signs are these bits -/
def TextIs (L : List Bool) (e : Ending) : Prop := ∃ T : ByteArray, e = .returned (.string T) ∧ T.data.toList.filter isMark = marksL L ∧ T.size ≤ 100000

def SI (w wr : World) (L : List Bool) (n : Nat) (lv sv iv : Value) : Prop :=
  ∃ (j : Nat) (LS : List ByteArray) (S : ByteArray), j ≤ n ∧ sv = .string S ∧ iv = .int .i64 j ∧ Own wr w.heap.size 9 lv (LS.map Value.string) ∧ allB LS ++ S.data.toList = marksL (L.take j) ∧ LS.length ≤ j ∧ S.size ≤ j ∧ (∀ s ∈ LS, s.size ≤ 1000) ∧ Keep w wr

set_option maxRecDepth 100000 in
set_option maxHeartbeats 2000000 in
theorem stringIndented_any (b g : Nat) (L : List Bool) (w : World) (h : BA w b g L.length (pack L)) (hn : L.length ≤ 900) (ht : PTab w) :
    Calls Tryd.prog 134 #[.pointer (some ⟨b, 0, none⟩), .string { data := #[] }] w fun e w' => TextIs L e ∧ Keep w w' := by
  obtain ⟨c0, c1, c2⟩ := h.cells
  have H := Lib.hid h
  have HT := Lib.hid ht
  have HMT := Lib.hid (marksL_take L)
  obtain ⟨n, hnn⟩ : ∃ n, n = L.length := ⟨_, rfl⟩
  rw [← hnn] at c0 hn H
  have HN := Lib.hid hnn
  clear c1 c2 h hnn ht
  go_enter Tryd.func134, Tryd.ntmps134
  go_wp2_with fail
  go_loopw [5, 6, 7] (fun lv sv iv wr => SI w wr L n lv sv iv) (fun _ _ iv _ => n - (intOf iv).toNat)
  case atStart => exact ⟨0, [], ⟨#[]⟩, Nat.zero_le _, rfl, rfl, by first | exact Own.bare _ _ _ (Nat.le_refl _) | exact Own.nil_ _ _ _, by simp [allB, marksL], Nat.le_refl _, Nat.le_refl _, fun s hs => (by cases hs), by first | exact Kp.refl _ _ | exact (Kp.refl _ _).alloc _⟩
  case round =>
    obtain ⟨j, LS, S, hj, rfl, rfl, ho, hm, hl, hz, hzs, hk⟩ := hrel
    have HO := Lib.hid ho
    have HM := Lib.hid hm
    have HZS := Lib.hid hzs
    have HK := Lib.hid hk
    have c0' := hk.cell_of c0 (fun x => x)
    have hwz := hk.size
    clear ho hm hzs
    by_cases hlt : j < n
    · have HG := Lib.hid (getIndex_any b g n (pack L) j wr (H.out.kp hk (fun x => x) (fun x => x)) (by omega))
      have HD := Lib.hid (show decide (j < n) = true by simpa using hlt)
      have HB := Lib.hid (bitAt_pack L j)
      have HTT := Lib.hid (HMT.out j (by rw [← HN.out]; exact hlt))
      clear hk
      have hq : ∃ (ch : UInt8) (S1 : ByteArray), ch = (if L.getD j false then 120 else 95) ∧ S1.data.toList = S.data.toList ++ [ch] := ⟨_, ⟨(S.data.toList ++ [if L.getD j false then 120 else 95]).toArray⟩, rfl, rfl⟩
      obtain ⟨ch, S1, hch, hS1⟩ := hq
      have hz1 : S1.size = S.size + 1 := by rw [size_data, hS1, size_data]; simp
      rw [← hch] at HTT
      have HSM : Hid (allB LS ++ S1.data.toList = marksL (L.take (j + 1))) := Lib.hid (by rw [hS1, ← List.append_assoc, HM.out, HTT.out])
      have HO1 := Lib.hid (fun w1 : World => fun k : Keep wr w1 => HO.out.keep k)
      have e1 := add_nothing S1 (by omega)
      have e0 := add_nothing { data := #[] } (by decide)
      have hcase : (j % 100 = 99 ∧ j % 10 = 9 ∧ j % 50 = 49) ∨ (¬ j % 100 = 99 ∧ j % 10 = 9 ∧ j % 50 = 49) ∨ (¬ j % 100 = 99 ∧ j % 10 = 9 ∧ ¬ j % 50 = 49) ∨ (¬ j % 100 = 99 ∧ ¬ j % 10 = 9 ∧ ¬ j % 50 = 49) := by omega
      have hwb : wr.heap.size ≤ wr.heap.size + 0 := by omega
      have HFIN := Lib.hid (fun (lv2 : Value) (LS2 : List ByteArray) (S2 : ByteArray) (w2 : World) (h1 : Own w2 w.heap.size 9 lv2 (LS2.map Value.string)) (h2 : allB LS2 ++ S2.data.toList = marksL (L.take (j + 1))) (h3 : LS2.length ≤ j + 1) (h4 : S2.size ≤ j + 1) (h5 : ∀ s ∈ LS2, s.size ≤ 1000) (h6 : Keep w w2) =>
        (show SI w w2 L n lv2 (.string S2) (.int .i64 ((j : Int) + 1)) from ⟨j + 1, LS2, S2, hlt, rfl, by go_num, h1, h2, h3, h4, h5, h6⟩))
      have hul : (LS.map Value.string).length = LS.length := by simp
      have HU := Lib.hid hul
      clear hul hwb HTT
      cases hv : L.getD j false
      all_goals
        have HV := Lib.hid hv
        rw [hv] at hch
        first
          | (have a1 := addS S { data := #[120] } S1 (by rw [hS1, hch]; rfl) (by have : ({ data := #[120] } : ByteArray).size = 1 := rfl; omega)
             clear hv hch hS1)
          | (have a1 := addS S { data := #[95] } S1 (by rw [hS1, hch]; rfl) (by have : ({ data := #[95] } : ByteArray).size = 1 := rfl; omega)
             clear hv hch hS1)
        rcases hcase with ⟨q1, q2, q3⟩ | ⟨q1, q2, q3⟩ | ⟨q1, q2, q3⟩ | ⟨q1, q2, q3⟩
        · have p1 : ((j : Int) % 100 == 99) = true := by simp; omega
          have p2 : ((j : Int) % 10 == 9) = true := by simp; omega
          have p3 : ((j : Int) % 50 == 49) = true := by simp; omega
          clear q1 q2 q3
          go_wp2_with (first
            | (go_at_call 105; refine HG.out.mono ?_; rintro e w' ⟨rfl, rfl⟩; rw [HD.out, Bool.true_and, HB.out, HV.out])
            | (at_builtin; refine wpList_app rfl (.tmp 27) (.tmp 29) _ rfl appS rfl (HO.out.alloc _) rfl (news := [.string S1]) (Src.one (by simp)) ?c1 ?c2 ?c3 ?c4 ?_))
          case c1 => intro u hu; simp at hu; subst hu; rfl
          case c2 => intro x; cases x
          case c3 => rw [HU.out]; omega
          case c4 => simp; omega
          intro v2 w2 h2 hk2 _
          have HV2 := Lib.hid h2
          have HK2 := Lib.hid hk2
          clear h2 hk2
          go_wp2_with fail
          go_roundw
          case rel =>
            refine HFIN.out v2 (LS ++ [S1]) _ w2 (by rw [List.map_append]; exact HV2.out) (by rw [allB_snoc]; simpa using HSM.out) (by simp; omega) (by have : ({ data := #[] } : ByteArray).size = 0 := rfl; omega) ?_ ((HK.out.alloc _).trans' HK2.out fun i hi he => ?_)
            · intro s hs
              rcases List.mem_append.1 hs with hs | hs
              · exact HZS.out s hs
              · rw [List.mem_singleton.1 hs]; omega
            · have := HO.out.lt i he.symm
              omega
          case measure => simp [intOf]; omega
        all_goals
          have p1 : ((j : Int) % 100 == 99) = false := by simp; omega
          first | have p2 : ((j : Int) % 10 == 9) = true := by simp; omega
                | have p2 : ((j : Int) % 10 == 9) = false := by simp; omega
          first | have p3 : ((j : Int) % 50 == 49) = true := by simp; omega
                | have p3 : ((j : Int) % 50 == 49) = false := by simp; omega
          clear q1 q2 q3
          go_wp2_with (first
            | (go_at_call 105; refine HG.out.mono ?_; rintro e w' ⟨rfl, rfl⟩; rw [HD.out, Bool.true_and, HB.out, HV.out]))
          go_roundw
          case rel => exact HFIN.out _ LS S1 _ HO.out HSM.out (by omega) (by omega) HZS.out HK.out
          case measure => simp [intOf]; omega
    · obtain rfl : j = n := by omega
      have hall : L.take j = L := List.take_of_length_le (by rw [← HN.out]; exact Nat.le_refl _)
      rw [hall] at HM
      clear hall hk
      have hml := marksL_length L
      have HML := Lib.hid hml
      clear hml
      by_cases hS0 : S.size = 0
      · have hse : S.data.toList = [] := List.eq_nil_of_length_eq_zero (by rw [← size_data]; exact hS0)
        have hs0 : ¬ (0 : Int) < (S.size : Int) := by omega
        have HAX := Lib.hid (show allB LS = marksL L by have := HM.out; rw [hse, List.append_nil] at this; exact this)
        clear hse hS0
        have HKX := HK
        have HOX := HO
        have HZX := HZS
        obtain ⟨D, hD⟩ : ∃ D : ByteArray, D = ⟨(Lib.itoa ((j : Nat) : Int)).toArray⟩ := ⟨_, rfl⟩
        have hDd : D.data.toList = Lib.itoa ((j : Nat) : Int) := by rw [hD]
        have hDz : D.size ≤ 4 := by rw [size_data, hDd]; exact itoa_length j (by omega)
        have HDE := Lib.hid hD.symm
        obtain ⟨E1, hE1⟩ : ∃ E1 : ByteArray, E1 = ⟨([66, 65, 123] ++ D.data.toList).toArray⟩ := ⟨_, rfl⟩
        have hE1d : E1.data.toList = [66, 65, 123] ++ D.data.toList := by rw [hE1]
        obtain ⟨E2, hE2⟩ : ∃ E2 : ByteArray, E2 = ⟨(E1.data.toList ++ [58]).toArray⟩ := ⟨_, rfl⟩
        have hE2d : E2.data.toList = E1.data.toList ++ [58] := by rw [hE2]
        have hE1z : E1.size = D.size + 3 := by rw [size_data, hE1d, List.length_append, ← size_data, Nat.add_comm]; rfl
        have hE2z : E2.size = E1.size + 1 := by rw [size_data, hE2d, List.length_append, ← size_data]; rfl
        have a1 := addS { data := #[66, 65, 123] } D E1 (by rw [hE1d]) (by have : ({ data := #[66, 65, 123] } : ByteArray).size = 3 := rfl; omega)
        have a2 := addS E1 { data := #[58] } E2 (by rw [hE2d]) (by have : ({ data := #[58] } : ByteArray).size = 1 := rfl; omega)
        have HE2 := Lib.hid (show E2.data.toList = [66, 65, 123] ++ Lib.itoa ((j : Nat) : Int) ++ [58] by rw [hE2d, hE1d, hDd])
        clear hD hDd hE1 hE1d hE2 hE2d
        go_wp2_with
          (first
            | (go_at_call 151
               refine (Tryd.strconv_Itoa ((j : Nat) : Int) (by omega) (by omega) _ (PTab.keep HT.out HKX.out)).mono ?_
               rintro e w3 ⟨rfl, q, os, hw3⟩
               rw [HDE.out]
               have hk3 : Keep w w3 := by rw [hw3]; exact HKX.out.trans (keep_grow _ _ _)
               have HK3 := Lib.hid hk3
               have HOS3 := Lib.hid (HOX.out.keep (w' := w3) (by rw [hw3]; exact keep_grow _ _ _))
               clear hw3 hk3)
            | (go_at_call 152; go_loud (
               refine (join_any _ LS _ (Own.slc_map Value.string HOS3.out fun _ _ => rfl) (by omega) HZX.out).mono ?_
               rintro e w4 ⟨⟨R, rfl, hR⟩, hk4⟩
               obtain ⟨E3, hE3⟩ : ∃ E3 : ByteArray, E3 = ⟨(E2.data.toList ++ R.data.toList).toArray⟩ := ⟨_, rfl⟩
               have hE3d : E3.data.toList = E2.data.toList ++ R.data.toList := by rw [hE3]
               obtain ⟨E4, hE4⟩ : ∃ E4 : ByteArray, E4 = ⟨(E3.data.toList ++ [125]).toArray⟩ := ⟨_, rfl⟩
               have hE4d : E4.data.toList = E3.data.toList ++ [125] := by rw [hE4]
               have hRz : R.size ≤ 1000 := by rw [size_data, hR, HAX.out, marksL_length]; have := HN.out; omega
               have hE3z : E3.size = E2.size + R.size := by rw [size_data, hE3d, List.length_append, ← size_data, ← size_data]
               have hE4z : E4.size = E3.size + 1 := by rw [size_data, hE4d, List.length_append, ← size_data]; rfl
               have a3 := addS E2 R E3 hE3d (by omega)
               have a4 := addS E3 { data := #[125] } E4 (by rw [hE4d]) (by have : ({ data := #[125] } : ByteArray).size = 1 := rfl; omega)
               have HFI := Lib.hid (show E4.data.toList.filter isMark = marksL L by
                 rw [hE4d, hE3d, HE2.out, hR, HAX.out]
                 simp only [List.filter_append]
                 rw [marksL_filter, itoa_filter, show List.filter isMark [66, 65, 123] = [] from rfl, show List.filter isMark [58] = [] from rfl, show List.filter isMark [125] = [] from rfl]
                 simp)
               have HK4 := Lib.hid (HK3.out.trans hk4)
               clear hE3 hE3d hE4 hE4d hR hk4)))
        go_ret
        exact ⟨⟨E4, rfl, HFI.out, by omega⟩, HK4.out⟩
      · have hs0 : (0 : Int) < (S.size : Int) := by omega
        have hul : (LS.map Value.string).length = LS.length := by simp
        have HU := Lib.hid hul
        have HAX := Lib.hid (show allB (LS ++ [S]) = marksL L by rw [allB_snoc]; exact HM.out)
        have HZX : Hid (∀ s ∈ LS ++ [S], s.size ≤ 1000) := Lib.hid fun s hs => by
          rcases List.mem_append.1 hs with hs | hs
          · exact HZS.out s hs
          · rw [List.mem_singleton.1 hs]; omega
        obtain ⟨LSX, hLSX⟩ : ∃ LSX, LSX = LS ++ [S] := ⟨_, rfl⟩
        have hlx : LSX.length ≤ j + 1 := by rw [hLSX]; simp; omega
        rw [← hLSX] at HAX HZX
        have HLSX := Lib.hid hLSX
        clear hul hLSX hS0
        obtain ⟨D, hD⟩ : ∃ D : ByteArray, D = ⟨(Lib.itoa ((j : Nat) : Int)).toArray⟩ := ⟨_, rfl⟩
        have hDd : D.data.toList = Lib.itoa ((j : Nat) : Int) := by rw [hD]
        have hDz : D.size ≤ 4 := by rw [size_data, hDd]; exact itoa_length j (by omega)
        have HDE := Lib.hid hD.symm
        obtain ⟨E1, hE1⟩ : ∃ E1 : ByteArray, E1 = ⟨([66, 65, 123] ++ D.data.toList).toArray⟩ := ⟨_, rfl⟩
        have hE1d : E1.data.toList = [66, 65, 123] ++ D.data.toList := by rw [hE1]
        obtain ⟨E2, hE2⟩ : ∃ E2 : ByteArray, E2 = ⟨(E1.data.toList ++ [58]).toArray⟩ := ⟨_, rfl⟩
        have hE2d : E2.data.toList = E1.data.toList ++ [58] := by rw [hE2]
        have hE1z : E1.size = D.size + 3 := by rw [size_data, hE1d, List.length_append, ← size_data, Nat.add_comm]; rfl
        have hE2z : E2.size = E1.size + 1 := by rw [size_data, hE2d, List.length_append, ← size_data]; rfl
        have a1 := addS { data := #[66, 65, 123] } D E1 (by rw [hE1d]) (by have : ({ data := #[66, 65, 123] } : ByteArray).size = 3 := rfl; omega)
        have a2 := addS E1 { data := #[58] } E2 (by rw [hE2d]) (by have : ({ data := #[58] } : ByteArray).size = 1 := rfl; omega)
        have HE2 := Lib.hid (show E2.data.toList = [66, 65, 123] ++ Lib.itoa ((j : Nat) : Int) ++ [58] by rw [hE2d, hE1d, hDd])
        clear hD hDd hE1 hE1d hE2 hE2d
        go_wp2_with (at_builtin; refine wpList_app rfl (.tmp 46) (.tmp 48) _ rfl appS rfl (HO.out.alloc _) rfl (news := [.string S]) (Src.one (by simp)) ?c1 ?c2 ?c3 ?c4 ?_)
        case c1 => intro u hu; simp at hu; subst hu; rfl
        case c2 => intro x; cases x
        case c3 => rw [HU.out]; omega
        case c4 => simp; omega
        intro v2 wX h2 hk2 _
        have HOX : Hid (Own wX w.heap.size 9 v2 (LSX.map Value.string)) := Lib.hid (by rw [HLSX.out, List.map_append]; exact h2)
        have hkx : Keep w wX := (HK.out.alloc (.cells #[.string S] 9)).trans' hk2 fun i hi he => by
          have := HO.out.lt i he.symm
          omega
        have HKX := Lib.hid hkx
        have c0x := hkx.cell_of c0 (fun x => x)
        clear h2 hk2 hkx
        go_wp2_with
          (first
            | (go_at_call 151
               refine (Tryd.strconv_Itoa ((j : Nat) : Int) (by omega) (by omega) _ (PTab.keep HT.out HKX.out)).mono ?_
               rintro e w3 ⟨rfl, q, os, hw3⟩
               rw [HDE.out]
               have hk3 : Keep w w3 := by rw [hw3]; exact HKX.out.trans (keep_grow _ _ _)
               have HK3 := Lib.hid hk3
               have HOS3 := Lib.hid (HOX.out.keep (w' := w3) (by rw [hw3]; exact keep_grow _ _ _))
               clear hw3 hk3)
            | (go_at_call 152; go_loud (
               refine (join_any _ LSX _ (Own.slc_map Value.string HOS3.out fun _ _ => rfl) (by omega) HZX.out).mono ?_
               rintro e w4 ⟨⟨R, rfl, hR⟩, hk4⟩
               obtain ⟨E3, hE3⟩ : ∃ E3 : ByteArray, E3 = ⟨(E2.data.toList ++ R.data.toList).toArray⟩ := ⟨_, rfl⟩
               have hE3d : E3.data.toList = E2.data.toList ++ R.data.toList := by rw [hE3]
               obtain ⟨E4, hE4⟩ : ∃ E4 : ByteArray, E4 = ⟨(E3.data.toList ++ [125]).toArray⟩ := ⟨_, rfl⟩
               have hE4d : E4.data.toList = E3.data.toList ++ [125] := by rw [hE4]
               have hRz : R.size ≤ 1000 := by rw [size_data, hR, HAX.out, marksL_length]; have := HN.out; omega
               have hE3z : E3.size = E2.size + R.size := by rw [size_data, hE3d, List.length_append, ← size_data, ← size_data]
               have hE4z : E4.size = E3.size + 1 := by rw [size_data, hE4d, List.length_append, ← size_data]; rfl
               have a3 := addS E2 R E3 hE3d (by omega)
               have a4 := addS E3 { data := #[125] } E4 (by rw [hE4d]) (by have : ({ data := #[125] } : ByteArray).size = 1 := rfl; omega)
               have HFI := Lib.hid (show E4.data.toList.filter isMark = marksL L by
                 rw [hE4d, hE3d, HE2.out, hR, HAX.out]
                 simp only [List.filter_append]
                 rw [marksL_filter, itoa_filter, show List.filter isMark [66, 65, 123] = [] from rfl, show List.filter isMark [58] = [] from rfl, show List.filter isMark [125] = [] from rfl]
                 simp)
               have HK4 := Lib.hid (HK3.out.trans hk4)
               clear hE3 hE3d hE4 hE4d hR hk4)))
        go_ret
        exact ⟨⟨E4, rfl, HFI.out, by omega⟩, HK4.out⟩

theorem string_any (b g : Nat) (L : List Bool) (w : World) (h : BA w b g L.length (pack L)) (hn : L.length ≤ 900) (ht : PTab w) :
    Calls Tryd.prog 78 #[.pointer (some ⟨b, 0, none⟩)] w fun e w' => TextIs L e ∧ Keep w w' := by
  have HS := Lib.hid (stringIndented_any b g L w h hn ht)
  clear h ht
  go_enter Tryd.func78, Tryd.ntmps78
  go_wp2_with (first
    | (go_at_call 134; refine HS.out.mono ?_; rintro e w1 ⟨⟨T, rfl, hT, hz⟩, hk⟩; have HTT := Lib.hid hT; clear hT)
    | go_in)
  go_ret
  exact ⟨⟨T, rfl, HTT.out, hz⟩, hk⟩
end Go.Proofs.YtfodkjpjejoemaaDoor
