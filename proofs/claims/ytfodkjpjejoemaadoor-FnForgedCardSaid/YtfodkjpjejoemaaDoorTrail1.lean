/-
  Proofs of a tree's leaves: the sums beside a way collected.
  Conditions: the way lies in memory.
-/
import Derived.Test.YtfodkjpjejoemaaDoorTrail0
namespace Go.Proofs.YtfodkjpjejoemaaDoor
open Go Go.RowKit
attribute [local go_sem ↓] Go.wp_at_zero Go.wp_at_succ

theorem Node.cells {w : World} {b : Nat} {hv par le ri : Value} (h : Node w b hv par le ri) : w.cell? ⟨b, 0, none⟩ = some hv ∧ w.cell? ⟨b, 1, none⟩ = some par ∧ w.cell? ⟨b, 2, none⟩ = some le ∧ w.cell? ⟨b, 3, none⟩ = some ri := by
  refine ⟨?_, ?_, ?_, ?_⟩ <;> rw [cell_of_row _ _ _ _ _ _ h] <;> rfl
theorem Node.keep {w w' : World} {b : Nat} {hv par le ri : Value} (h : Node w b hv par le ri) (k : Keep w w') : Node w' b hv par le ri := (k.block b (lt_of_block h) (fun x => x)).trans h
theorem HashIn.keep' {w w' : World} {bd : Nat} {hv : Value} {a : List UInt8} (h : HashIn w bd hv a) (k : Keep w w') : HashIn w' bd hv a := Own.keep h k
theorem PathTo.keep {w w' : World} {bd lo r p : Nat} {As : List (List UInt8)} (h : PathTo w bd lo r p As) (k : Keep w w') : PathTo w' bd lo r p As :=
  PathTo.mv (fun j cs _ _ hj => (k.block j (lt_of_block hj) (fun x => x)).trans hj) (fun _ _ hh => hh.keep' k) As p h

/-- the node's pointer while the way is climbed -/
def At (w : World) (bd lo r : Nat) (pv : Value) (As : List (List UInt8)) : Prop := (pv = .pointer none ∧ As = []) ∨ ∃ q, pv = ptrV q ∧ PathTo w bd lo r q As
def isPtr : Value → Nat | .pointer (some _) => 1 | _ => 0

set_option maxRecDepth 100000 in
set_option maxHeartbeats 4000000 in
theorem flatten_any (bd lo r p : Nat) (As : List (List UInt8)) (hr : Value) (w : World) (hp : PathTo w bd lo r p As) (hroot : Node w r hr (.pointer none) (.pointer none) (.pointer none)) (hl : As.length ≤ 1000000) :
    Calls Tryd.prog 99 #[ptrV p] w fun e w' => ∃ v, e = .returned v ∧ Mat w' v As ∧ Keep w w' := by
  have HP := Lib.hid hp
  have HR := Lib.hid hroot
  unfold ptrV
  clear hp hroot
  go_enter Tryd.func99, Tryd.ntmps99
  go_wp2_with fail
  go_loopw [0, 3] (fun pv ov wr => ∃ (A1 A2 : List (List UInt8)) (vals : List Value), A1 ++ A2 = As ∧ At w bd lo r pv A2 ∧ vals.length = A1.length ∧ Own wr w.heap.size 22 ov vals ∧ (∀ k (h : k < vals.length) (h2 : k < A1.length), Byts w vals[k] A1[k]) ∧ Keep w wr) (fun pv ov _ => As.length - lenV ov + isPtr pv)
  case atStart => exact ⟨[], As, [], rfl, .inr ⟨p, rfl, HP.out⟩, rfl, Own.bare w w.heap.size 22 (Nat.le_refl _), fun k h => absurd h (by simp), (Kp.refl _ _).alloc _⟩
  case round =>
    obtain ⟨A1, A2, vals, haa, hat, hvl, hown, hby, hkp⟩ := hrel
    have HAA := Lib.hid haa
    have HVL := Lib.hid hvl
    have HW := Lib.hid hown
    have HBY := Lib.hid hby
    have HKP := Lib.hid hkp
    have hal : A1.length ≤ 1000000 := by
      have : A1.length + A2.length = As.length := by rw [← haa, List.length_append]
      omega
    obtain ⟨A8, c8, rfl, f1, f2, -, -⟩ := hown.form
    rw [hvl] at f1 HW ⊢
    unfold maxLen at f2
    clear haa hvl hown hby hkp HP
    rcases hat with ⟨rfl, rfl⟩ | ⟨q, rfl, hpath⟩
    · go_wp2_with fail
      go_ret
      have hA : A1 = As := by rw [← HAA.out, List.append_nil]
      refine ⟨_, rfl, ?_, HKP.out⟩
      rw [← hA]
      exact HW.out.slc HVL.out fun k h h' => Byts.keep (HBY.out k h h') HKP.out
    · unfold ptrV
      cases A2 with
      | nil =>
        have hq : q = r := hpath
        subst hq
        obtain ⟨d0, d1, d2, d3⟩ := (HR.out.keep HKP.out).cells
        clear hpath
        go_wp2_with fail
        go_roundw
        case rel => exact ⟨A1, [], vals, HAA.out, .inl ⟨rfl, rfl⟩, HVL.out, HW.out, HBY.out, HKP.out⟩
        case measure => simp [lenV, isPtr]
      | cons a A3 =>
        obtain ⟨g1, g2, hv, par, le, ri, s, hs, sp, sl, sr, n1, hc, g3, g4, n2, hh, rest⟩ := hpath
        have N1 := Lib.hid n1
        obtain ⟨d0, d1, d2, d3⟩ := (n1.keep HKP.out).cells
        obtain ⟨b0, b1, b2, b3⟩ := (n2.keep HKP.out).cells
        unfold ptrV at d1
        rcases hc with hc | ⟨hc1, hc2⟩
        · subst hc
          unfold ptrV at d2
          have HHS := Lib.hid hh
          obtain ⟨A3', c3, hsl, -, -, -, -⟩ := hh.form
          rw [List.length_map] at hsl
          subst hsl
          have HREST := Lib.hid (show PathTo w bd lo r par A3 from rest)
          clear hh rest n1 n2
          go_wp2_with (at_builtin
                       refine wpList_app (news := [.slice A3' a.length c3]) rfl (.tmp 13) (.tmp 21) 23 rfl appM rfl (HW.out.alloc _) rfl (Src.one (by simp)) (by intro u hu; simp at hu; subst hu; rfl) (fun e => by cases e) (by rw [HVL.out]; omega) (by have := HKP.out.size; simp; omega) ?_
                       intro v2 w2 h2 hk2 _
                       have HV2 := Lib.hid h2
                       have hk2' : Keep w w2 := (HKP.out.alloc _).trans' hk2 (fun j hj e => by have := (HW.out.lt j e.symm).1; omega)
                       have HK2 := Lib.hid hk2'
                       obtain ⟨A9, c9, rfl, -, -, -, -⟩ := h2.form
                       have e1 := (N1.out.keep hk2').cells.2.1
                       have hv2l : (vals ++ [Value.slice A3' a.length c3]).length = A1.length + 1 := by rw [List.length_append, HVL.out]; rfl
                       rw [hv2l]
                       clear h2 hk2 hk2' hv2l)
          go_roundw
          case rel =>
            refine ⟨A1 ++ [a], A3, vals ++ [.slice A3' a.length c3], by rw [List.append_assoc]; exact HAA.out, .inr ⟨par, rfl, HREST.out⟩, by rw [List.length_append, List.length_append, HVL.out]; rfl, ?_, ?_, HK2.out⟩
            · have h9 := HV2.out
              have hv2l : (vals ++ [Value.slice A3' a.length c3]).length = A1.length + 1 := by rw [List.length_append, HVL.out]; rfl
              rw [hv2l] at h9
              exact h9
            · intro k hk hk2
              by_cases hki : k < vals.length
              · rw [List.getElem_append_left hki, List.getElem_append_left (by rw [← HVL.out]; exact hki)]
                exact HBY.out k hki (by rw [← HVL.out]; exact hki)
              · have hkv : k = vals.length := by simp at hk; omega
                subst hkv
                have e3 : (vals ++ [Value.slice A3' a.length c3])[vals.length]'hk = .slice A3' a.length c3 := by simp
                have e4 : (A1 ++ [a])[vals.length]'hk2 = a := by simp [HVL.out]
                rw [e3, e4]
                exact HHS.out.byts
          case measure =>
            have hlen : As.length = A1.length + (A3.length + 1) := by rw [← HAA.out]; simp
            have hvl9 := HVL.out
            simp [lenV, isPtr, ptrV]; omega
        · subst hc1
          subst hc2
          unfold ptrV at d3
          have HHS := Lib.hid hh
          obtain ⟨A3', c3, hsl, -, -, -, -⟩ := hh.form
          rw [List.length_map] at hsl
          subst hsl
          have HREST := Lib.hid (show PathTo w bd lo r par A3 from rest)
          clear hh rest n1 n2
          go_wp2_with (at_builtin
                       refine wpList_app (news := [.slice A3' a.length c3]) rfl (.tmp 29) (.tmp 37) 23 rfl appM rfl (HW.out.alloc _) rfl (Src.one (by simp)) (by intro u hu; simp at hu; subst hu; rfl) (fun e => by cases e) (by rw [HVL.out]; omega) (by have := HKP.out.size; simp; omega) ?_
                       intro v2 w2 h2 hk2 _
                       have HV2 := Lib.hid h2
                       have hk2' : Keep w w2 := (HKP.out.alloc _).trans' hk2 (fun j hj e => by have := (HW.out.lt j e.symm).1; omega)
                       have HK2 := Lib.hid hk2'
                       obtain ⟨A9, c9, rfl, -, -, -, -⟩ := h2.form
                       have e1 := (N1.out.keep hk2').cells.2.1
                       have hv2l : (vals ++ [Value.slice A3' a.length c3]).length = A1.length + 1 := by rw [List.length_append, HVL.out]; rfl
                       rw [hv2l]
                       clear h2 hk2 hk2' hv2l)
          go_roundw
          case rel =>
            refine ⟨A1 ++ [a], A3, vals ++ [.slice A3' a.length c3], by rw [List.append_assoc]; exact HAA.out, .inr ⟨par, rfl, HREST.out⟩, by rw [List.length_append, List.length_append, HVL.out]; rfl, ?_, ?_, HK2.out⟩
            · have h9 := HV2.out
              have hv2l : (vals ++ [Value.slice A3' a.length c3]).length = A1.length + 1 := by rw [List.length_append, HVL.out]; rfl
              rw [hv2l] at h9
              exact h9
            · intro k hk hk2
              by_cases hki : k < vals.length
              · rw [List.getElem_append_left hki, List.getElem_append_left (by rw [← HVL.out]; exact hki)]
                exact HBY.out k hki (by rw [← HVL.out]; exact hki)
              · have hkv : k = vals.length := by simp at hk; omega
                subst hkv
                have e3 : (vals ++ [Value.slice A3' a.length c3])[vals.length]'hk = .slice A3' a.length c3 := by simp
                have e4 : (A1 ++ [a])[vals.length]'hk2 = a := by simp [HVL.out]
                rw [e3, e4]
                exact HHS.out.byts
          case measure =>
            have hlen : As.length = A1.length + (A3.length + 1) := by rw [← HAA.out]; simp
            have hvl9 := HVL.out
            simp [lenV, isPtr, ptrV]; omega
end Go.Proofs.YtfodkjpjejoemaaDoor
