
/-
  Proofs of a tree's leaves: the sums beside each way in plain Lean; nodes in memory, and the way from a leaf's node to the root's.
  Conditions: none (definitions, and laws on them).
-/
import Derived.Test.YtfodkjpjejoemaaGreatDoorZk
namespace Go.Proofs.YtfodkjpjejoemaaGreatDoor
open Go Go.RowKit

/-- the sums beside the way of leaf i, the lowest one first -/
def auntsF : Nat → List (List UInt8) → Nat → List (List UInt8)
  | 0, _, _ => []
  | f + 1, L, i => if L.length ≤ 1 then [] else if i < splt L.length then auntsF f (L.take (splt L.length)) i ++ [rootS (L.drop (splt L.length))] else auntsF f (L.drop (splt L.length)) (i - splt L.length) ++ [rootS (L.take (splt L.length))]
theorem auntsF_enough : ∀ (f h : Nat) (L : List (List UInt8)) (i : Nat), L.length ≤ f → L.length ≤ h → auntsF f L i = auntsF h L i
  | 0, 0, _, _, _, _ => rfl
  | 0, h + 1, L, i, hf, _ => by simp only [auntsF]; rw [if_pos (by omega)]
  | f + 1, 0, L, i, _, hh => by simp only [auntsF]; rw [if_pos (by omega)]
  | f + 1, h + 1, L, i, hf, hh => by
    simp only [auntsF]
    by_cases h1 : L.length ≤ 1
    · rw [if_pos h1, if_pos h1]
    · have hs := splt_lt L.length (by omega)
      rw [if_neg h1, if_neg h1, auntsF_enough f h (L.take (splt L.length)) i (by simp; omega) (by simp; omega), auntsF_enough f h (L.drop (splt L.length)) (i - splt L.length) (by simp; omega) (by simp; omega)]
def auntsS (L : List (List UInt8)) (i : Nat) : List (List UInt8) := auntsF L.length L i
theorem auntsS_one (L : List (List UInt8)) (i : Nat) (h : L.length ≤ 1) : auntsS L i = [] := by
  unfold auntsS
  cases L.length with
  | zero => rfl
  | succ n => simp only [auntsF]; rw [if_pos h]
theorem auntsS_more (L : List (List UInt8)) (i : Nat) (h : 2 ≤ L.length) : auntsS L i = if i < splt L.length then auntsS (L.take (splt L.length)) i ++ [rootS (L.drop (splt L.length))] else auntsS (L.drop (splt L.length)) (i - splt L.length) ++ [rootS (L.take (splt L.length))] := by
  have hs := splt_lt L.length h
  obtain ⟨n, hn⟩ : ∃ n, L.length = n + 1 := ⟨L.length - 1, by omega⟩
  have e : auntsS L i = auntsF (n + 1) L i := by unfold auntsS; rw [hn]
  rw [e]
  simp only [auntsF]
  rw [if_neg (by omega)]
  rw [auntsF_enough n (L.take (splt L.length)).length _ i (by simp; omega) (Nat.le_refl _), auntsF_enough n (L.drop (splt L.length)).length _ (i - splt L.length) (by simp; omega) (Nat.le_refl _)]
  rfl
/-- each leaf leads to the root -/
theorem climb_aunts : ∀ (n : Nat) (L : List (List UInt8)) (i : Nat) (_ : L.length ≤ n) (h : i < L.length), climbS (leafS L[i]) (auntsS L i) L.length i = some (rootS L) := by
  intro n
  induction n with
  | zero => intro L i hn h; omega
  | succ n ih =>
    intro L i hn h
    by_cases h1 : L.length ≤ 1
    · have hl : L.length = 1 := by omega
      match L, hl with
      | [b], _ =>
        have hi : i = 0 := by simpa using h
        subst hi
        rw [auntsS_one _ _ (by simp)]
        show climbS (leafS b) [] 1 0 = _
        rw [climbS_one]; rfl
    · have hs := splt_lt L.length (by omega)
      have hr := rootS_more L (by omega)
      have ha := auntsS_more L i (by omega)
      have hlt : (L.take (splt L.length)).length = splt L.length := by rw [List.length_take]; omega
      have hld : (L.drop (splt L.length)).length = L.length - splt L.length := List.length_drop
      by_cases hik : i < splt L.length
      · rw [if_pos hik] at ha
        have hm : (auntsS L i).length = (auntsS (L.take (splt L.length)) i).length + 1 := by rw [ha]; simp
        rw [climbS_last _ _ _ _ (by omega) _ hm, if_pos hik]
        have e1 : (auntsS L i).take (auntsS (L.take (splt L.length)) i).length = auntsS (L.take (splt L.length)) i := by rw [ha, List.take_left]
        have e2 : (auntsS L i)[(auntsS (L.take (splt L.length)) i).length]'(by omega) = rootS (L.drop (splt L.length)) := by
          simp only [ha]; simp
        have h3 := ih (L.take (splt L.length)) i (by omega) (by omega)
        have e3 : (L.take (splt L.length))[i]'(by omega) = L[i] := by simp
        rw [e3, hlt] at h3
        rw [e1, h3, e2, hr]; rfl
      · rw [if_neg hik] at ha
        have hm : (auntsS L i).length = (auntsS (L.drop (splt L.length)) (i - splt L.length)).length + 1 := by rw [ha]; simp
        rw [climbS_last _ _ _ _ (by omega) _ hm, if_neg hik]
        have e1 : (auntsS L i).take (auntsS (L.drop (splt L.length)) (i - splt L.length)).length = auntsS (L.drop (splt L.length)) (i - splt L.length) := by rw [ha, List.take_left]
        have e2 : (auntsS L i)[(auntsS (L.drop (splt L.length)) (i - splt L.length)).length]'(by omega) = rootS (L.take (splt L.length)) := by
          simp only [ha]; simp
        have h3 := ih (L.drop (splt L.length)) (i - splt L.length) (by omega) (by omega)
        have e3 : (L.drop (splt L.length))[i - splt L.length]'(by omega) = L[i] := by
          rw [List.getElem_drop]; congr 1; omega
        rw [e3, hld] at h3
        rw [e1, h3, e2, hr]; rfl
theorem auntsS_32 : ∀ (n : Nat) (L : List (List UInt8)) (i : Nat), L.length ≤ n → ∀ a ∈ auntsS L i, a.length = 32 := by
  intro n
  induction n with
  | zero => intro L i hn a ha; rw [auntsS_one L i (by omega)] at ha; cases ha
  | succ n ih =>
    intro L i hn a ha
    by_cases h1 : L.length ≤ 1
    · rw [auntsS_one L i h1] at ha; cases ha
    · have hs := splt_lt L.length (by omega)
      rw [auntsS_more L i (by omega)] at ha
      split at ha
      · rcases List.mem_append.1 ha with h | h
        · exact ih _ i (by rw [List.length_take]; omega) a h
        · rw [List.mem_singleton.1 h]; exact rootS_length _
      · rcases List.mem_append.1 ha with h | h
        · exact ih _ _ (by rw [List.length_drop]; omega) a h
        · rw [List.mem_singleton.1 h]; exact rootS_length _
theorem splt_half (n : Nat) (h : 2 ≤ n) : ∀ c, n ≤ 2 ^ (c + 1) → splt n ≤ 2 ^ c := by
  intro c hc
  obtain ⟨j, e, h1, h2⟩ := splt_is n h
  rw [e]
  rcases Nat.lt_or_ge c j with hcj | hcj
  · have := Nat.pow_le_pow_right (show 0 < 2 by omega) hcj
    rw [Nat.succ_eq_add_one] at this
    omega
  · exact Nat.pow_le_pow_right (by omega) hcj
theorem auntsS_count : ∀ (c : Nat) (L : List (List UInt8)) (i : Nat), L.length ≤ 2 ^ c → (auntsS L i).length ≤ c := by
  intro c
  induction c with
  | zero => intro L i h; rw [auntsS_one L i (by simpa using h)]; simp
  | succ c ih =>
    intro L i h
    by_cases h1 : L.length ≤ 1
    · rw [auntsS_one L i h1]; simp
    · have hs := splt_lt L.length (by omega)
      have hh := splt_half L.length (by omega) c h
      have h2 : L.length - splt L.length ≤ 2 ^ c := by
        obtain ⟨j, e, g1, g2⟩ := splt_is L.length (by omega)
        rw [e] at hh ⊢; omega
      rw [auntsS_more L i (by omega)]
      split
      · rw [List.length_append]
        have := ih (L.take (splt L.length)) i (by rw [List.length_take]; omega)
        simp; omega
      · rw [List.length_append]
        have := ih (L.drop (splt L.length)) (i - splt L.length) (by rw [List.length_drop]; omega)
        simp; omega

/-- a node's block -/
def Node (w : World) (b : Nat) (hv par le ri : Value) : Prop := w.heap[b]? = some (.cells #[hv, par, le, ri] 78 (0, 0))
def ptrV (b : Nat) : Value := .pointer (some ⟨b, 0, none⟩)
/-- a sum that lies apart from the digest -/
def HashIn (w : World) (bd : Nat) (hv : Value) (a : List UInt8) : Prop := Own w (bd + 1) 5 hv (a.map u8v)
theorem HashIn.byts {w : World} {bd : Nat} {hv : Value} {a : List UInt8} (h : HashIn w bd hv a) : Byts w hv a := Own.slc_map u8v h fun _ _ => rfl
theorem HashIn.keep {w w' : World} {bd : Nat} {hv : Value} {a : List UInt8} (h : HashIn w bd hv a) (k : Kp (fun j => j = bd) w w') : HashIn w' bd hv a :=
  Own.kp h k fun b hb e => by have := (h.lt b hb).1; omega
/-- the way from a node up to r: all between lo and r, the root alone may be written later -/
def PathTo (w : World) (bd lo r : Nat) : Nat → List (List UInt8) → Prop
  | p, [] => p = r
  | p, a :: As => lo ≤ p ∧ p < r ∧ ∃ hv par le ri s hs sp sl sr, Node w p hv (ptrV par) le ri ∧ (le = ptrV s ∨ le = .pointer none ∧ ri = ptrV s) ∧ lo ≤ s ∧ s < r ∧ Node w s hs sp sl sr ∧ HashIn w bd hs a ∧ PathTo w bd lo r par As
theorem PathTo.mv {w w' : World} {bd lo r : Nat} (hN : ∀ j cs, lo ≤ j → j < r → w.heap[j]? = some (.cells cs 78 (0, 0)) → w'.heap[j]? = some (.cells cs 78 (0, 0)))
    (hH : ∀ hs a, HashIn w bd hs a → HashIn w' bd hs a) : ∀ (As : List (List UInt8)) (p : Nat), PathTo w bd lo r p As → PathTo w' bd lo r p As
  | [], _, h => h
  | a :: As, p, h => by
    obtain ⟨h1, h2, hv, par, le, ri, s, hs, sp, sl, sr, n1, c1, h3, h4, n2, hh, rest⟩ := h
    exact ⟨h1, h2, hv, par, le, ri, s, hs, sp, sl, sr, hN _ _ h1 h2 n1, c1, h3, h4, hN _ _ h3 h4 n2, hH _ _ hh, PathTo.mv hN hH As par rest⟩
theorem PathTo.lower {w : World} {bd lo lo' r : Nat} (hl : lo' ≤ lo) : ∀ (As : List (List UInt8)) (p : Nat), PathTo w bd lo r p As → PathTo w bd lo' r p As
  | [], _, h => h
  | a :: As, p, h => by
    obtain ⟨h1, h2, hv, par, le, ri, s, hs, sp, sl, sr, n1, c1, h3, h4, n2, hh, rest⟩ := h
    exact ⟨by omega, h2, hv, par, le, ri, s, hs, sp, sl, sr, n1, c1, by omega, h4, n2, hh, PathTo.lower hl As par rest⟩
/-- one step more: the root has got a parent and a sibling -/
theorem PathTo.up {w : World} {bd lo r r' s : Nat} {hv le ri hs sp sl sr : Value} {a : List UInt8} (hr : lo ≤ r) (hrr : r < r') (n1 : Node w r hv (ptrV r') le ri) (c1 : le = ptrV s ∨ le = .pointer none ∧ ri = ptrV s) (h3 : lo ≤ s) (h4 : s < r') (n2 : Node w s hs sp sl sr) (hh : HashIn w bd hs a) :
    ∀ (As : List (List UInt8)) (p : Nat), PathTo w bd lo r p As → PathTo w bd lo r' p (As ++ [a])
  | [], p, h => by
    have e : p = r := h
    subst e
    exact ⟨hr, hrr, hv, r', le, ri, s, hs, sp, sl, sr, n1, c1, h3, h4, n2, hh, rfl⟩
  | x :: As, p, h => by
    obtain ⟨g1, g2, hv', par, le', ri', s', hs', sp', sl', sr', m1, d1, g3, g4, m2, gh, rest⟩ := h
    exact ⟨g1, by omega, hv', par, le', ri', s', hs', sp', sl', sr', m1, d1, g3, by omega, m2, gh, PathTo.up hr hrr n1 c1 h3 h4 n2 hh As par rest⟩
end Go.Proofs.YtfodkjpjejoemaaGreatDoor

/-
  Proofs of a tree's leaves: the sums beside a way collected.
  Conditions: the way lies in memory.
-/
namespace Go.Proofs.YtfodkjpjejoemaaGreatDoor
open Go Go.RowKit
attribute [local go_sem ↓] Go.wp_at_zero Go.wp_at_succ

theorem Node.cells {w : World} {b : Nat} {hv par le ri : Value} (h : Node w b hv par le ri) : w.cell? ⟨b, 0, none⟩ = some hv ∧ w.cell? ⟨b, 1, none⟩ = some par ∧ w.cell? ⟨b, 2, none⟩ = some le ∧ w.cell? ⟨b, 3, none⟩ = some ri := by
  refine ⟨?_, ?_, ?_, ?_⟩ <;> rw [cell_of_row _ _ _ _ _ _ h] <;> rfl
theorem Node.keep {w w' : World} {b : Nat} {hv par le ri : Value} (h : Node w b hv par le ri) (k : Keep w w') : Node w' b hv par le ri := (k.block b (lt_of_block h) (fun x => x)).trans h
theorem HashIn.keep' {w w' : World} {bd : Nat} {hv : Value} {a : List UInt8} (h : HashIn w bd hv a) (k : Keep w w') : HashIn w' bd hv a := Own.keep h k
theorem PathTo.keep {w w' : World} {bd lo r p : Nat} {As : List (List UInt8)} (h : PathTo w bd lo r p As) (k : Keep w w') : PathTo w' bd lo r p As :=
  PathTo.mv (fun j _ _ _ hj => (k.block j (lt_of_block hj) (fun x => x)).trans hj) (fun _ _ hh => hh.keep' k) As p h

/-- the node's pointer while the way is climbed -/
def At (w : World) (bd lo r : Nat) (pv : Value) (As : List (List UInt8)) : Prop := (pv = .pointer none ∧ As = []) ∨ ∃ q, pv = ptrV q ∧ PathTo w bd lo r q As
def isPtr : Value → Nat | .pointer (some _) => 1 | _ => 0

set_option maxRecDepth 100000 in
set_option maxHeartbeats 4000000 in
theorem flatten_any (bd lo r p : Nat) (As : List (List UInt8)) (hr : Value) (w : World) (hp : PathTo w bd lo r p As) (hroot : Node w r hr (.pointer none) (.pointer none) (.pointer none)) (hl : As.length ≤ 1000000) :
    Calls Tryz.prog 33 #[ptrV p] w fun e w' => ∃ v, e = .returned v ∧ Mat w' v As ∧ Keep w w' := by
  have HP := Lib.hid hp
  have HR := Lib.hid hroot
  unfold ptrV
  clear hp hroot
  go_enter Tryz.func33, Tryz.ntmps33
  go_wp2_with fail
  go_loopw [0, 3] (fun pv ov wr => ∃ (A1 A2 : List (List UInt8)) (vals : List Value), A1 ++ A2 = As ∧ At w bd lo r pv A2 ∧ vals.length = A1.length ∧ Own wr w.heap.size 24 ov vals ∧ (∀ k (h : k < vals.length) (h2 : k < A1.length), Byts w vals[k] A1[k]) ∧ Keep w wr) (fun pv ov _ => As.length - lenV ov + isPtr pv)
  case atStart => exact ⟨[], As, [], rfl, .inr ⟨p, rfl, HP.out⟩, rfl, Own.bare w w.heap.size 24 (Nat.le_refl _), fun k h => absurd h (by simp), (Kp.refl _ _).alloc _⟩
  case round =>
    obtain ⟨A1, A2, vals, haa, hat, hvl, hown, hby, hkp⟩ := hrel
    have HAA := Lib.hid haa
    have HVL := Lib.hid hvl
    have HW := Lib.hid hown
    have HBY := Lib.hid hby
    have HKP := Lib.hid hkp
    have hal : A1.length ≤ 1000000 := by
      have : A1.length + A2.length = As.length := by rw [← haa, List.length_append]
      omega
    obtain ⟨A8, c8, rfl, f1, f2, -, -⟩ := hown.form
    rw [hvl] at f1 HW ⊢
    unfold maxLen at f2
    clear haa hvl hown hby hkp HP
    rcases hat with ⟨rfl, rfl⟩ | ⟨q, rfl, hpath⟩
    · go_wp2_with fail
      go_ret
      have hA : A1 = As := by rw [← HAA.out, List.append_nil]
      refine ⟨_, rfl, ?_, HKP.out⟩
      rw [← hA]
      exact HW.out.slc HVL.out fun k h h' => Byts.keep (HBY.out k h h') HKP.out
    · unfold ptrV
      cases A2 with
      | nil =>
        have hq : q = r := hpath
        subst hq
        obtain ⟨d0, d1, d2, d3⟩ := (HR.out.keep HKP.out).cells
        clear hpath
        go_wp2_with fail
        go_roundw
        case rel => exact ⟨A1, [], vals, HAA.out, .inl ⟨rfl, rfl⟩, HVL.out, HW.out, HBY.out, HKP.out⟩
        case measure => simp [lenV, isPtr]
      | cons a A3 =>
        obtain ⟨g1, g2, hv, par, le, ri, s, hs, sp, sl, sr, n1, hc, g3, g4, n2, hh, rest⟩ := hpath
        have N1 := Lib.hid n1
        obtain ⟨d0, d1, d2, d3⟩ := (n1.keep HKP.out).cells
        obtain ⟨b0, b1, b2, b3⟩ := (n2.keep HKP.out).cells
        unfold ptrV at d1
        rcases hc with hc | ⟨hc1, hc2⟩
        · subst hc
          unfold ptrV at d2
          have HHS := Lib.hid hh
          obtain ⟨A3', c3, hsl, -, -, -, -⟩ := hh.form
          rw [List.length_map] at hsl
          subst hsl
          have HREST := Lib.hid (show PathTo w bd lo r par A3 from rest)
          clear hh rest n1 n2
          go_wp2_with (at_builtin
                       refine wpList_app (news := [.slice A3' a.length c3]) rfl (.tmp 13) (.tmp 21) 22 rfl appM rfl (HW.out.alloc _) rfl (Src.one (by simp)) (by intro u hu; simp at hu; subst hu; rfl) (fun e => by cases e) (by rw [HVL.out]; omega) (by have := HKP.out.size; simp; omega) ?_
                       intro v2 w2 h2 hk2 _
                       have HV2 := Lib.hid h2
                       have hk2' : Keep w w2 := (HKP.out.alloc _).trans' hk2 (fun j hj e => by have := (HW.out.lt j e.symm).1; omega)
                       have HK2 := Lib.hid hk2'
                       obtain ⟨A9, c9, rfl, -, -, -, -⟩ := h2.form
                       have e1 := (N1.out.keep hk2').cells.2.1
                       have hv2l : (vals ++ [Value.slice A3' a.length c3]).length = A1.length + 1 := by rw [List.length_append, HVL.out]; rfl
                       rw [hv2l]
                       clear h2 hk2 hk2' hv2l)
          go_roundw
          case rel =>
            refine ⟨A1 ++ [a], A3, vals ++ [.slice A3' a.length c3], by rw [List.append_assoc]; exact HAA.out, .inr ⟨par, rfl, HREST.out⟩, by rw [List.length_append, List.length_append, HVL.out]; rfl, ?_, ?_, HK2.out⟩
            · have h9 := HV2.out
              have hv2l : (vals ++ [Value.slice A3' a.length c3]).length = A1.length + 1 := by rw [List.length_append, HVL.out]; rfl
              rw [hv2l] at h9
              exact h9
            · intro k hk hk2
              by_cases hki : k < vals.length
              · rw [List.getElem_append_left hki, List.getElem_append_left (by rw [← HVL.out]; exact hki)]
                exact HBY.out k hki (by rw [← HVL.out]; exact hki)
              · have hkv : k = vals.length := by simp at hk; omega
                subst hkv
                have e3 : (vals ++ [Value.slice A3' a.length c3])[vals.length]'hk = .slice A3' a.length c3 := by simp
                have e4 : (A1 ++ [a])[vals.length]'hk2 = a := by simp [HVL.out]
                rw [e3, e4]
                exact HHS.out.byts
          case measure =>
            have hlen : As.length = A1.length + (A3.length + 1) := by rw [← HAA.out]; simp
            have hvl9 := HVL.out
            simp [lenV, isPtr, ptrV]; omega
        · subst hc1
          subst hc2
          unfold ptrV at d3
          have HHS := Lib.hid hh
          obtain ⟨A3', c3, hsl, -, -, -, -⟩ := hh.form
          rw [List.length_map] at hsl
          subst hsl
          have HREST := Lib.hid (show PathTo w bd lo r par A3 from rest)
          clear hh rest n1 n2
          go_wp2_with (at_builtin
                       refine wpList_app (news := [.slice A3' a.length c3]) rfl (.tmp 29) (.tmp 37) 22 rfl appM rfl (HW.out.alloc _) rfl (Src.one (by simp)) (by intro u hu; simp at hu; subst hu; rfl) (fun e => by cases e) (by rw [HVL.out]; omega) (by have := HKP.out.size; simp; omega) ?_
                       intro v2 w2 h2 hk2 _
                       have HV2 := Lib.hid h2
                       have hk2' : Keep w w2 := (HKP.out.alloc _).trans' hk2 (fun j hj e => by have := (HW.out.lt j e.symm).1; omega)
                       have HK2 := Lib.hid hk2'
                       obtain ⟨A9, c9, rfl, -, -, -, -⟩ := h2.form
                       have e1 := (N1.out.keep hk2').cells.2.1
                       have hv2l : (vals ++ [Value.slice A3' a.length c3]).length = A1.length + 1 := by rw [List.length_append, HVL.out]; rfl
                       rw [hv2l]
                       clear h2 hk2 hk2' hv2l)
          go_roundw
          case rel =>
            refine ⟨A1 ++ [a], A3, vals ++ [.slice A3' a.length c3], by rw [List.append_assoc]; exact HAA.out, .inr ⟨par, rfl, HREST.out⟩, by rw [List.length_append, List.length_append, HVL.out]; rfl, ?_, ?_, HK2.out⟩
            · have h9 := HV2.out
              have hv2l : (vals ++ [Value.slice A3' a.length c3]).length = A1.length + 1 := by rw [List.length_append, HVL.out]; rfl
              rw [hv2l] at h9
              exact h9
            · intro k hk hk2
              by_cases hki : k < vals.length
              · rw [List.getElem_append_left hki, List.getElem_append_left (by rw [← HVL.out]; exact hki)]
                exact HBY.out k hki (by rw [← HVL.out]; exact hki)
              · have hkv : k = vals.length := by simp at hk; omega
                subst hkv
                have e3 : (vals ++ [Value.slice A3' a.length c3])[vals.length]'hk = .slice A3' a.length c3 := by simp
                have e4 : (A1 ++ [a])[vals.length]'hk2 = a := by simp [HVL.out]
                rw [e3, e4]
                exact HHS.out.byts
          case measure =>
            have hlen : As.length = A1.length + (A3.length + 1) := by rw [← HAA.out]; simp
            have hvl9 := HVL.out
            simp [lenV, isPtr, ptrV]; omega
end Go.Proofs.YtfodkjpjejoemaaGreatDoor

/-
  Proofs of a tree's leaves: two trees of nodes joined, in memory.
  Conditions: none (laws).
-/
namespace Go.Proofs.YtfodkjpjejoemaaGreatDoor
open Go Go.RowKit

/-- a leaf's node, and the way from it to the root's -/
def Trail (w : World) (bd lo r p : Nat) (leaf : List UInt8) (As : List (List UInt8)) : Prop :=
  (∃ hv par le ri, Node w p hv par le ri ∧ HashIn w bd hv leaf) ∧ lo ≤ p ∧ p ≤ r ∧ PathTo w bd lo r p As
def Trails (w : World) (bd lo r : Nat) (ps : List Nat) (L : List (List UInt8)) : Prop :=
  ps.length = L.length ∧ ∀ i (h : i < ps.length) (h2 : i < L.length), Trail w bd lo r ps[i] (leafS L[i]) (auntsS L i)
/-- a root's node, without parent and sibling -/
def RootN (w : World) (bd r : Nat) (a : List UInt8) : Prop := ∃ hv, Node w r hv (.pointer none) (.pointer none) (.pointer none) ∧ HashIn w bd hv a
/-- all nodes of a tree -/
def Forest (w : World) (bd lo : Nat) (tv : Value) (L : List (List UInt8)) (r : Nat) : Prop :=
  ∃ ps, Own w lo 74 tv (ps.map ptrV) ∧ Trails w bd lo r ps L ∧ lo ≤ r ∧ RootN w bd r (rootS L)

theorem Node.setPar {w : World} {b : Nat} {hv par le ri v : Value} (h : Node w b hv par le ri) : Node (w.setCell ⟨b, 1, none⟩ v) b hv v le ri := by
  unfold Node at h ⊢; rw [heap_setCell_same _ _ _ _ _ _ h]; rfl
theorem Node.setLeft {w : World} {b : Nat} {hv par le ri v : Value} (h : Node w b hv par le ri) : Node (w.setCell ⟨b, 2, none⟩ v) b hv par v ri := by
  unfold Node at h ⊢; rw [heap_setCell_same _ _ _ _ _ _ h]; rfl
theorem Node.setRight {w : World} {b : Nat} {hv par le ri v : Value} (h : Node w b hv par le ri) : Node (w.setCell ⟨b, 3, none⟩ v) b hv par le v := by
  unfold Node at h ⊢; rw [heap_setCell_same _ _ _ _ _ _ h]; rfl
theorem Node.other {w : World} {b b' o : Nat} {hv par le ri v : Value} (h : Node w b hv par le ri) (hne : b ≠ b') : Node (w.setCell ⟨b', o, none⟩ v) b hv par le ri :=
  (Below.heap_setCell _ _ _ _ hne).trans h
theorem Node.kp {w w' : World} {S : Nat → Prop} {b : Nat} {hv par le ri : Value} (h : Node w b hv par le ri) (k : Kp S w w') (hS : ¬ S b) : Node w' b hv par le ri := (k.block b (lt_of_block h) hS).trans h

/-- the world behind the four stores that join two roots below a new one -/
def joinW (w3 : World) (rl rr : Nat) (hroot : Value) : World :=
  ((((w3.alloc (.cells #[hroot, .pointer none, .pointer none, .pointer none] 78)).setCell ⟨rl, 1, none⟩ (ptrV w3.heap.size)).setCell ⟨rl, 3, none⟩ (ptrV rr)).setCell ⟨rr, 1, none⟩ (ptrV w3.heap.size)).setCell ⟨rr, 2, none⟩ (ptrV rl)
theorem joinW_kp (w3 : World) (rl rr : Nat) (hroot : Value) : Kp (fun j => j = rl ∨ j = rr) w3 (joinW w3 rl rr hroot) :=
  ((((Kp.refl _ w3).alloc _).setCell (p := ⟨rl, 1, none⟩) (fun _ => .inl rfl) _).setCell (p := ⟨rl, 3, none⟩) (fun _ => .inl rfl) _).setCell (p := ⟨rr, 1, none⟩) (fun _ => .inr rfl) _ |>.setCell (p := ⟨rr, 2, none⟩) (fun _ => .inr rfl) _
theorem join_nodes {w3 : World} {rl rr : Nat} {hl hr hroot : Value} (n1 : Node w3 rl hl (.pointer none) (.pointer none) (.pointer none)) (n2 : Node w3 rr hr (.pointer none) (.pointer none) (.pointer none)) (hne : rl ≠ rr) :
    Node (joinW w3 rl rr hroot) rl hl (ptrV w3.heap.size) (.pointer none) (ptrV rr) ∧ Node (joinW w3 rl rr hroot) rr hr (ptrV w3.heap.size) (ptrV rl) (.pointer none) ∧ Node (joinW w3 rl rr hroot) w3.heap.size hroot (.pointer none) (.pointer none) (.pointer none) := by
  have l1 := lt_of_block n1
  have l2 := lt_of_block n2
  have ka : Keep w3 (w3.alloc (.cells #[hroot, .pointer none, .pointer none, .pointer none] 78)) := (Kp.refl _ _).alloc _
  have m1 := n1.keep ka
  have m2 := n2.keep ka
  have m3 : Node (w3.alloc (.cells #[hroot, .pointer none, .pointer none, .pointer none] 78)) w3.heap.size hroot (.pointer none) (.pointer none) (.pointer none) := heap_alloc_new _ _
  exact ⟨((m1.setPar.setRight).other hne).other hne, ((((m2.other hne.symm).other hne.symm).setPar).setLeft), (((m3.other (by omega)).other (by omega)).other (by omega)).other (by omega)⟩

theorem Own.notNode {w : World} {base b : Nat} {e : TypeId} {v : Value} {xs : List Value} {hv par le ri : Value} (h : Own w base e v xs) (n : Node w b hv par le ri) (he : e ≠ 78) : v.ownBlock ≠ some b := fun hb => by
  obtain ⟨_, cur, hh⟩ := h.block hb
  unfold Node at n
  rw [n] at hh
  simp at hh
  exact he hh.2.symm

/-- what a way keeps of itself from one world to another -/
structure Moves (w w' : World) (bd lo r : Nat) : Prop where
  node : ∀ j hv par le ri, lo ≤ j → j < r → Node w j hv par le ri → Node w' j hv par le ri
  hash : ∀ hs a, HashIn w bd hs a → HashIn w' bd hs a
theorem Moves.path {w w' : World} {bd lo r : Nat} (m : Moves w w' bd lo r) : ∀ (As : List (List UInt8)) (p : Nat), PathTo w bd lo r p As → PathTo w' bd lo r p As
  | [], _, h => h
  | a :: As, p, h => by
    obtain ⟨h1, h2, hv, par, le, ri, s, hs, sp, sl, sr, n1, c1, h3, h4, n2, hh, rest⟩ := h
    exact ⟨h1, h2, hv, par, le, ri, s, hs, sp, sl, sr, m.node _ _ _ _ _ h1 h2 n1, c1, h3, h4, m.node _ _ _ _ _ h3 h4 n2, m.hash _ _ hh, Moves.path m As par rest⟩
/-- a way below a root that has got a parent and a sibling -/
theorem Trail.up {w w' : World} {bd lo lo' r r' s p : Nat} {leaf a : List UInt8} {As : List (List UInt8)} {hr hs sp sl sr le ri : Value} (h : Trail w bd lo r p leaf As) (m : Moves w w' bd lo r) (hlo : lo' ≤ lo)
    (n0 : ∃ x y z, Node w r hr x y z) (n1 : Node w' r hr (ptrV r') le ri) (c1 : le = ptrV s ∨ le = .pointer none ∧ ri = ptrV s) (hrr : r < r') (h3 : lo' ≤ s) (h4 : s < r') (n2 : Node w' s hs sp sl sr) (hh : HashIn w' bd hs a) :
    Trail w' bd lo' r' p leaf (As ++ [a]) := by
  obtain ⟨⟨hv, par, le0, ri0, nn, hleaf⟩, g1, g2, hpath⟩ := h
  refine ⟨?_, by omega, by omega, PathTo.up (by omega) hrr n1 c1 h3 h4 n2 hh As p (PathTo.lower hlo As p (m.path As p hpath))⟩
  rcases Nat.lt_or_ge p r with hp | hp
  · exact ⟨hv, par, le0, ri0, m.node _ _ _ _ _ g1 hp nn, m.hash _ _ hleaf⟩
  · obtain rfl : p = r := by omega
    obtain ⟨x, y, z, n00⟩ := n0
    have e : hv = hr := by
      unfold Node at nn n00
      rw [nn] at n00
      simp at n00
      exact n00.1
    subst e
    exact ⟨_, _, _, _, n1, m.hash _ _ hleaf⟩
end Go.Proofs.YtfodkjpjejoemaaGreatDoor
