/-
  Two lists of byte slices compared, two proofs compared.
  Conditions: the arguments read as lists of bytes.
-/
import Derived.Test.YtfodkjpjejoemaaDoorApps
import Derived.StillTailTactics
import Derived.Deep.RegionHeld3
import Derived.Deep.DrawnRows
namespace Go.Proofs.YtfodkjpjejoemaaDoor
open Go Go.RowKit
attribute [local go_sem ↓] Go.wp_at_zero Go.wp_at_succ

theorem same2_any (v1 v2 : Value) (L M : List UInt8) (w : World) (h1 : Byts w v1 L) (h2 : Byts w v2 M) :
    Calls Tryd.prog 18 #[v1, v2] w fun e w' => e = .returned (.bool (L == M)) ∧ w = w' := by
  have H1 := h1
  have H2 := h2
  obtain ⟨A, c, rfl, a1, a2, a3, a4⟩ := h1
  obtain ⟨B, d, rfl, b1, b2, b3, b4⟩ := h2
  have e1 := byts_string (P := Tryd.prog) Tryd.underlying22 Tryd.underlying5 Tryd.underlying9 H1
  have e2 := byts_string (P := Tryd.prog) Tryd.underlying22 Tryd.underlying5 Tryd.underlying9 H2
  clear a1 a2 a3 a4 b1 b2 b3 b4 H1 H2
  go_enter Tryd.func18, Tryd.ntmps18
  go_wp2
  go_ret
  exact ⟨rfl, rfl⟩

theorem list_beq_iff {α : Type} [BEq α] [LawfulBEq α] (L M : List α) (k : Nat) (h : L.length = M.length) (hk : ¬ k < L.length) (he : ∀ i (h1 : i < L.length) (h2 : i < M.length), i < k → L[i] = M[i]) : (L == M) = true := by
  rw [beq_iff_eq]
  exact List.ext_getElem h fun i h1 h2 => he i h1 h2 (by omega)

set_option maxHeartbeats 1000000 in
theorem equalFunc_any (v1 v2 : Value) (L M : List (List UInt8)) (w : World) (h1 : Mat w v1 L) (h2 : Mat w v2 M) :
    Calls Tryd.prog 25 #[v1, v2, .func (.func 18) #[] #[]] w fun e w' => e = .returned (.bool (L == M)) ∧ w = w' := by
  obtain ⟨A, c, rfl, a1, a2, a3, a4⟩ := h1
  obtain ⟨B, d, rfl, b1, b2, b3, b4⟩ := h2
  unfold maxLen at a2 b2
  by_cases hlen : L.length = M.length
  · have hne : ((L.length : Int) != (M.length : Int)) = false := by simp [hlen]
    obtain ⟨n, hn⟩ : ∃ n, n = L.length := ⟨_, rfl⟩
    have hnM : M.length = n := by omega
    have HN := Lib.hid hn
    have HNM := Lib.hid hnM
    have A4 := Lib.hid a4
    have B4 := Lib.hid b4
    rw [← hn, hnM] at hne ⊢
    rw [← hn] at a1
    rw [hnM] at b1
    clear hlen hn hnM a4 b4 a3 b3
    go_enter Tryd.func25, Tryd.ntmps25
    go_wp2_with fail
    go_loopw [17] (fun i wr => ∃ k : Nat, k ≤ n ∧ i = .int .i64 k ∧ (∀ i (h1 : i < L.length) (h2 : i < M.length), i < k → L[i] = M[i]) ∧ w = wr) (fun i _ => n - (intOf i).toNat)
    case atStart => exact ⟨0, Nat.zero_le _, rfl, fun i _ _ h => absurd h (by omega), rfl⟩
    case round =>
      obtain ⟨k, hk, rfl, he, rfl⟩ := hrel
      have HE := Lib.hid he
      clear he
      by_cases hlt : k < n
      · have hkL : k < L.length := by rw [← HN.out]; exact hlt
        have hkM : k < M.length := by rw [HNM.out]; exact hlt
        obtain ⟨b0, o0, rfl, hc0⟩ := A4.out (by omega)
        obtain ⟨b1', o1, rfl, hc1⟩ := B4.out (by omega)
        obtain ⟨u, hu, hur⟩ := hc0 k hkL
        obtain ⟨x, hx, hxr⟩ := hc1 k hkM
        have SAME := Lib.hid (same2_any u x _ _ w hur hxr)
        obtain ⟨A5, c5, rfl, -, -, -, -⟩ := hur
        obtain ⟨A6, c6, rfl, -, -, -, -⟩ := hxr
        clear hc0 hc1
        cases hq : (L[k] == M[k])
        · have HQ := Lib.hid hq
          clear hq
          go_wp2_with (go_at_call 18; refine SAME.out.mono ?_; rintro e w' ⟨rfl, rfl⟩; rw [HQ.out])
          go_ret
          refine ⟨ret_b ?_, rfl⟩
          cases hLM : (L == M)
          · rfl
          · rw [beq_iff_eq] at hLM
            subst hLM
            have := HQ.out
            simp at this
        · have HQ := Lib.hid hq
          clear hq
          go_wp2_with (go_at_call 18; refine SAME.out.mono ?_; rintro e w' ⟨rfl, rfl⟩; rw [HQ.out])
          go_roundw
          case rel => exact ⟨k + 1, by omega, by go_num, fun i h1 h2 hi => by
            rcases Nat.lt_or_ge i k with h3 | h3
            · exact HE.out i h1 h2 h3
            · obtain rfl : i = k := by omega
              have := HQ.out
              rwa [beq_iff_eq] at this, by first | rfl | trivial⟩
          case measure => simp [intOf]; omega
      · go_wp2_with fail
        go_ret
        exact ⟨ret_b (list_beq_iff L M k (by rw [← HN.out, HNM.out]) (by rw [← HN.out]; exact hlt) HE.out).symm, rfl⟩
  · have hne : ((L.length : Int) != (M.length : Int)) = true := by simp; omega
    have hf : (L == M) = false := by
      cases hLM : (L == M)
      · rfl
      · rw [beq_iff_eq] at hLM; subst hLM; exact absurd rfl hlen
    have HF := Lib.hid hf
    clear a4 b4 a3 b3 hf
    go_enter Tryd.func25, Tryd.ntmps25
    go_wp2_with fail
    go_ret
    exact ⟨ret_b HF.out.symm, rfl⟩
end Go.Proofs.YtfodkjpjejoemaaDoor
