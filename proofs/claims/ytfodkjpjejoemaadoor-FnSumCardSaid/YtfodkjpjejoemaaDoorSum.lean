/-
  FnSum's walk: the package's sum is the specification's, and so is what is left of it where it is cut.
  Conditions: the argument reads as bytes; the table _K holds the rounds' words.
-/
import Derived.Test.YtfodkjpjejoemaaDoorSha2
import Derived.Test.YtfodkjpjejoemaaDoorSha8
namespace Go.Proofs.YtfodkjpjejoemaaDoor
open Go Go.RowKit

set_option maxRecDepth 100000 in
set_option maxHeartbeats 4000000 in
theorem fnSum_walk (v : Value) (L : List UInt8) (w : World) (h : Byts w v L) (hK : KTab w) :
    Calls Tryd.prog 4 #[v] w fun e w' => e = .returned (.bool true) ∧ Keep w w' := by
  have H := Lib.hid h
  have HKT := Lib.hid hK
  obtain ⟨A, c, rfl, h1, h2, h3, h4⟩ := h
  unfold maxLen at h2
  clear h3 h4 hK
  by_cases hbig : L.length ≤ 2147483647
  · obtain ⟨m, hm⟩ : ∃ m, m = min L.length 2000 := ⟨_, rfl⟩
    have HB : Hid (Byts w (.slice A m c) (L.take m)) := Lib.hid (Slc.take_ H.out m (by omega))
    have hmn : min (L.length : Int) 2000 = (m : Int) := by omega
    have HL : Hid ((L.take m).length ≤ 2000) := Lib.hid (by rw [List.length_take]; omega)
    have HSS : Hid (sha (L.take m) == sha (L.take m)) := Lib.hid (by simp)
    have HST : Hid (((sha (L.take m)).take 20 == (sha (L.take m)).take 20) = true) := Lib.hid (by simp)
    have HLM : Hid ((L.take m).length = m) := Lib.hid (by rw [List.length_take]; omega)
    have hmc : m ≤ 2000 := by omega
    clear hm
    generalize L.take m = M at HB HL HSS HST HLM
    go_enter Tryd.func4, Tryd.ntmps4
    go_wp2_with (first
      | (go_at_call 16
         refine (iSum_any _ M _ HB.out HKT.out (by have := HL.out; omega)).mono ?_
         rintro e w1 ⟨v1, v2, rfl, h1, h2, hk1⟩
         have H1 := Lib.hid h1
         have H2 := Lib.hid h2
         have HK1 := Lib.hid hk1
         clear h1 h2 hk1)
      | (go_at_call 17
         refine (sSum_any _ M _ (HB.out.keep HK1.out) (by have := HL.out; omega)).mono ?_
         rintro e w2 ⟨v3, rfl, h3, hk2⟩
         have H3 := Lib.hid h3
         have HK2 := Lib.hid hk2
         obtain ⟨A5, c5, rfl, g1, g2, g3, g4⟩ := h3
         rw [sha_length] at g1 H3 ⊢
         have HB6 := Lib.hid (Slc.take_ H3.out 20 (by rw [sha_length]; decide))
         unfold maxLen at g2
         clear g3 g4 hk2)
      | (go_at_call 18
         refine (same_any _ _ (sha M) (sha M) _ (H1.out.keep HK2.out) H3.out).mono ?_
         rintro e w3 ⟨rfl, rfl⟩
         rw [HSS.out])
      | (go_at_call 18
         refine (same_any _ _ ((sha M).take 20) ((sha M).take 20) _ (H2.out.keep HK2.out) HB6.out).mono ?_
         rintro e w3 ⟨rfl, rfl⟩
         rw [HST.out]))
    go_ret
    exact ⟨rfl, HK1.out.trans HK2.out⟩
  · go_enter Tryd.func4, Tryd.ntmps4
    go_wp2
    go_ret
    exact ⟨rfl, Kp.refl _ _⟩
end Go.Proofs.YtfodkjpjejoemaaDoor
