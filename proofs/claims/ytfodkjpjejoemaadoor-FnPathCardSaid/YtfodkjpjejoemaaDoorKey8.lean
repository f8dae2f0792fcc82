/-
  The keys of a path: the law FnKeys walked: it answers true.
  Conditions: the table's cells hold its numbers, the library's error variable holds an error.
-/
import Derived.Test.YtfodkjpjejoemaaDoorKey7
import Derived.Test.YtfodkjpjejoemaaDoorSame
namespace Go.Proofs.YtfodkjpjejoemaaDoor
open Go Go.RowKit
attribute [local go_sem ↓] Go.wp_at_zero Go.wp_at_succ

set_option maxHeartbeats 1000000 in
theorem fnKeys_walk (s : ByteArray) (w : World) (ht : UTab w) (t : TypeId) (x : Value) (hE : w.cell? ⟨2, 0, none⟩ = some (.iface t x)) :
    Calls Tryd.prog 6 #[.string s] w fun e w' => e = .returned (.bool true) ∧ Keep w w' := by
  have HT := Lib.hid ht
  have HE := Lib.hid hE
  clear ht hE
  by_cases hbig : 2147483647 < s.size
  · have hb : (2147483647 : Int) < (s.size : Int) := by omega
    go_enter Tryd.func6, Tryd.ntmps6
    go_wp2_with fail
    go_ret
    exact ⟨rfl, Kp.refl _ _⟩
  · have hb : ¬ (2147483647 : Int) < (s.size : Int) := by omega
    obtain ⟨m, hm⟩ : ∃ m : Nat, m = min s.size 2000 := ⟨_, rfl⟩
    have hmin : min (s.size : Int) 2000 = (m : Int) := by omega
    have hms : m ≤ s.size := by omega
    have hm2 : m ≤ 2000 := by omega
    obtain ⟨S, hS⟩ : ∃ S, S = s.extract 0 m := ⟨_, rfl⟩
    have hsl : ∀ w, (Instr.slice 9 (.string s) none (some (.int .i64 (m : Int))) none).run Tryd.prog w = .ok (.string S) w := fun w => by
      rw [run_slice_string_h w _ s Tryd.underlying9 .i64 m (by omega) (by omega), hS]; rfl
    have hSz : S.size ≤ 2000 := by
      rw [size_data, hS, Lib.extract_data, List.length_take]; omega
    clear hS hm
    cases hq : keysOf S.data.toList with
    | none =>
      have HQ := Lib.hid hq
      clear hq
      go_enter Tryd.func6, Tryd.ntmps6
      go_wp2_with (first
        | (go_at_call 23
           refine (implKeys_any S _ HT.out t x HE.out (by omega)).mono ?_
           rintro e w1 ⟨he, hk1⟩
           rw [HQ.out] at he
           have he2 : e = .returned (.tuple #[.slice none 0 0, .bool false]) := he
           subst he2
           have HK1 := Lib.hid hk1
           clear he hk1)
        | (go_at_call 24
           refine (specKeys_any S _ (by omega)).mono ?_
           rintro e w2 ⟨he, hk2⟩
           rw [HQ.out] at he
           have he2 : e = .returned (.tuple #[.slice none 0 0, .bool false]) := he
           subst he2
           have HK2 := Lib.hid hk2
           clear he hk2))
      go_ret
      exact ⟨rfl, HK1.out.trans HK2.out⟩
    | some ks =>
      have HQ := Lib.hid hq
      clear hq
      go_enter Tryd.func6, Tryd.ntmps6
      go_wp2_with (first
        | (go_at_call 23
           refine (implKeys_any S _ HT.out t x HE.out (by omega)).mono ?_
           rintro e w1 ⟨he, hk1⟩
           rw [HQ.out] at he
           obtain ⟨v1, rfl, hm1⟩ := he
           have HM1 := Lib.hid hm1
           have HK1 := Lib.hid hk1
           clear hk1 hm1)
        | (go_at_call 24
           refine (specKeys_any S _ (by omega)).mono ?_
           rintro e w2 ⟨he, hk2⟩
           rw [HQ.out] at he
           obtain ⟨v2, rfl, hm2'⟩ := he
           have HM2 := Lib.hid hm2'
           have HM3 := Lib.hid (Mat.keep HM1.out hk2)
           have HK2 := Lib.hid hk2
           clear hk2 hm2')
        | (go_at_call 25
           refine (equalFunc_any v1 v2 ks ks _ HM3.out HM2.out).mono ?_
           rintro e w3 ⟨rfl, rfl⟩
           rw [show (ks == ks) = true by simp]))
      go_ret
      exact ⟨rfl, HK1.out.trans HK2.out⟩
end Go.Proofs.YtfodkjpjejoemaaDoor
