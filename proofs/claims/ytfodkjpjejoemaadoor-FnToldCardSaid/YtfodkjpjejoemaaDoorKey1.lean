/-
  The keys of a path: digits, the search for a slash, the split at slashes.
  Conditions: the lengths are bounded.
-/
import Derived.Test.YtfodkjpjejoemaaDoorKey0
import Derived.Test.YtfodkjpjejoemaaDoorSlc
import Derived.WalkSpells
namespace Go.Proofs.YtfodkjpjejoemaaDoor
open Go Go.RowKit

set_option maxHeartbeats 1000000 in
theorem digit_any (n : Nat) (w : World) (hn : n < 256) :
    Calls Tryd.prog 62 #[.int .u8 (n : Int)] w fun e w' => e = .returned (.int .i64 (dgN n)) ∧ w = w' := by
  go_enter Tryd.func62, Tryd.ntmps62
  go_wp2
  all_goals
    go_ret
    exact ⟨ret_i (by unfold dgN; split <;> (try split) <;> (try split) <;> omega), rfl⟩

theorem wrap64_of (z : Int) (h1 : -9223372036854775808 ≤ z) (h2 : z ≤ 9223372036854775807) : IntKind.i64.wrap z = z := by
  simp [IntKind.wrap, IntKind.bits, IntKind.signed]; omega

/-- the place of the first slash -/
def Slash (L : List UInt8) (r : Int) : Prop := (r = -1 ∧ ∀ c ∈ L, c ≠ 47) ∨ ∃ k : Nat, r = k ∧ ∃ h : k < L.length, L[k] = 47 ∧ ∀ c ∈ L.take k, c ≠ 47

theorem size_data (s : ByteArray) : s.size = s.data.toList.length := Lib.size_eq s
theorem at_data (s : ByteArray) (k : Nat) (h : k < s.size) : s[k] = s.data.toList[k]'(by rw [← size_data]; exact h) := by
  simp [ByteArray.getElem_eq_getElem_data]
theorem one_slash (s : ByteArray) (k : Nat) (h : k < s.size) : ((s.extract k (k + 1)).toList == [47]) = decide (s[k] = 47) := by
  rw [Lib.extract_toList, at_data s k h, drop_at _ k (by rw [← size_data]; exact h), show k + 1 - k = 1 by omega, List.take_succ_cons, List.take_zero]
  rw [Bool.eq_iff_iff]
  simp
theorem take_snoc {α : Type} (L : List α) (k : Nat) (h : k < L.length) : L.take (k + 1) = L.take k ++ [L[k]] := by
  rw [List.take_add_one, List.getElem?_eq_getElem h]; rfl

set_option maxHeartbeats 1000000 in
theorem zzIndex_any (s : ByteArray) (w : World) (hs : s.size ≤ 4611686018427387904) :
    Calls Tryd.prog 116 #[.string s, .string { data := #[47] }] w fun e w' => (∃ r, e = .returned (.int .i64 r) ∧ Slash s.data.toList r) ∧ w = w' := by
  go_enter Tryd.func116, Tryd.ntmps116
  go_wp2
  go_loop [5] (fun v => ∃ k : Nat, k ≤ s.size ∧ v = .int .i64 k ∧ ∀ c ∈ s.data.toList.take k, c ≠ 47) (fun v => s.size - (intOf v).toNat)
  case atStart => exact ⟨0, Nat.zero_le _, rfl, by simp⟩
  case round =>
    obtain ⟨k, hk, rfl, hno⟩ := hrel
    have HN := Lib.hid hno
    clear hno
    by_cases hlt : k < s.size
    · have hsl : ∀ w, (Instr.slice 9 (.string s) (some (.int .i64 (k : Int))) (some (.int .i64 ((k : Int) + 1))) none).run Tryd.prog w = .ok (.string (s.extract k (k + 1))) w := fun w => by
        rw [run_slice_string w _ s .i64 .i64 k (k + 1) Tryd.underlying9 (by omega) (by omega) (by omega)]
        rfl
      have hone := one_slash s k hlt
      by_cases h47 : s[k] = 47
      · have hone' : ((s.extract k (k + 1)).toList == [47]) = true := by rw [hone]; simp [h47]
        have H47 := Lib.hid h47
        clear hone h47
        go_wp2
        go_ret
        exact ⟨⟨_, rfl, .inr ⟨k, rfl, by rw [← size_data]; exact hlt, by rw [← at_data s k hlt]; exact H47.out, HN.out⟩⟩, rfl⟩
      · have hone' : ((s.extract k (k + 1)).toList == [47]) = false := by rw [hone]; simp [h47]
        have H47 := Lib.hid h47
        clear hone h47
        go_wp2
        go_round
        case rel => exact ⟨k + 1, hlt, by go_num, by
          rw [take_snoc _ k (by rw [← size_data]; exact hlt)]
          intro c hc
          rcases List.mem_append.1 hc with h | h
          · exact HN.out c h
          · rw [List.mem_singleton.1 h, ← at_data s k hlt]; exact H47.out⟩
        case measure => simp [intOf]; omega
    · obtain rfl : k = s.size := by omega
      go_wp2
      go_ret
      exact ⟨⟨_, rfl, .inl ⟨rfl, fun c hc => HN.out c (by rw [List.take_of_length_le (by rw [← size_data]; exact Nat.le_refl _)]; exact hc)⟩⟩, rfl⟩
end Go.Proofs.YtfodkjpjejoemaaDoor
