/-
  The keys of a path: the specification's walked, and the package's thin call.
  Conditions: the length is bounded.
-/
import Derived.Test.YtfodkjpjejoemaaDoorKey5
namespace Go.Proofs.YtfodkjpjejoemaaDoor
open Go Go.RowKit
attribute [local go_sem ↓] Go.wp_at_zero Go.wp_at_succ

/-- the keys of a path, or none -/
def EndsS (w : World) (r : Option (List (List UInt8))) (e : Ending) : Prop :=
  match r with
  | some ks => ∃ v, e = .returned (.tuple #[v, .bool true]) ∧ Mat w v ks
  | none => e = .returned (.tuple #[.slice none 0 0, .bool false])

set_option maxHeartbeats 1000000 in
theorem implKeys_any (s : ByteArray) (w : World) (ht : UTab w) (t : TypeId) (x : Value) (hE : w.cell? ⟨2, 0, none⟩ = some (.iface t x)) (hs : s.size ≤ 1099511626776) :
    Calls Tryd.prog 23 #[.string s] w fun e w' => EndsS w' (keysOf s.data.toList) e ∧ Keep w w' := by
  have HT := Lib.hid ht
  have HE := Lib.hid hE
  clear ht hE
  go_enter Tryd.func23, Tryd.ntmps23
  go_wp2_with fail
  refine (keyPath_any s _ HT.out t x HE.out hs).mono ?_
  rintro e w1 ⟨he, hk⟩
  have HK := Lib.hid hk
  clear hk
  cases hu : keysOf s.data.toList with
  | some k =>
    rw [hu] at he
    obtain ⟨v, rfl, hm⟩ := he
    have HM := Lib.hid hm
    have HU := Lib.hid hu
    obtain ⟨A, c, rfl, -, -, -, -⟩ := hm
    clear hu
    go_wp2_with fail
    go_region_held3 (fun _ => True) (trivial) (fail)
    all_goals
      go_wp2_with fail
      go_ret2
      rw [HU.out]
      exact ⟨⟨_, rfl, Mat.keep HM.out (Kp.refl _ _).drew⟩, HK.out.drew⟩
  | none =>
    rw [hu] at he
    obtain ⟨t, x, rfl⟩ := he
    have HU := Lib.hid hu
    clear hu
    go_wp2_with fail
    go_region_held3 (fun _ => True) (trivial) (fail)
    all_goals
      go_wp2_with fail
      go_ret2
      rw [HU.out]
      exact ⟨rfl, HK.out.drew⟩

theorem Own.lower {w : World} {base base' : Nat} {e : TypeId} {v : Value} {xs : List Value} (h : Own w base e v xs) (hb : base' ≤ base) : Own w base' e v xs := by
  refine ⟨h.1, ?_⟩
  rcases h.2 with h2 | ⟨g, cap, cur, rfl, hg, h3⟩
  · exact .inl h2
  · exact .inr ⟨g, cap, cur, rfl, Nat.le_trans hb hg, h3⟩
/-- a list of slices of bytes that the call has made -/
def Outs (w : World) (B : Nat) (v : Value) (D : List (List UInt8)) : Prop :=
  ∃ vals, Own w B 22 v vals ∧ vals.length = D.length ∧ ∀ j (h : j < vals.length) (h2 : j < D.length), Own w B 5 vals[j] (D[j].map u8v)
theorem Outs.nil_ (w : World) (B : Nat) : Outs w B (.slice none 0 0) [] := ⟨[], Own.nil_ _ _ _, rfl, fun j h => absurd h (by simp)⟩
theorem Outs.keep {w w' : World} {B : Nat} {v : Value} {D : List (List UInt8)} (h : Outs w B v D) (k : Keep w w') : Outs w' B v D := by
  obtain ⟨vals, h1, h2, h3⟩ := h
  exact ⟨vals, h1.keep k, h2, fun j hj hj2 => (h3 j hj hj2).keep k⟩
theorem Outs.mat {w : World} {B : Nat} {v : Value} {D : List (List UInt8)} (h : Outs w B v D) : Mat w v D := by
  obtain ⟨vals, h1, h2, h3⟩ := h
  exact h1.slc h2 fun j hj hj2 => (h3 j hj hj2).slc_map u8v fun _ _ => rfl
/-- one more, behind the append -/
theorem Outs.snoc {w w2 : World} {B : Nat} {ov v2 kv : Value} {vals : List Value} {D : List (List UInt8)} {K : List UInt8} (h1 : Own w B 22 ov vals) (h2 : vals.length = D.length)
    (h3 : ∀ j (h : j < vals.length) (h2 : j < D.length), Own w B 5 vals[j] (D[j].map u8v)) (hk : Own w B 5 kv (K.map u8v)) (ho : Own w2 B 22 v2 (vals ++ [kv])) (k : Kp (fun i => some i = ov.ownBlock) w w2) : Outs w2 B v2 (D ++ [K]) := by
  refine ⟨vals ++ [kv], ho, by simp [h2], fun j hj hj2 => ?_⟩
  by_cases hjl : j < vals.length
  · rw [List.getElem_append_left hjl, List.getElem_append_left (by omega)]
    exact (h3 j hjl (by omega)).kp_own h1 (by decide) k
  · obtain rfl : j = vals.length := by simp at hj; omega
    have e1 : (vals ++ [kv])[vals.length]'hj = kv := by simp
    have e2 : (D ++ [K])[vals.length]'hj2 = K := by simp [h2]
    rw [e1, e2]
    exact hk.kp_own h1 (by decide) k

/-- what is left of a path and of its segments -/
def Left (P : List UInt8) (rem : List (List UInt8)) : Prop := (P = [] ∧ rem = []) ∨ ∃ T, P = 47 :: T ∧ rem = segs T
theorem Left.go {P : List UInt8} {rem : List (List UInt8)} (h : Left P rem) (hP : P ≠ []) (m : Nat) (hm : m < P.length) (hno : ∀ c ∈ (P.take (m + 1)).drop 1, c ≠ 47) (hend : m + 1 = P.length ∨ ∃ h : m + 1 < P.length, P[m + 1] = 47) :
    ∃ rem', rem = (P.take (m + 1)).drop 1 :: rem' ∧ Left (P.drop (m + 1)) rem' := by
  rcases h with ⟨h1, _⟩ | ⟨T, rfl, rfl⟩
  · exact absurd h1 hP
  · simp only [List.take_succ_cons, List.drop_succ_cons, List.drop_zero, List.length_cons] at *
    rcases hend with he | ⟨h47, he⟩
    · refine ⟨[], ?_, .inl ⟨List.drop_of_length_le (by omega), rfl⟩⟩
      have e : T.take m = T := List.take_of_length_le (by omega)
      rw [e] at hno ⊢
      exact segs_one _ hno
    · have h47' : T[m]'(by omega) = 47 := by simpa using he
      refine ⟨segs (T.drop (m + 1)), segs_slash T m (by omega) h47' hno, .inr ⟨T.drop (m + 1), ?_, rfl⟩⟩
      rw [drop_at T m (by omega), h47']
end Go.Proofs.YtfodkjpjejoemaaDoor
