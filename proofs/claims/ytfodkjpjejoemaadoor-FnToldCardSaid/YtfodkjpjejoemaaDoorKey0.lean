/-
  The keys of a path in plain Lean: split at slashes, bytes as %XX, or x: and hexadecimal digits.
  Conditions: none (definitions, and laws on them).
-/
import Derived.Lib.HexFns2
import Derived.Lib.Strings
namespace Go.Proofs.YtfodkjpjejoemaaDoor
open Go

/-- the value of a byte as a hexadecimal digit; -1: it is none -/
def dgN (n : Nat) : Int := if 48 ≤ n ∧ n ≤ 57 then (n : Int) - 48 else if 97 ≤ n ∧ n ≤ 102 then (n : Int) - 87 else if 65 ≤ n ∧ n ≤ 70 then (n : Int) - 55 else -1
def dg (c : UInt8) : Int := dgN c.toNat
theorem dgN_lt (n : Nat) : dgN n < 16 := by unfold dgN; split; omega; split; omega; split <;> omega
theorem dg_lt (c : UInt8) : dg c < 16 := dgN_lt _
theorem u8_ofNat_toNat (c : UInt8) : UInt8.ofNat c.toNat = c := by simp
set_option maxRecDepth 100000 in
theorem v_fin : ∀ n : Fin 256, (15 < Lib.Hx.v (UInt8.ofNat n.val) ↔ dgN n.val < 0) ∧ (¬ dgN n.val < 0 → (Lib.Hx.v (UInt8.ofNat n.val) : Int) = dgN n.val) := by decide +kernel
theorem v_dg (c : UInt8) : (15 < Lib.Hx.v c ↔ dg c < 0) ∧ (¬ dg c < 0 → (Lib.Hx.v c : Int) = dg c) := by
  have h := v_fin ⟨c.toNat, c.toNat_lt⟩
  simp only [u8_ofNat_toNat] at h
  exact h

/-- two digits' byte -/
def two (a b : UInt8) : UInt8 := UInt8.ofNat (dg a * 16 + dg b).toNat
theorem two_toNat (a b : UInt8) (ha : ¬ dg a < 0) (hb : ¬ dg b < 0) : ((two a b).toNat : Int) = dg a * 16 + dg b := by
  have h1 := dg_lt a
  have h2 := dg_lt b
  unfold two
  simp only [UInt8.toNat_ofNat']
  omega

/-- hexadecimal digits, two a byte -/
def hexD : List UInt8 → Option (List UInt8)
  | [] => some []
  | [_] => none
  | a :: b :: t => if dg a < 0 ∨ dg b < 0 then none else (hexD t).map (two a b :: ·)
theorem hexD_odd : ∀ (l : List UInt8), l.length % 2 = 1 → hexD l = none
  | [], h => by simp at h
  | [_], _ => rfl
  | a :: b :: t, h => by
    rw [hexD, hexD_odd t (by simp at h; omega)]
    split <;> rfl
theorem hexD_length : ∀ (l k : List UInt8), hexD l = some k → k.length ≤ l.length
  | [], k, h => by simp [hexD] at h; subst h; simp
  | [_], k, h => by simp [hexD] at h
  | a :: b :: t, k, h => by
    rw [hexD] at h
    split at h
    · cases h
    · obtain ⟨k', h1, rfl⟩ := Option.map_eq_some_iff.1 h
      have := hexD_length t k' h1
      simp; omega
/-- what the library's decoder gives -/
theorem decode_hexD : ∀ (l : List UInt8), (∀ k, hexD l = some k → Lib.Hx.decode l = (k, .ok)) ∧ (hexD l = none → (Lib.Hx.decode l).2 ≠ .ok)
  | [] => ⟨fun k h => by simp [hexD] at h; subst h; exact Lib.Hx.decode_nil, fun h => by simp [hexD] at h⟩
  | [c] => ⟨fun k h => by simp [hexD] at h, fun _ => by rw [Lib.Hx.decode_one]; split <;> simp⟩
  | a :: b :: t => by
    obtain ⟨i1, i2⟩ := decode_hexD t
    rw [hexD, Lib.Hx.decode_two]
    by_cases ha : dg a < 0
    · rw [if_pos (.inl ha), if_pos ((v_dg a).1.2 ha)]
      exact ⟨fun k h => (by cases h), fun _ => (by simp)⟩
    · by_cases hb : dg b < 0
      · rw [if_pos (.inr hb), if_neg (fun h => ha ((v_dg a).1.1 h)), if_pos ((v_dg b).1.2 hb)]
        exact ⟨fun k h => (by cases h), fun _ => (by simp)⟩
      · rw [if_neg (by omega), if_neg (fun h => ha ((v_dg a).1.1 h)), if_neg (fun h => hb ((v_dg b).1.1 h))]
        refine ⟨fun k h => ?_, fun h => ?_⟩
        · obtain ⟨k', h1, rfl⟩ := Option.map_eq_some_iff.1 h
          have e := i1 k' h1
          rw [e]
          have ea := (v_dg a).2 ha
          have eb := (v_dg b).2 hb
          have : Lib.Hx.v a * 16 + Lib.Hx.v b = (dg a * 16 + dg b).toNat := by omega
          rw [this]; rfl
        · exact i2 (by simpa using h)

/-- bytes as %XX -/
def unesc : List UInt8 → Option (List UInt8)
  | [] => some []
  | c :: t => if c = 37 then (match t with | a :: b :: t' => if dg a < 0 ∨ dg b < 0 then none else (unesc t').map (two a b :: ·) | _ => none) else (unesc t).map (c :: ·)
def keyOf (s : List UInt8) : Option (List UInt8) := if Lib.hasPrefix s [120, 58] then hexD (s.drop 2) else unesc s
def keysL : List (List UInt8) → Option (List (List UInt8))
  | [] => some []
  | s :: r => match keyOf s, keysL r with | some k, some ks => some (k :: ks) | _, _ => none
/-- what stands between slashes -/
def segs : List UInt8 → List (List UInt8)
  | [] => [[]]
  | c :: t => if c = 47 then [] :: segs t else match segs t with | [] => [[c]] | h :: r => (c :: h) :: r
def keysOf (p : List UInt8) : Option (List (List UInt8)) := match p with | c :: t => if c = 47 then keysL (segs t) else none | [] => none

theorem segs_ne (l : List UInt8) : segs l ≠ [] := by
  cases l with
  | nil => simp [segs]
  | cons c t =>
    simp only [segs]
    split
    · simp
    · split <;> simp
theorem segs_one : ∀ (a : List UInt8), (∀ c ∈ a, c ≠ 47) → segs a = [a]
  | [], _ => rfl
  | c :: t, h => by
    rw [segs, if_neg (h c (by simp)), segs_one t (fun x hx => h x (by simp [hx]))]
theorem segs_more : ∀ (a t : List UInt8), (∀ c ∈ a, c ≠ 47) → segs (a ++ 47 :: t) = a :: segs t
  | [], t, _ => by simp [segs]
  | c :: a, t, h => by
    rw [List.cons_append, segs, if_neg (h c (by simp)), segs_more a t (fun x hx => h x (by simp [hx]))]

/-- a list of results of which D have been found, the rest as y says -/
def Goes {α : Type} (x : Option (List α)) (D : List α) (y : Option (List α)) : Prop := x = y.map (D ++ ·)
theorem Goes.start {α : Type} (x : Option (List α)) : Goes x [] x := by unfold Goes; cases x <;> simp
theorem Goes.fail {α : Type} {x : Option (List α)} {D : List α} {y : Option (List α)} (h : Goes x D y) (hy : y = none) : x = none := by rw [h, hy]; rfl
theorem Goes.done {α : Type} {x : Option (List α)} {D : List α} {y : Option (List α)} (h : Goes x D y) (hy : y = some []) : x = some D := by rw [h, hy]; simp
theorem Goes.step {α : Type} {x : Option (List α)} {D : List α} {y z : Option (List α)} {c : α} (h : Goes x D y) (hy : y = z.map (c :: ·)) : Goes x (D ++ [c]) z := by
  unfold Goes at h ⊢
  rw [h, hy]
  cases z <;> simp

theorem drop_at {α : Type} (l : List α) (i : Nat) (h : i < l.length) : l.drop i = l[i] :: l.drop (i + 1) := List.drop_eq_getElem_cons h
theorem drop_end {α : Type} (l : List α) (i : Nat) (h : l.length ≤ i) : l.drop i = [] := List.drop_eq_nil_of_le h

theorem unesc_nil : unesc [] = some [] := by simp [unesc]
theorem unesc_plain (c : UInt8) (t : List UInt8) (h : c ≠ 37) : unesc (c :: t) = (unesc t).map (c :: ·) := by
  rw [unesc.eq_def]; simp only [if_neg h]
theorem unesc_two (a b : UInt8) (t : List UInt8) (h : ¬ (dg a < 0 ∨ dg b < 0)) : unesc (37 :: a :: b :: t) = (unesc t).map (two a b :: ·) := by
  simp [unesc, not_or.1 h]
theorem unesc_bad (a b : UInt8) (t : List UInt8) (h : dg a < 0 ∨ dg b < 0) : unesc (37 :: a :: b :: t) = none := by
  simp only [unesc, if_pos h, ite_true]
theorem unesc_short (t : List UInt8) (h : t.length < 2) : unesc (37 :: t) = none := by
  match t, h with
  | [], _ => simp [unesc]
  | [a], _ => simp [unesc]
  | a :: b :: t, h => simp at h; omega
theorem unesc_length : ∀ (n : Nat) (l k : List UInt8), l.length ≤ n → unesc l = some k → k.length ≤ l.length := by
  intro n
  induction n with
  | zero =>
    intro l k hl h
    obtain rfl : l = [] := List.eq_nil_of_length_eq_zero (by omega)
    simp [unesc] at h; subst h; simp
  | succ n ih =>
    intro l k hl h
    match l, hl, h with
    | [], _, h => simp [unesc] at h; subst h; simp
    | c :: t, hl, h =>
      by_cases hc : c = 37
      · subst hc
        match t, hl, h with
        | [], _, h => rw [unesc_short _ (by simp)] at h; cases h
        | [a], _, h => rw [unesc_short _ (by simp)] at h; cases h
        | a :: b :: t, hl, h =>
          by_cases hd : dg a < 0 ∨ dg b < 0
          · rw [unesc_bad _ _ _ hd] at h; cases h
          · rw [unesc_two _ _ _ hd] at h
            obtain ⟨k', h1, rfl⟩ := Option.map_eq_some_iff.1 h
            have := ih t k' (by simp at hl; omega) h1
            simp; omega
      · rw [unesc_plain _ _ hc] at h
        obtain ⟨k', h1, rfl⟩ := Option.map_eq_some_iff.1 h
        have := ih t k' (by simpa using hl) h1
        simpa using this
theorem keyOf_length (s k : List UInt8) (h : keyOf s = some k) : k.length ≤ s.length := by
  unfold keyOf at h
  split at h
  · have := hexD_length _ _ h
    simp at this; omega
  · exact unesc_length _ _ _ (Nat.le_refl _) h
theorem keysL_cons (s : List UInt8) (r : List (List UInt8)) (k : List UInt8) (h : keyOf s = some k) : keysL (s :: r) = (keysL r).map (k :: ·) := by
  rw [keysL, h]
  cases keysL r <;> rfl
theorem keysL_bad (s : List UInt8) (r : List (List UInt8)) (h : keyOf s = none) : keysL (s :: r) = none := by
  rw [keysL, h]
theorem keysL_length : ∀ (r ks : List (List UInt8)), keysL r = some ks → ks.length = r.length
  | [], ks, h => by simp [keysL] at h; subst h; rfl
  | s :: r, ks, h => by
    cases hk : keyOf s with
    | none => rw [keysL_bad _ _ hk] at h; cases h
    | some k =>
      rw [keysL_cons _ _ _ hk] at h
      obtain ⟨ks', h1, rfl⟩ := Option.map_eq_some_iff.1 h
      simp [keysL_length r ks' h1]
end Go.Proofs.YtfodkjpjejoemaaDoor
