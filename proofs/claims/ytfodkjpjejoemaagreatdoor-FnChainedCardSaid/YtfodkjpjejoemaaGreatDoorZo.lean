
/-
  The keys of a path in plain Lean: split at slashes, bytes as %XX, or x: and hexadecimal digits.
  Conditions: none (definitions, and laws on them).
-/
import Derived.Lib.HexFns2
import Derived.Lib.Strings
import Derived.Test.YtfodkjpjejoemaaGreatDoorZa
import Derived.WalkSpells
import Derived.StillTailTactics
import Derived.Deep.RegionHeld3
import Derived.Deep.DrawnRows
namespace Go.Proofs.YtfodkjpjejoemaaGreatDoor
open Go

/-- the value of a byte as a hexadecimal digit; -1: it is none -/
def dgN (n : Nat) : Int := if 48 ≤ n ∧ n ≤ 57 then (n : Int) - 48 else if 97 ≤ n ∧ n ≤ 102 then (n : Int) - 87 else if 65 ≤ n ∧ n ≤ 70 then (n : Int) - 55 else -1
def dg (c : UInt8) : Int := dgN c.toNat
theorem dgN_lt (n : Nat) : dgN n < 16 := by unfold dgN; split; omega; split; omega; split <;> omega
theorem dg_lt (c : UInt8) : dg c < 16 := dgN_lt _
theorem u8_ofNat_toNat (c : UInt8) : UInt8.ofNat c.toNat = c := by simp
set_option maxRecDepth 100000 in
theorem v_fin : ∀ n : Fin 256, (15 < Lib.Hx.v (UInt8.ofNat n.val) ↔ dgN n.val < 0) ∧ (¬ dgN n.val < 0 → (Lib.Hx.v (UInt8.ofNat n.val) : Int) = dgN n.val) := by decide +kernel
theorem v_dg (c : UInt8) : (15 < Lib.Hx.v c ↔ dg c < 0) ∧ (¬ dg c < 0 → (Lib.Hx.v c : Int) = dg c) := by
  have h := v_fin ⟨c.toNat, c.toNat_lt⟩
  simp only [u8_ofNat_toNat] at h
  exact h

/-- two digits' byte -/
def two (a b : UInt8) : UInt8 := UInt8.ofNat (dg a * 16 + dg b).toNat
theorem two_toNat (a b : UInt8) (ha : ¬ dg a < 0) (hb : ¬ dg b < 0) : ((two a b).toNat : Int) = dg a * 16 + dg b := by
  have h1 := dg_lt a
  have h2 := dg_lt b
  unfold two
  simp only [UInt8.toNat_ofNat']
  omega

/-- hexadecimal digits, two a byte -/
def hexD : List UInt8 → Option (List UInt8)
  | [] => some []
  | [_] => none
  | a :: b :: t => if dg a < 0 ∨ dg b < 0 then none else (hexD t).map (two a b :: ·)
theorem hexD_odd : ∀ (l : List UInt8), l.length % 2 = 1 → hexD l = none
  | [], h => by simp at h
  | [_], _ => rfl
  | a :: b :: t, h => by
    rw [hexD, hexD_odd t (by simp at h; omega)]
    split <;> rfl
theorem hexD_length : ∀ (l k : List UInt8), hexD l = some k → k.length ≤ l.length
  | [], k, h => by simp [hexD] at h; subst h; simp
  | [_], k, h => by simp [hexD] at h
  | a :: b :: t, k, h => by
    rw [hexD] at h
    split at h
    · cases h
    · obtain ⟨k', h1, rfl⟩ := Option.map_eq_some_iff.1 h
      have := hexD_length t k' h1
      simp; omega
/-- what the library's decoder gives -/
theorem decode_hexD : ∀ (l : List UInt8), (∀ k, hexD l = some k → Lib.Hx.decode l = (k, .ok)) ∧ (hexD l = none → (Lib.Hx.decode l).2 ≠ .ok)
  | [] => ⟨fun k h => by simp [hexD] at h; subst h; exact Lib.Hx.decode_nil, fun h => by simp [hexD] at h⟩
  | [c] => ⟨fun k h => by simp [hexD] at h, fun _ => by rw [Lib.Hx.decode_one]; split <;> simp⟩
  | a :: b :: t => by
    obtain ⟨i1, i2⟩ := decode_hexD t
    rw [hexD, Lib.Hx.decode_two]
    by_cases ha : dg a < 0
    · rw [if_pos (.inl ha), if_pos ((v_dg a).1.2 ha)]
      exact ⟨fun k h => (by cases h), fun _ => (by simp)⟩
    · by_cases hb : dg b < 0
      · rw [if_pos (.inr hb), if_neg (fun h => ha ((v_dg a).1.1 h)), if_pos ((v_dg b).1.2 hb)]
        exact ⟨fun k h => (by cases h), fun _ => (by simp)⟩
      · rw [if_neg (by omega), if_neg (fun h => ha ((v_dg a).1.1 h)), if_neg (fun h => hb ((v_dg b).1.1 h))]
        refine ⟨fun k h => ?_, fun h => ?_⟩
        · obtain ⟨k', h1, rfl⟩ := Option.map_eq_some_iff.1 h
          have e := i1 k' h1
          rw [e]
          have ea := (v_dg a).2 ha
          have eb := (v_dg b).2 hb
          have : Lib.Hx.v a * 16 + Lib.Hx.v b = (dg a * 16 + dg b).toNat := by omega
          rw [this]; rfl
        · exact i2 (by simpa using h)

/-- bytes as %XX -/
def unesc : List UInt8 → Option (List UInt8)
  | [] => some []
  | c :: t => if c = 37 then (match t with | a :: b :: t' => if dg a < 0 ∨ dg b < 0 then none else (unesc t').map (two a b :: ·) | _ => none) else (unesc t).map (c :: ·)
def keyOf (s : List UInt8) : Option (List UInt8) := if Lib.hasPrefix s [120, 58] then hexD (s.drop 2) else unesc s
def keysL : List (List UInt8) → Option (List (List UInt8))
  | [] => some []
  | s :: r => match keyOf s, keysL r with | some k, some ks => some (k :: ks) | _, _ => none
/-- what stands between slashes -/
def segs : List UInt8 → List (List UInt8)
  | [] => [[]]
  | c :: t => if c = 47 then [] :: segs t else match segs t with | [] => [[c]] | h :: r => (c :: h) :: r
def keysOf (p : List UInt8) : Option (List (List UInt8)) := match p with | c :: t => if c = 47 then keysL (segs t) else none | [] => none

theorem segs_ne (l : List UInt8) : segs l ≠ [] := by
  cases l with
  | nil => simp [segs]
  | cons c t =>
    simp only [segs]
    split
    · simp
    · split <;> simp
theorem segs_one : ∀ (a : List UInt8), (∀ c ∈ a, c ≠ 47) → segs a = [a]
  | [], _ => rfl
  | c :: t, h => by
    rw [segs, if_neg (h c (by simp)), segs_one t (fun x hx => h x (by simp [hx]))]
theorem segs_more : ∀ (a t : List UInt8), (∀ c ∈ a, c ≠ 47) → segs (a ++ 47 :: t) = a :: segs t
  | [], t, _ => by simp [segs]
  | c :: a, t, h => by
    rw [List.cons_append, segs, if_neg (h c (by simp)), segs_more a t (fun x hx => h x (by simp [hx]))]

/-- a list of results of which D have been found, the rest as y says -/
def Goes {α : Type} (x : Option (List α)) (D : List α) (y : Option (List α)) : Prop := x = y.map (D ++ ·)
theorem Goes.start {α : Type} (x : Option (List α)) : Goes x [] x := by unfold Goes; cases x <;> simp
theorem Goes.fail {α : Type} {x : Option (List α)} {D : List α} {y : Option (List α)} (h : Goes x D y) (hy : y = none) : x = none := by rw [h, hy]; rfl
theorem Goes.done {α : Type} {x : Option (List α)} {D : List α} {y : Option (List α)} (h : Goes x D y) (hy : y = some []) : x = some D := by rw [h, hy]; simp
theorem Goes.step {α : Type} {x : Option (List α)} {D : List α} {y z : Option (List α)} {c : α} (h : Goes x D y) (hy : y = z.map (c :: ·)) : Goes x (D ++ [c]) z := by
  unfold Goes at h ⊢
  rw [h, hy]
  cases z <;> simp

theorem drop_at {α : Type} (l : List α) (i : Nat) (h : i < l.length) : l.drop i = l[i] :: l.drop (i + 1) := List.drop_eq_getElem_cons h
theorem drop_end {α : Type} (l : List α) (i : Nat) (h : l.length ≤ i) : l.drop i = [] := List.drop_eq_nil_of_le h

theorem unesc_nil : unesc [] = some [] := by simp [unesc]
theorem unesc_plain (c : UInt8) (t : List UInt8) (h : c ≠ 37) : unesc (c :: t) = (unesc t).map (c :: ·) := by
  rw [unesc.eq_def]; simp only [if_neg h]
theorem unesc_two (a b : UInt8) (t : List UInt8) (h : ¬ (dg a < 0 ∨ dg b < 0)) : unesc (37 :: a :: b :: t) = (unesc t).map (two a b :: ·) := by
  simp [unesc, not_or.1 h]
theorem unesc_bad (a b : UInt8) (t : List UInt8) (h : dg a < 0 ∨ dg b < 0) : unesc (37 :: a :: b :: t) = none := by
  simp only [unesc, if_pos h, ite_true]
theorem unesc_short (t : List UInt8) (h : t.length < 2) : unesc (37 :: t) = none := by
  match t, h with
  | [], _ => simp [unesc]
  | [a], _ => simp [unesc]
  | a :: b :: t, h => simp at h; omega
theorem unesc_length : ∀ (n : Nat) (l k : List UInt8), l.length ≤ n → unesc l = some k → k.length ≤ l.length := by
  intro n
  induction n with
  | zero =>
    intro l k hl h
    obtain rfl : l = [] := List.eq_nil_of_length_eq_zero (by omega)
    simp [unesc] at h; subst h; simp
  | succ n ih =>
    intro l k hl h
    match l, hl, h with
    | [], _, h => simp [unesc] at h; subst h; simp
    | c :: t, hl, h =>
      by_cases hc : c = 37
      · subst hc
        match t, hl, h with
        | [], _, h => rw [unesc_short _ (by simp)] at h; cases h
        | [a], _, h => rw [unesc_short _ (by simp)] at h; cases h
        | a :: b :: t, hl, h =>
          by_cases hd : dg a < 0 ∨ dg b < 0
          · rw [unesc_bad _ _ _ hd] at h; cases h
          · rw [unesc_two _ _ _ hd] at h
            obtain ⟨k', h1, rfl⟩ := Option.map_eq_some_iff.1 h
            have := ih t k' (by simp at hl; omega) h1
            simp; omega
      · rw [unesc_plain _ _ hc] at h
        obtain ⟨k', h1, rfl⟩ := Option.map_eq_some_iff.1 h
        have := ih t k' (by simpa using hl) h1
        simpa using this
theorem keyOf_length (s k : List UInt8) (h : keyOf s = some k) : k.length ≤ s.length := by
  unfold keyOf at h
  split at h
  · have := hexD_length _ _ h
    simp at this; omega
  · exact unesc_length _ _ _ (Nat.le_refl _) h
theorem keysL_cons (s : List UInt8) (r : List (List UInt8)) (k : List UInt8) (h : keyOf s = some k) : keysL (s :: r) = (keysL r).map (k :: ·) := by
  rw [keysL, h]
  cases keysL r <;> rfl
theorem keysL_bad (s : List UInt8) (r : List (List UInt8)) (h : keyOf s = none) : keysL (s :: r) = none := by
  rw [keysL, h]
theorem keysL_length : ∀ (r ks : List (List UInt8)), keysL r = some ks → ks.length = r.length
  | [], ks, h => by simp [keysL] at h; subst h; rfl
  | s :: r, ks, h => by
    cases hk : keyOf s with
    | none => rw [keysL_bad _ _ hk] at h; cases h
    | some k =>
      rw [keysL_cons _ _ _ hk] at h
      obtain ⟨ks', h1, rfl⟩ := Option.map_eq_some_iff.1 h
      simp [keysL_length r ks' h1]
end Go.Proofs.YtfodkjpjejoemaaGreatDoor

/-
  The keys of a path: digits, the search for a slash, the split at slashes.
  Conditions: the lengths are bounded.
-/
namespace Go.Proofs.YtfodkjpjejoemaaGreatDoor
open Go Go.RowKit

set_option maxHeartbeats 1000000 in
theorem digit_any (n : Nat) (w : World) (hn : n < 256) :
    Calls Tryz.prog 26 #[.int .u8 (n : Int)] w fun e w' => e = .returned (.int .i64 (dgN n)) ∧ w = w' := by
  go_enter Tryz.func26, Tryz.ntmps26
  go_wp2
  all_goals
    go_ret
    exact ⟨ret_i (by unfold dgN; split <;> (try split) <;> (try split) <;> omega), rfl⟩

theorem wrap64_of (z : Int) (h1 : -9223372036854775808 ≤ z) (h2 : z ≤ 9223372036854775807) : IntKind.i64.wrap z = z := by
  simp [IntKind.wrap, IntKind.bits, IntKind.signed]; omega

/-- the place of the first slash -/
def Slash (L : List UInt8) (r : Int) : Prop := (r = -1 ∧ ∀ c ∈ L, c ≠ 47) ∨ ∃ k : Nat, r = k ∧ ∃ h : k < L.length, L[k] = 47 ∧ ∀ c ∈ L.take k, c ≠ 47

theorem size_data (s : ByteArray) : s.size = s.data.toList.length := Lib.size_eq s
theorem at_data (s : ByteArray) (k : Nat) (h : k < s.size) : s[k] = s.data.toList[k]'(by rw [← size_data]; exact h) := by
  simp [ByteArray.getElem_eq_getElem_data]
theorem one_slash (s : ByteArray) (k : Nat) (h : k < s.size) : ((s.extract k (k + 1)).toList == [47]) = decide (s[k] = 47) := by
  rw [Lib.extract_toList, at_data s k h, drop_at _ k (by rw [← size_data]; exact h), show k + 1 - k = 1 by omega, List.take_succ_cons, List.take_zero]
  rw [Bool.eq_iff_iff]
  simp
theorem take_snoc {α : Type} (L : List α) (k : Nat) (h : k < L.length) : L.take (k + 1) = L.take k ++ [L[k]] := by
  rw [List.take_add_one, List.getElem?_eq_getElem h]; rfl

set_option maxHeartbeats 1000000 in
theorem zzIndex_any (s : ByteArray) (w : World) (hs : s.size ≤ 4611686018427387904) :
    Calls Tryz.prog 86 #[.string s, .string { data := #[47] }] w fun e w' => (∃ r, e = .returned (.int .i64 r) ∧ Slash s.data.toList r) ∧ w = w' := by
  go_enter Tryz.func86, Tryz.ntmps86
  go_wp2
  go_loop [5] (fun v => ∃ k : Nat, k ≤ s.size ∧ v = .int .i64 k ∧ ∀ c ∈ s.data.toList.take k, c ≠ 47) (fun v => s.size - (intOf v).toNat)
  case atStart => exact ⟨0, Nat.zero_le _, rfl, by simp⟩
  case round =>
    obtain ⟨k, hk, rfl, hno⟩ := hrel
    have HN := Lib.hid hno
    clear hno
    by_cases hlt : k < s.size
    · have hsl : ∀ w, (Instr.slice 9 (.string s) (some (.int .i64 (k : Int))) (some (.int .i64 ((k : Int) + 1))) none).run Tryz.prog w = .ok (.string (s.extract k (k + 1))) w := fun w => by
        rw [run_slice_string w _ s .i64 .i64 k (k + 1) Tryz.underlying9 (by omega) (by omega) (by omega)]
        rfl
      have hone := one_slash s k hlt
      by_cases h47 : s[k] = 47
      · have hone' : ((s.extract k (k + 1)).toList == [47]) = true := by rw [hone]; simp [h47]
        have H47 := Lib.hid h47
        clear hone h47
        go_wp2
        go_ret
        exact ⟨⟨_, rfl, .inr ⟨k, rfl, by rw [← size_data]; exact hlt, by rw [← at_data s k hlt]; exact H47.out, HN.out⟩⟩, rfl⟩
      · have hone' : ((s.extract k (k + 1)).toList == [47]) = false := by rw [hone]; simp [h47]
        have H47 := Lib.hid h47
        clear hone h47
        go_wp2
        go_round
        case rel => exact ⟨k + 1, hlt, by go_num, by
          rw [take_snoc _ k (by rw [← size_data]; exact hlt)]
          intro c hc
          rcases List.mem_append.1 hc with h | h
          · exact HN.out c h
          · rw [List.mem_singleton.1 h, ← at_data s k hlt]; exact H47.out⟩
        case measure => simp [intOf]; omega
    · obtain rfl : k = s.size := by omega
      go_wp2
      go_ret
      exact ⟨⟨_, rfl, .inl ⟨rfl, fun c hc => HN.out c (by rw [List.take_of_length_le (by rw [← size_data]; exact Nat.le_refl _)]; exact hc)⟩⟩, rfl⟩
end Go.Proofs.YtfodkjpjejoemaaGreatDoor

/-
  The keys of a path: the split at slashes walked.
  Conditions: the length is bounded.
-/
namespace Go.Proofs.YtfodkjpjejoemaaGreatDoor
open Go Go.RowKit
attribute [local go_sem ↓] Go.wp_at_zero Go.wp_at_succ

def strV (l : List UInt8) : Value := .string ⟨l.toArray⟩
theorem appS : AppOk Tryz.prog 168 9 16 := by
  obtain ⟨i0, hi, hz0, hz1, hz2⟩ := info_parts (show (Tryz.prog.info? 9).map (fun i => (i.zero, i.size, i.bytes)) = some (some (.string ⟨#[]⟩), 1, 16) by kernel_rfl)
  exact ⟨Tryz.underlying168, by omega, i0, _, hi, hz0, hz1, hz2, rfl⟩
theorem strV_data (s : ByteArray) : Value.string s = strV s.data.toList := by unfold strV; rw [Lib.mk_data]
theorem oneS (w : World) (s : ByteArray) : Src (w.alloc (.cells #[.string s] 9)) (some ⟨w.heap.size, 0, none⟩) 1 ([s.data.toList].map strV) := Src.one (by rw [World.cell?_alloc_new]; simp [← strV_data])
theorem oneSC (L : List (List UInt8)) : ∀ u ∈ L.map strV, u.oneCell' = true := by
  intro u hu; obtain ⟨x, _, rfl⟩ := List.mem_map.1 hu; rfl
def lenS : Value → Nat | .string s => s.size | _ => 0

theorem segs_slash (L : List UInt8) (k : Nat) (h : k < L.length) (hk : L[k] = 47) (hn : ∀ c ∈ L.take k, c ≠ 47) : segs L = L.take k :: segs (L.drop (k + 1)) := by
  have e : L.take k ++ 47 :: L.drop (k + 1) = L := by rw [← hk, ← drop_at L k h, List.take_append_drop]
  have h2 := segs_more (L.take k) (L.drop (k + 1)) hn
  rw [e] at h2
  exact h2
theorem segs_length (L : List UInt8) : (segs L).length ≤ L.length + 1 := by
  induction L with
  | nil => simp [segs]
  | cons c t ih =>
    rw [segs]
    split
    · simp; omega
    · split
      · simp
      · rename_i h r e
        rw [e] at ih
        simp at ih ⊢; omega

set_option maxHeartbeats 2000000 in
theorem zzSplit_any (s : ByteArray) (w : World) (hs : s.size ≤ 1099511627776) :
    Calls Tryz.prog 80 #[.string s, .string { data := #[47] }] w fun e w' => ∃ v, e = .returned v ∧ Own w' w.heap.size 9 v ((segs s.data.toList).map strV) ∧ Keep w w' := by
  have hsl := segs_length s.data.toList
  rw [← size_data] at hsl
  obtain ⟨N, hN⟩ : ∃ N, N = s.size := ⟨_, rfl⟩
  have HSL : Hid ((segs s.data.toList).length ≤ N + 1) := Lib.hid (by omega)
  rw [← hN] at hs
  have HNN := Lib.hid hN
  clear hsl hN
  go_enter Tryz.func80, Tryz.ntmps80
  go_wp2_with fail
  go_loopw [0, 5] (fun sv v wr => ∃ (s' : ByteArray) (done : List (List UInt8)), sv = .string s' ∧ s'.size ≤ N ∧ Own wr w.heap.size 9 v (done.map strV) ∧ done ++ segs s'.data.toList = segs s.data.toList ∧ Keep w wr) (fun sv _ _ => lenS sv)
  case atStart => exact ⟨s, [], rfl, by rw [HNN.out]; exact Nat.le_refl _, Own.nil_ _ _ _, rfl, Kp.refl _ _⟩
  case round =>
    obtain ⟨s', done, rfl, hn', hown, hd, hkp⟩ := hrel
    have HW := Lib.hid hown
    have HD := Lib.hid hd
    have HK := Lib.hid hkp
    have hdl : done.length ≤ N := by
      have h1 := HSL.out
      rw [← hd, List.length_append] at h1
      have h2 : 0 < (segs s'.data.toList).length := List.length_pos_iff.2 (segs_ne _)
      omega
    obtain ⟨A1, c1, rfl, f1, f2, f3, f4⟩ := hown.form
    have hll : (done.map strV).length = done.length := by simp
    have HLL := Lib.hid hll
    rw [hll] at f1 HW ⊢
    unfold maxLen at f2
    clear hown hd hkp f3 f4 hll
    go_wp2_with fail
    refine (zzIndex_any s' _ (by omega)).mono ?_
    rintro e w1 ⟨⟨r, rfl, hr⟩, rfl⟩
    rcases hr with ⟨rfl, hno⟩ | ⟨k, rfl, hk, h47, hno⟩
    · have HNO := Lib.hid hno
      clear hno
      go_wp2_with (at_builtin
                   refine wpList_app rfl (.tmp 42) (.tmp 44) 168 rfl appS rfl (HW.out.alloc _) rfl (oneS _ _) (oneSC [_]) (fun e => by cases e) (by rw [HLL.out]; omega) (by have := HK.out.size; simp; omega) ?_
                   intro v2 w2 h2 hk2 _
                   have HO2 := Lib.hid h2
                   have HK2 := Lib.hid hk2
                   clear h2 hk2)
      go_ret
      refine ⟨v2, rfl, ?_, (HK.out.alloc _).trans' HK2.out (fun i hi e => by have := (HW.out.lt i e.symm).1; omega)⟩
      have h1 := HO2.out
      rw [← List.map_append, ← segs_one _ HNO.out, HD.out] at h1
      exact h1
    · have hks : k < s'.size := by rw [size_data]; exact hk
      have hseg := segs_slash _ k hk h47 hno
      have HSG := Lib.hid hseg
      obtain ⟨sa, hsa⟩ : ∃ sa, sa = s'.extract 0 k := ⟨_, rfl⟩
      obtain ⟨sb, hsb⟩ : ∃ sb, sb = s'.extract (k + 1) s'.size := ⟨_, rfl⟩
      have hs1 : ∀ w, (Instr.slice 9 (.string s') none (some (.int .i64 (k : Int))) none).run Tryz.prog w = .ok (.string sa) w := fun w => by
        rw [run_slice_string_h w _ s' Tryz.underlying9 .i64 k (by omega) (by omega), hsa]; rfl
      have hs2 : ∀ w, (Instr.slice 9 (.string s') (some (.int .i64 ((k : Int) + 1))) none none).run Tryz.prog w = .ok (.string sb) w := fun w => by
        rw [run_slice_string_l w _ s' Tryz.underlying9 .i64 _ (by omega) (by omega), hsb]; rfl
      have ha : sa.data.toList = s'.data.toList.take k := by rw [hsa, Lib.extract_data]; simp
      have hb : sb.data.toList = s'.data.toList.drop (k + 1) := by
        rw [hsb, Lib.extract_data, List.take_of_length_le (by rw [List.length_drop, ← size_data]; exact Nat.le_refl _)]
      have hbl : sb.size < s'.size := by rw [size_data, hb, List.length_drop, ← size_data]; omega
      have HA := Lib.hid ha
      have HB := Lib.hid hb
      clear ha hb hsa hsb hseg hno h47 hk
      go_wp2_with (at_builtin
                   refine wpList_app rfl (.tmp 46) (.tmp 50) 168 rfl appS rfl (HW.out.alloc _) rfl (oneS _ _) (oneSC [_]) (fun e => by cases e) (by rw [HLL.out]; omega) (by have := HK.out.size; simp; omega) ?_
                   intro v2 w2 h2 hk2 _
                   have HO2 := Lib.hid h2
                   have HK2 := Lib.hid hk2
                   clear h2 hk2)
      go_roundw
      case rel =>
        refine ⟨sb, done ++ [sa.data.toList], rfl, by omega, ?_, ?_, (HK.out.alloc _).trans' HK2.out (fun i hi e => by have := (HW.out.lt i e.symm).1; omega)⟩
        · have h1 := HO2.out
          rw [← List.map_append] at h1
          exact h1
        · rw [List.append_assoc, List.cons_append, List.nil_append, HA.out, HB.out, ← HSG.out]; exact HD.out
      case measure => simp [lenS]; omega
end Go.Proofs.YtfodkjpjejoemaaGreatDoor

/-
  The keys of a path: net/url's table of bytes, hexadecimal digits by it.
  Conditions: the table's cells hold its numbers.
-/
namespace Go.Proofs.YtfodkjpjejoemaaGreatDoor
open Go Go.RowKit
attribute [local go_sem ↓] Go.wp_at_zero Go.wp_at_succ

def urlTab : List Int := [0, 0, 0, 0, 0, 0, 0, 0, 0, 0, 0, 0, 0, 0, 0, 0, 0, 0, 0, 0, 0, 0, 0, 0, 0, 0, 0, 0, 0, 0, 0, 0, 0, 76, 12, 0, 95, 0, 95, 12, 76, 76, 76, 95, 93, 127, 127, 65, 255, 255, 255, 255, 255, 255, 255, 255, 255, 255, 79, 93, 12, 95, 12, 64, 67, 255, 255, 255, 255, 255, 255, 127, 127, 127, 127, 127, 127, 127, 127, 127, 127, 127, 127, 127, 127, 127, 127, 127, 127, 127, 127, 12, 0, 12, 0, 127, 0, 255, 255, 255, 255, 255, 255, 127, 127, 127, 127, 127, 127, 127, 127, 127, 127, 127, 127, 127, 127, 127, 127, 127, 127, 127, 127, 0, 0, 0, 127, 0, 0, 0, 0, 0, 0, 0, 0, 0, 0, 0, 0, 0, 0, 0, 0, 0, 0, 0, 0, 0, 0, 0, 0, 0, 0, 0, 0, 0, 0, 0, 0, 0, 0, 0, 0, 0, 0, 0, 0, 0, 0, 0, 0, 0, 0, 0, 0, 0, 0, 0, 0, 0, 0, 0, 0, 0, 0, 0, 0, 0, 0, 0, 0, 0, 0, 0, 0, 0, 0, 0, 0, 0, 0, 0, 0, 0, 0, 0, 0, 0, 0, 0, 0, 0, 0, 0, 0, 0, 0, 0, 0, 0, 0, 0, 0, 0, 0, 0, 0, 0, 0, 0, 0, 0, 0, 0, 0, 0, 0, 0, 0, 0, 0, 0, 0, 0, 0, 0, 0, 0, 0, 0, 0, 0, 0, 0, 0, 0]
theorem urlTab_length : urlTab.length = 256 := by decide +kernel
def UTab (w : World) : Prop := ∀ i, i < 256 → w.cell? ⟨1, i, none⟩ = some (.int .u8 (urlTab.getD i 0))
theorem UTab.keep {w w' : World} (h : UTab w) (k : Keep w w') : UTab w' := fun i hi => k.cell_of (h i hi) (fun x => x)
theorem UTab.drew {w : World} (h : UTab w) : UTab w.drew := h
set_option maxRecDepth 100000 in
theorem tab_fin : ∀ n : Fin 256, (dgN n.val < 0 → bits .and .u8 (urlTab.getD n.val 0) 128 = 0) ∧ (¬ dgN n.val < 0 → bits .and .u8 (urlTab.getD n.val 0) 128 = 128) := by decide +kernel

theorem ishex_any (n : Nat) (w : World) (hn : n < 256) (ht : UTab w) :
    Calls Tryz.prog 93 #[.int .u8 (n : Int)] w fun e w' => e = .returned (.bool (decide (0 ≤ dgN n))) ∧ w = w' := by
  have hc := ht n hn
  have hf := tab_fin ⟨n, hn⟩
  simp only at hf
  obtain ⟨t, hT⟩ : ∃ t, t = urlTab.getD n 0 := ⟨_, rfl⟩
  rw [← hT] at hc hf
  clear hT ht
  by_cases hd : dgN n < 0
  · have ha := hf.1 hd
    have hd2 : decide (0 ≤ dgN n) = false := by simp; omega
    rw [hd2]
    clear hf hd hd2
    go_enter Tryz.func93, Tryz.ntmps93
    go_wp2
    go_ret
    exact ⟨rfl, rfl⟩
  · have ha := hf.2 hd
    have hd2 : decide (0 ≤ dgN n) = true := by simp; omega
    rw [hd2]
    clear hf hd hd2
    go_enter Tryz.func93, Tryz.ntmps93
    go_wp2
    go_ret
    exact ⟨rfl, rfl⟩

set_option maxRecDepth 100000 in
theorem hex_fin : ∀ n : Fin 256, ¬ dgN n.val < 0 → bits .and .u8 (n.val : Int) 15 = ((n.val % 16 : Nat) : Int) ∧ (9 * (n.val / 64 : Nat) + (n.val % 16 : Nat) : Int) = dgN n.val ∧ (n.val / 64) ≤ 1 := by decide +kernel

theorem unhex_any (n : Nat) (w : World) (hn : n < 256) (hd : ¬ dgN n < 0) :
    Calls Tryz.prog 94 #[.int .u8 (n : Int)] w fun e w' => e = .returned (.int .u8 (dgN n)) ∧ w = w' := by
  obtain ⟨h1, h2, h3⟩ := hex_fin ⟨n, hn⟩ hd
  simp only at h1 h2 h3
  clear hd
  rw [← h2]
  clear h2
  go_enter Tryz.func94, Tryz.ntmps94
  go_wp2
  go_ret
  exact ⟨ret_i (by omega), rfl⟩

set_option maxRecDepth 100000 in
theorem or_fin : ∀ a b : Fin 16, bits BinOp.or IntKind.u8 (((a.val : Nat) : Int) * 16 % 256) ((b.val : Nat) : Int) = (((a.val * 16 + b.val : Nat)) : Int) := by decide +kernel
/-- two digits' byte as the walk spells it -/
theorem or_two (a b : UInt8) (ha : ¬ dg a < 0) (hb : ¬ dg b < 0) : bits .or .u8 (dg a * 16 % 256) (dg b) = ((two a b).toNat : Int) := by
  have h1 := dg_lt a
  have h2 := dg_lt b
  have h := or_fin ⟨(dg a).toNat, by omega⟩ ⟨(dg b).toNat, by omega⟩
  simp only at h
  rw [Int.toNat_of_nonneg (by omega), Int.toNat_of_nonneg (by omega)] at h
  rw [h, two_toNat a b ha hb]
  omega
end Go.Proofs.YtfodkjpjejoemaaGreatDoor
