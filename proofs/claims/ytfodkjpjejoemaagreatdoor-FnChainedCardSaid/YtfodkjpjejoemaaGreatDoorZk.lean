
/-
  A proof verified: the package's method walked.
  Conditions: the proof's block, the arguments read as bytes; SHA-256's table holds its numbers.
-/
import Derived.Test.YtfodkjpjejoemaaGreatDoorZj
import Derived.Test.YtfodkjpjejoemaaGreatDoorZi
import Derived.WalkSpells
namespace Go.Proofs.YtfodkjpjejoemaaGreatDoor
open Go Go.RowKit
attribute [local go_sem ↓] Go.wp_at_zero Go.wp_at_succ

/-- the root to which a proof leads -/
def climbP (p : Prf) : Option (List UInt8) := if 0 ≤ p.index ∧ p.index < p.total then climbS p.leaf p.aunts p.total.toNat p.index.toNat else none
theorem bytesEqual_any (v1 v2 : Value) (L M : List UInt8) (w : World) (h1 : Byts w v1 L) (h2 : Byts w v2 M) :
    Calls Tryz.prog 74 #[v1, v2] w fun e w' => e = .returned (.bool (L == M)) ∧ w = w' := by
  have H1 := h1
  have H2 := h2
  obtain ⟨A, c, rfl, a1, a2, a3, a4⟩ := h1
  obtain ⟨B, d, rfl, b1, b2, b3, b4⟩ := h2
  have e1 := byts_string (P := Tryz.prog) Tryz.underlying24 Tryz.underlying5 Tryz.underlying9 H1
  have e2 := byts_string (P := Tryz.prog) Tryz.underlying24 Tryz.underlying5 Tryz.underlying9 H2
  clear a1 a2 a3 a4 b1 b2 b3 b4 H1 H2
  go_enter Tryz.func74, Tryz.ntmps74
  go_wp2
  go_ret
  exact ⟨rfl, rfl⟩

theorem comp_bad (hs : Value) (lv av : Value) (total i : Int) (w : World) (hit : total ≤ i ∨ i < 0) :
    Calls Tryz.prog 128 #[hs, .int .i64 i, .int .i64 total, lv, av] w fun e w' => (∃ t x, e = .returned (.tuple #[.slice none 0 0, .iface t x])) ∧ Keep w w' := by
  by_cases h : total ≤ i
  · clear hit
    go_enter Tryz.func128, Tryz.ntmps128
    go_wp2_with (go_at_call 57; refine (errNew2_any _ _).mono ?_; rintro e w1 ⟨⟨x, rfl⟩, hk1⟩)
    go_ret2
    exact ⟨⟨_, _, rfl⟩, hk1⟩
  · have h2 : i < 0 := by omega
    clear hit
    go_enter Tryz.func128, Tryz.ntmps128
    go_wp2_with (go_at_call 57; refine (errNew2_any _ _).mono ?_; rintro e w1 ⟨⟨x, rfl⟩, hk1⟩)
    go_ret2
    exact ⟨⟨_, _, rfl⟩, hk1⟩

/-- the computed root: of any proof with numbers from 0 on -/
theorem comp_any (b : Nat) (p : Prf) (lv av : Value) (w : World) (ha : MatB w b av p.aunts) (hl : Bys w b lv p.leaf) (hd : ∃ bs, Dg w b bs) (hK : KTab w) (hi0 : 0 ≤ p.index) (ht2 : p.total ≤ 9223372036854775807) (hll : p.leaf.length ≤ 1073741824) (hal : ∀ a ∈ p.aunts, a.length ≤ 1073741824) :
    Calls Tryz.prog 128 #[hshV b, .int .i64 p.index, .int .i64 p.total, lv, av] w fun e w' => EndsH w' b (climbP p) e ∧ (∃ bs, Dg w' b bs) ∧ Kp (fun j => j = b) w w' := by
  by_cases h : p.index < p.total
  · have e : climbP p = climbS p.leaf p.aunts p.total.toNat p.index.toNat := if_pos ⟨hi0, h⟩
    have := comp_n b p.aunts.length p.aunts p.leaf lv av p.total.toNat p.index.toNat w (Nat.le_refl _) ha hl hd hK (by omega) (by omega) (by omega) hll hal
    rw [Int.toNat_of_nonneg hi0, Int.toNat_of_nonneg (by omega)] at this
    rw [e]
    exact this
  · have e : climbP p = none := if_neg fun hh => h hh.2
    rw [e]
    refine (comp_bad (hshV b) lv av p.total p.index w (.inl (by omega))).mono ?_
    rintro e w' ⟨h1, hk⟩
    obtain ⟨bs, hd⟩ := hd
    exact ⟨h1, ⟨bs, hd.kp hk (fun x => x)⟩, hk.keep⟩

/-- a proof's block -/
def PrfB (w : World) (bp : Nat) (p : Prf) (lv av : Value) : Prop :=
  w.cell? ⟨bp, 0, none⟩ = some (.int .i64 p.total) ∧ w.cell? ⟨bp, 1, none⟩ = some (.int .i64 p.index) ∧ w.cell? ⟨bp, 2, none⟩ = some lv ∧ w.cell? ⟨bp, 3, none⟩ = some av

set_option maxRecDepth 100000 in
set_option maxHeartbeats 2000000 in
theorem compRoot_any (b bp : Nat) (p : Prf) (lv av : Value) (w : World) (hp : PrfB w bp p lv av) (hne : bp ≠ b) (ha : MatB w b av p.aunts) (hl : Bys w b lv p.leaf) (hd : ∃ bs, Dg w b bs) (hK : KTab w) (hi0 : 0 ≤ p.index) (ht2 : p.total ≤ 9223372036854775807) (hll : p.leaf.length ≤ 1073741824) (hal : ∀ a ∈ p.aunts, a.length ≤ 1073741824) :
    Calls Tryz.prog 126 #[.pointer (some ⟨bp, 0, none⟩), hshV b] w fun e w' => EndsH w' b (climbP p) e ∧ (∃ bs, Dg w' b bs) ∧ Kp (fun j => j = b) w w' := by
  have HC := Lib.hid (comp_any b p lv av w.drew (ha.later (Kp.refl _ w).drew) (hl.later (Kp.refl _ w).drew) (by obtain ⟨bs, h⟩ := hd; exact ⟨bs, h.kp (Kp.refl (fun _ => False) w).drew (fun x => x)⟩) (hK.keep (Kp.refl (fun _ => False) w).drew (fun x => x)) hi0 ht2 hll hal)
  obtain ⟨c0, c1, c2, c3⟩ := hp
  obtain ⟨A, c, rfl, -, -, -, -⟩ := hl.at_
  obtain ⟨A2, d, rfl, -, -, -, -⟩ := ha.at_
  obtain ⟨HS, hHS⟩ : ∃ HS, HS = hshV b := ⟨_, rfl⟩
  rw [← hHS] at HC ⊢
  have hbl := World.block_lt_of_cell? w _ c0
  simp only at hbl
  clear ha hl hd hK hHS
  cases hq : climbP p with
  | none =>
    have HQ := Lib.hid hq
    clear hq
    go_enter Tryz.func126, Tryz.ntmps126
    go_wp2_with fail
    go_region_held3 (fun w' => w'.cell? ⟨bp, 0, none⟩ = some (.int .i64 p.total) ∧ w'.cell? ⟨bp, 1, none⟩ = some (.int .i64 p.index) ∧ w'.cell? ⟨bp, 2, none⟩ = some (.slice A p.leaf.length c) ∧ w'.cell? ⟨bp, 3, none⟩ = some (.slice A2 p.aunts.length d))
      (first
        | exact ⟨by assumption, by assumption, by assumption, by assumption⟩
        | (go_split_ands; exact ⟨by assumption, by assumption, by assumption, by assumption⟩))
      (first
        | (go_at_call 128
           refine HC.out.mono ?_
           rintro e w1 ⟨he, hd1, hk1⟩
           rw [HQ.out] at he
           obtain ⟨t1, x1, rfl⟩ := he
           have HD1 := Lib.hid hd1
           have hk1' : Kp (fun j => j = b) w w1 := (Kp.refl _ w).drew.trans hk1
           have HK1 := Lib.hid hk1'
           have d0 := hk1'.cell_of c0 hne
           have d1 := hk1'.cell_of c1 hne
           have d2 := hk1'.cell_of c2 hne
           have d3 := hk1'.cell_of c3 hne
           clear hd1 hk1 hk1'))
    all_goals
      go_wp2_with fail
      go_ret2
      exact ⟨⟨_, _, rfl⟩, HD1.out, HK1.out⟩
  | some y =>
    have HQ := Lib.hid hq
    clear hq
    go_enter Tryz.func126, Tryz.ntmps126
    go_wp2_with fail
    go_region_held3 (fun w' => w'.cell? ⟨bp, 0, none⟩ = some (.int .i64 p.total) ∧ w'.cell? ⟨bp, 1, none⟩ = some (.int .i64 p.index) ∧ w'.cell? ⟨bp, 2, none⟩ = some (.slice A p.leaf.length c) ∧ w'.cell? ⟨bp, 3, none⟩ = some (.slice A2 p.aunts.length d))
      (first
        | exact ⟨by assumption, by assumption, by assumption, by assumption⟩
        | (go_split_ands; exact ⟨by assumption, by assumption, by assumption, by assumption⟩))
      (first
        | (go_at_call 128
           refine HC.out.mono ?_
           rintro e w1 ⟨he, hd1, hk1⟩
           rw [HQ.out] at he
           obtain ⟨v1, rfl, hb1, hy1⟩ := he
           have HB1 := Lib.hid hb1
           have HD1 := Lib.hid hd1
           have hk1' : Kp (fun j => j = b) w w1 := (Kp.refl _ w).drew.trans hk1
           have HK1 := Lib.hid hk1'
           have d0 := hk1'.cell_of c0 hne
           have d1 := hk1'.cell_of c1 hne
           have d2 := hk1'.cell_of c2 hne
           have d3 := hk1'.cell_of c3 hne
           clear hd1 hk1 hk1' hb1))
    all_goals
      go_wp2_with fail
      go_ret2
      exact ⟨⟨_, rfl, HB1.out, hy1⟩, HD1.out, HK1.out⟩
end Go.Proofs.YtfodkjpjejoemaaGreatDoor

/-
  A proof verified: the calls around it walked.
  Conditions: the proof reads as numbers and lists of bytes, root and leaf as bytes, the root not empty; SHA-256's table holds its numbers.
-/
namespace Go.Proofs.YtfodkjpjejoemaaGreatDoor
open Go Go.RowKit
attribute [local go_sem ↓] Go.wp_at_zero Go.wp_at_succ

/-- what verifying a proof answers -/
def verifB (p : Prf) (root leaf : List UInt8) : Bool := decide (0 ≤ p.total) && decide (0 ≤ p.index) && (p.leaf == leafS leaf) && (match climbP p with | some y => y == root | none => false)

theorem newHash_any (w : World) :
    Calls Tryz.prog 41 #[] w fun e w' => ∃ b, e = .returned (hshV b) ∧ w.heap.size ≤ b ∧ Dg w' b [] ∧ Keep w w' := by
  go_enter Tryz.func41, Tryz.ntmps41
  go_wp2_with (go_at_call 54
               refine (newDg_any _).mono ?_
               rintro e w1 ⟨b, rfl, hb1, hd1, hk1⟩)
  go_ret
  exact ⟨b, rfl, hb1, hd1, hk1⟩

end Go.Proofs.YtfodkjpjejoemaaGreatDoor

/-
  A proof verified: the thin call walked; the specification's Climbed.
  Conditions: the proof reads as numbers and lists of bytes, root and leaf as bytes, the root not empty; SHA-256's table holds its numbers.
-/
namespace Go.Proofs.YtfodkjpjejoemaaGreatDoor
open Go Go.RowKit
attribute [local go_sem ↓] Go.wp_at_zero Go.wp_at_succ

end Go.Proofs.YtfodkjpjejoemaaGreatDoor
