/-
  The digest's blocks: blockGeneric is SHA-256's compression, block by block.
  Conditions: the digest is known whole; the table _K holds the rounds' words; the bytes read as they stand.
-/
import Derived.Test.YtfodkjpjejoemaaDoorSha4
import Derived.Test.YtfodkjpjejoemaaDoorSlc
import Derived.Test.YtfodkjpjejoemaaDoorSha5b
import Derived.StillTailTactics
import Derived.RegionTactic
import Derived.ChangeAlike
import Derived.BigRegion
import Derived.Deep.RegionHeld3
import Derived.Deep.DrawnRows
namespace Go.Proofs.YtfodkjpjejoemaaDoor
open Go Go.RowKit
attribute [local go_sem ↓] Go.wp_at_zero Go.wp_at_succ

def KTab (w : World) : Prop := ∀ i, i < 64 → w.cell? ⟨4, i, none⟩ = some (u32v (shaK.getD i 0))

set_option maxRecDepth 100000 in
set_option maxHeartbeats 40000000 in
theorem blockGeneric_any (s : St) (x : List UInt8) (nx len b : Nat) (v : Value) (L : List UInt8) (w : World) (d : DgL w b s.list x nx len) (hv : Byts w v L) (hK : KTab w) (hL : L.length ≤ 4294967296) :
    Calls Tryd.prog 153 #[.pointer (some ⟨b, 0, none⟩), v] w fun e w' => e = .returned (.tuple #[]) ∧ DgL w' b (shaRun s L (L.length / 64)).list x nx len ∧ Kp (fun i => i = b) w w' := by
  have D := Lib.hid d
  have HV := Lib.hid hv
  have HK := Lib.hid hK
  obtain ⟨A, c, rfl, h1, h2, h3, h4⟩ := hv
  clear h4 hK
  unfold maxLen at h2
  have z0 : w.cell? ⟨b, 0, none⟩ = some (u32v s.a) := d.word 0 (by decide)
  have z1 : w.cell? ⟨b, 1, none⟩ = some (u32v s.b) := d.word 1 (by decide)
  have z2 : w.cell? ⟨b, 2, none⟩ = some (u32v s.c) := d.word 2 (by decide)
  have z3 : w.cell? ⟨b, 3, none⟩ = some (u32v s.d) := d.word 3 (by decide)
  have z4 : w.cell? ⟨b, 4, none⟩ = some (u32v s.e) := d.word 4 (by decide)
  have z5 : w.cell? ⟨b, 5, none⟩ = some (u32v s.f) := d.word 5 (by decide)
  have z6 : w.cell? ⟨b, 6, none⟩ = some (u32v s.g) := d.word 6 (by decide)
  have z7 : w.cell? ⟨b, 7, none⟩ = some (u32v s.h) := d.word 7 (by decide)
  clear d
  go_enter Tryd.func153, Tryd.ntmps153
  go_wp2
  have hk1 : ∀ o, Keep w (w.alloc o) := fun o => (Kp.refl _ _).alloc o
  have hA : Arr (w.alloc (Obj.cells #[Value.int .u32 0, Value.int .u32 0, Value.int .u32 0, Value.int .u32 0, Value.int .u32 0, Value.int .u32 0, Value.int .u32 0, Value.int .u32 0, Value.int .u32 0, Value.int .u32 0, Value.int .u32 0, Value.int .u32 0, Value.int .u32 0, Value.int .u32 0, Value.int .u32 0, Value.int .u32 0, Value.int .u32 0, Value.int .u32 0, Value.int .u32 0, Value.int .u32 0, Value.int .u32 0, Value.int .u32 0, Value.int .u32 0, Value.int .u32 0, Value.int .u32 0, Value.int .u32 0, Value.int .u32 0, Value.int .u32 0, Value.int .u32 0, Value.int .u32 0, Value.int .u32 0, Value.int .u32 0, Value.int .u32 0, Value.int .u32 0, Value.int .u32 0, Value.int .u32 0, Value.int .u32 0, Value.int .u32 0, Value.int .u32 0, Value.int .u32 0, Value.int .u32 0, Value.int .u32 0, Value.int .u32 0, Value.int .u32 0, Value.int .u32 0, Value.int .u32 0, Value.int .u32 0, Value.int .u32 0, Value.int .u32 0, Value.int .u32 0, Value.int .u32 0, Value.int .u32 0, Value.int .u32 0, Value.int .u32 0, Value.int .u32 0, Value.int .u32 0, Value.int .u32 0, Value.int .u32 0, Value.int .u32 0, Value.int .u32 0, Value.int .u32 0, Value.int .u32 0, Value.int .u32 0, Value.int .u32 0] 81)) w.heap.size 81 (List.replicate 64 0) := heap_alloc_new _ _
  generalize hwa : w.alloc _ = wa at hA ⊢
  have HKA : Hid (Keep w wa) := Lib.hid (by rw [← hwa]; exact hk1 _)
  clear hwa hk1
  have HA := Lib.hid hA
  clear hA
  replace z0 := HKA.out.cell_of z0 (fun x => x)
  replace z1 := HKA.out.cell_of z1 (fun x => x)
  replace z2 := HKA.out.cell_of z2 (fun x => x)
  replace z3 := HKA.out.cell_of z3 (fun x => x)
  replace z4 := HKA.out.cell_of z4 (fun x => x)
  replace z5 := HKA.out.cell_of z5 (fun x => x)
  replace z6 := HKA.out.cell_of z6 (fun x => x)
  replace z7 := HKA.out.cell_of z7 (fun x => x)
  obtain ⟨bw, hbw⟩ : ∃ b, b = w.heap.size := ⟨_, rfl⟩
  rw [← hbw] at HA ⊢
  have HBW := Lib.hid hbw
  clear hbw
  go_quiet (fail)
  go_wp2
  obtain ⟨m, hm⟩ : ∃ m, m = L.length / 64 := ⟨_, rfl⟩
  have HM := Lib.hid hm
  clear hm z0 z1 z2 z3 z4 z5 z6 z7
  go_loopw [1, 5, 6, 7, 8, 9, 10, 11, 12] (fun p a0 a1 a2 a3 a4 a5 a6 a7 wr => ∃ n : Nat, ∃ R : St, ∃ W : List W32, n ≤ m ∧ Byts w p (L.drop (64 * n)) ∧ R = shaRun s L n ∧ a0 = u32v R.a ∧ a1 = u32v R.b ∧ a2 = u32v R.c ∧ a3 = u32v R.d ∧ a4 = u32v R.e ∧ a5 = u32v R.f ∧ a6 = u32v R.g ∧ a7 = u32v R.h ∧
    W.length = 64 ∧ Arr wr bw 81 W ∧ Kp (fun i => i = bw) wa wr) (fun p _ _ _ _ _ _ _ _ _ => lenV p)
  case atStart => exact ⟨0, s, List.replicate 64 0, Nat.zero_le _, by simpa using HV.out, rfl, rfl, rfl, rfl, rfl, rfl, rfl, rfl, rfl, by simp, HA.out, (Kp.refl _ _).drewN _⟩
  case round =>
    obtain ⟨n, R, W, hn, hp, hR, rfl, rfl, rfl, rfl, rfl, rfl, rfl, rfl, hW, hw, hkp⟩ := hrel
    have HP := Lib.hid hp
    have HR := Lib.hid hR
    have HW := Lib.hid hw
    have HKP := Lib.hid hkp
    have HWL := Lib.hid hW
    obtain ⟨A1, c1, rfl, f1, f2, f3, f4⟩ := hp
    unfold maxLen at f2
    have F3 := Lib.hid f3
    have F4 := Lib.hid f4
    clear hR hW hw hkp f3 f4 h1 h2 h3 HA
    have hlp : (L.drop (64 * n)).length = L.length - 64 * n := List.length_drop
    have HLP := Lib.hid hlp
    obtain ⟨lp, hlp2⟩ : ∃ lp, lp = (L.drop (64 * n)).length := ⟨_, rfl⟩
    rw [← hlp2] at f1 ⊢
    rw [← hlp2] at hlp
    have HLL := Lib.hid hlp2
    have hlb : lp ≤ 4294967296 := by omega
    clear hlp2
    have hmm := HM.out
    by_cases hlt : n < m
    · have g64 : (64 : Int) ≤ (lp : Int) := by omega
      have hl64 : 64 ≤ lp := by omega
      clear hlp hmm
      obtain ⟨pb, poff, rfl, hc⟩ := F4.out (by have := HLP.out; have := HLL.out; omega)
      have hpb : pb < w.heap.size := by
        obtain ⟨u, hu, _⟩ := hc 0 (by have := HLP.out; have := HLL.out; omega)
        exact World.block_lt_of_cell? w _ hu
      have HPB : Hid (pb ≠ bw) := Lib.hid (by have := HBW.out; omega)
      obtain ⟨p, hp⟩ : ∃ p, p = shaChunk L n := ⟨_, rfl⟩
      have HPG : Hid (∀ j, j < 64 → wa.cell? ⟨pb, poff + j, none⟩ = some (u8v (p.getD j 0))) := Lib.hid (fun j hj => by
        obtain ⟨u, hu, hr⟩ := hc j (by have := HLP.out; have := HLL.out; omega)
        rw [HKA.out.cell_of hu (fun x => x), hr, hp, shaChunk_getD _ _ _ hj]
        simp [List.getD, show 64 * n + j < L.length by have := HLP.out; have := HLL.out; omega])
      have HCH := Lib.hid hp
      have HLT := Lib.hid hlt
      clear hp hc hpb hlt
      go_wp2
      go_loopw [80, 13, 14, 15, 16, 17, 18, 19, 20] (fun i a0 a1 a2 a3 a4 a5 a6 a7 wx => ∃ q : Nat, ∃ W : List W32, q ≤ 64 ∧ i = .int .i64 q ∧ a0 = u32v (shaRs p R q).a ∧ a1 = u32v (shaRs p R q).b ∧ a2 = u32v (shaRs p R q).c ∧ a3 = u32v (shaRs p R q).d ∧ a4 = u32v (shaRs p R q).e ∧ a5 = u32v (shaRs p R q).f ∧ a6 = u32v (shaRs p R q).g ∧ a7 = u32v (shaRs p R q).h ∧
        W.length = 64 ∧ W.take q = shaW p q ∧ Arr wx bw 81 W ∧ Kp (fun i => i = bw) wa wx) (fun i _ _ _ _ _ _ _ _ _ => 64 - (intOf i).toNat)
      case atStart => exact ⟨0, W, by omega, rfl, rfl, rfl, rfl, rfl, rfl, rfl, rfl, rfl, HWL.out, rfl, HW.out, HKP.out⟩
      case round =>
        obtain ⟨q, V, hq, rfl, rfl, rfl, rfl, rfl, rfl, rfl, rfl, rfl, hVl, hVt, hv, hkq⟩ := hrel
        have HV := Lib.hid hv
        have HKQ := Lib.hid hkq
        have HVT := Lib.hid hVt
        have HVL := Lib.hid hVl
        clear hVl hVt hv hkq HW HWL HKP
        by_cases hq64 : q < 64
        · have HRS := Lib.hid (show shaRs p R (q + 1) = shaRnd (shaK.getD q 0) ((shaW p (q + 1)).getD q 0) (shaRs p R q) from rfl)
          generalize shaRs p R q = S at HRS ⊢
          have HKC : Hid (∀ wx, Kp (fun i => i = bw) wa wx → wx.cell? ⟨4, q, none⟩ = some (u32v (shaK.getD q 0))) := Lib.hid (fun wx hwx => hwx.cell_of (HKA.out.cell_of (HK.out q hq64) (fun x => x)) (fun e => by have h7 := World.block_lt_of_cell? w _ (HK.out q hq64); have h8 := HBW.out; rw [← h8] at h7; simp at e h7; omega))
          by_cases hq16 : q < 16
          ·
              have hwx := shaW_getD p q (q + 1) (by omega)
              refine roundA _ _ _ _ _ _ _ _ _ _ _ _ _ _ _ _ _ _ _ _ _ _ _ _ _ _ _ _ _ _ _ _ _ _ _ _ _ _ _ _ _ _ _ _ _ _ _ _ _ _ _ _ _ _ _ _ _ _ _ _ _ _ _ _ _ _ _ _ _ _ _ _ _ _ _ _ _ _ _ _ _ _ _ _ _ _ _ _ _ _ _ _ _ _ _ _ _ _ _ _ _ _ _ _ _ _ _ _ _ _ _ _ _ _ _ _ _ _ _ _ _ _ _ _ _ _ _ _ _ _ _ _ _ _ _ _ _ _ _ _ _ _ _ _ _ _ _ _ _ _ _ _ _ _ _ _ _ _ _ _ _ _ _ _ _ _ _ _ _ _ _ _ _ _ _ _ _ _ _ _ _ _ _ _ _ _ _ _ _ _ _ _ _ _ _ _ _ _ _ _ _ _ _ _ _ _ _ _ _ _ _ _ _ _ _ _ _ _ _ _ _ _ _ _ _ _ _ _ _ _ _ _ _ _ _ _ _ _ _ _ _ _ _ _ _ _ _ _ _ _ _ _ _ _ _ _ _ _ _ _ _ _ _ _ _ _ _ _ _ _ _ _ q pb poff lp c1 bw p V S wr _ _ hq16 hl64 hlb HPB.out (fun j hj => HKQ.out.cell_of (HPG.out j hj) (fun e => HPB.out (by simpa using e))) (fun wx hwx => HKC.out wx (HKQ.out.trans hwx)) HV.out HVL.out HVT.out (fun u13 u14 u15 u16 u17 u18 u19 u20 u21 u22 u23 u24 u25 u26 u27 u28 u81 u82 u83 u84 u85 u86 u87 u88 u89 u90 u91 u92 u93 u94 u95 u96 u97 u98 u99 u100 u101 u102 u103 u104 u105 u106 u107 u108 u109 u110 u111 u112 u113 u114 u115 u116 u117 u118 u119 u120 u121 u122 u123 u124 u125 u126 u127 u128 u129 u130 u131 u132 u133 u134 u135 u136 u137 u138 u139 u140 u141 u142 u143 u144 u145 u146 u147 u148 u149 u150 u151 u152 u153 u154 u155 u156 u157 u158 u159 u160 u161 u162 u163 u164 u165 u166 u167 u168 u169 u170 u171 u172 u173 u174 u175 u176 u177 u178 u179 u180 u181 u182 u183 u184 u185 u186 u187 u188 u189 u190 u191 u192 u193 u194 u195 u196 u197 u198 u199 u200 u201 u202 u203 u204 u205 u206 u207 u208 u209 u210 u211 u212 u213 u214 u215 u216 wd e13 e14 e15 e16 e17 e18 e19 e20 hvd hkd => ?_)
              rw [hwx] at HRS
              refine ⟨⟨u13, u14, u15, u16, u17, u18, u19, u20, u21, u22, u23, u24, u25, u26, u27, u28, _, u81, u82, u83, u84, u85, u86, u87, u88, u89, u90, u91, u92, u93, u94, u95, u96, u97, u98, u99, u100, u101, u102, u103, u104, u105, u106, u107, u108, u109, u110, u111, u112, u113, u114, u115, u116, u117, u118, u119, u120, u121, u122, u123, u124, u125, u126, u127, u128, u129, u130, u131, u132, u133, u134, u135, u136, u137, u138, u139, u140, u141, u142, u143, u144, u145, u146, u147, u148, u149, u150, u151, u152, u153, u154, u155, u156, u157, u158, u159, u160, u161, u162, u163, u164, u165, u166, u167, u168, u169, u170, u171, u172, u173, u174, u175, u176, u177, u178, u179, u180, u181, u182, u183, u184, u185, u186, u187, u188, u189, u190, u191, u192, u193, u194, u195, u196, u197, u198, u199, u200, u201, u202, u203, u204, u205, u206, u207, u208, u209, u210, u211, u212, u213, u214, u215, u216, ⟨q + 1, V.set q (shaNext p (shaW p q) q), by omega, by go_num, by rw [HRS.out]; exact e13, by rw [HRS.out]; exact e14, by rw [HRS.out]; exact e15, by rw [HRS.out]; exact e16, by rw [HRS.out]; exact e17, by rw [HRS.out]; exact e18, by rw [HRS.out]; exact e19, by rw [HRS.out]; exact e20, by rw [List.length_set, HVL.out], take_set_next p V q (by rw [HVL.out]; omega) HVT.out, hvd, HKQ.out.trans hkd⟩, rfl⟩, ?_⟩
              simp [intOf]; omega
          ·
              have hwx := shaW_getD p q (q + 1) (by omega)
              refine roundB _ _ _ _ _ _ _ _ _ _ _ _ _ _ _ _ _ _ _ _ _ _ _ _ _ _ _ _ _ _ _ _ _ _ _ _ _ _ _ _ _ _ _ _ _ _ _ _ _ _ _ _ _ _ _ _ _ _ _ _ _ _ _ _ _ _ _ _ _ _ _ _ _ _ _ _ _ _ _ _ _ _ _ _ _ _ _ _ _ _ _ _ _ _ _ _ _ _ _ _ _ _ _ _ _ _ _ _ _ _ _ _ _ _ _ _ _ _ _ _ _ _ _ _ _ _ _ _ _ _ _ _ _ _ _ _ _ _ _ _ _ _ _ _ _ _ _ _ _ _ _ _ _ _ _ _ _ _ _ _ _ _ _ _ _ _ _ _ _ _ _ _ _ _ _ _ _ _ _ _ _ _ _ _ _ _ _ _ _ _ _ _ _ _ _ _ _ _ _ _ _ _ _ _ _ _ _ _ _ _ _ _ _ _ _ _ _ _ _ _ _ _ _ _ _ _ _ _ _ _ _ _ _ _ _ _ _ _ _ _ _ _ _ _ _ _ _ _ _ _ _ _ _ _ _ _ _ _ _ _ _ _ _ _ _ _ _ _ _ _ _ _ q pb poff lp c1 bw p V S wr _ _ hq16 hq64 hl64 hlb HPB.out (fun j hj => HKQ.out.cell_of (HPG.out j hj) (fun e => HPB.out (by simpa using e))) (fun wx hwx => HKC.out wx (HKQ.out.trans hwx)) HV.out HVL.out HVT.out (fun u13 u14 u15 u16 u17 u18 u19 u20 u21 u22 u23 u24 u25 u26 u27 u28 u81 u82 u83 u84 u85 u86 u87 u88 u89 u90 u91 u92 u93 u94 u95 u96 u97 u98 u99 u100 u101 u102 u103 u104 u105 u106 u107 u108 u109 u110 u111 u112 u113 u114 u115 u116 u117 u118 u119 u120 u121 u122 u123 u124 u125 u126 u127 u128 u129 u130 u131 u132 u133 u134 u135 u136 u137 u138 u139 u140 u141 u142 u143 u144 u145 u146 u147 u148 u149 u150 u151 u152 u153 u154 u155 u156 u157 u158 u159 u160 u161 u162 u163 u164 u165 u166 u167 u168 u169 u170 u171 u172 u173 u174 u175 u176 u177 u178 u179 u180 u181 u182 u183 u184 u185 u186 u187 u188 u189 u190 u191 u192 u193 u194 u195 u196 u197 u198 u199 u200 u201 u202 u203 u204 u205 u206 u207 u208 u209 u210 u211 u212 u213 u214 u215 u216 wd e13 e14 e15 e16 e17 e18 e19 e20 hvd hkd => ?_)
              rw [hwx] at HRS
              refine ⟨⟨u13, u14, u15, u16, u17, u18, u19, u20, u21, u22, u23, u24, u25, u26, u27, u28, _, u81, u82, u83, u84, u85, u86, u87, u88, u89, u90, u91, u92, u93, u94, u95, u96, u97, u98, u99, u100, u101, u102, u103, u104, u105, u106, u107, u108, u109, u110, u111, u112, u113, u114, u115, u116, u117, u118, u119, u120, u121, u122, u123, u124, u125, u126, u127, u128, u129, u130, u131, u132, u133, u134, u135, u136, u137, u138, u139, u140, u141, u142, u143, u144, u145, u146, u147, u148, u149, u150, u151, u152, u153, u154, u155, u156, u157, u158, u159, u160, u161, u162, u163, u164, u165, u166, u167, u168, u169, u170, u171, u172, u173, u174, u175, u176, u177, u178, u179, u180, u181, u182, u183, u184, u185, u186, u187, u188, u189, u190, u191, u192, u193, u194, u195, u196, u197, u198, u199, u200, u201, u202, u203, u204, u205, u206, u207, u208, u209, u210, u211, u212, u213, u214, u215, u216, ⟨q + 1, V.set q (shaNext p (shaW p q) q), by omega, by go_num, by rw [HRS.out]; exact e13, by rw [HRS.out]; exact e14, by rw [HRS.out]; exact e15, by rw [HRS.out]; exact e16, by rw [HRS.out]; exact e17, by rw [HRS.out]; exact e18, by rw [HRS.out]; exact e19, by rw [HRS.out]; exact e20, by rw [List.length_set, HVL.out], take_set_next p V q (by rw [HVL.out]; omega) HVT.out, hvd, HKQ.out.trans hkd⟩, rfl⟩, ?_⟩
              simp [intOf]; omega
        · obtain rfl : q = 64 := by omega
          try rw [show ((64 : Nat) : Int) = (64 : Int) from rfl]
          have hpp := HP.out
          rw [← HLL.out] at hpp
          obtain ⟨A2, c2, hsl, hby⟩ := slc_from (P := Tryd.prog) Tryd.underlying22 sz1 hpp 64 (by have := HLL.out; omega)
          have HBY := Lib.hid (hby _ hpp)
          clear hby hpp
          replace hsl : ∀ w', (Instr.slice 22 (.slice (some ⟨pb, poff, none⟩) lp c1) (some (.int .i64 64)) none none).run Tryd.prog w' = .ok (.slice A2 (lp - 64) c2) w' := hsl
          obtain ⟨S, hS⟩ : ∃ S, S = shaRs p R 64 := ⟨_, rfl⟩
          rw [← hS]
          have HS := Lib.hid hS
          clear hS
          go_wp2
          go_roundw
          case rel =>
            refine ⟨n + 1, R.add S, V, HLT.out, ?_, ?_, ?_, ?_, ?_, ?_, ?_, ?_, ?_, ?_, HVL.out, HV.out, HKQ.out⟩
            · have h9 := HBY.out
              rw [List.drop_drop] at h9
              have e9 : (List.drop (64 * n + 64) L).length = lp - 64 := by have := HLL.out; simp only [List.length_drop] at this ⊢; omega
              exact h9
            · rw [HS.out, HCH.out, HR.out]; rfl
            all_goals exact congrArg (Value.int .u32) (by simp only [St.add, BitVec.toNat_add]; omega)
          case measure => simp [lenV]; omega
    · obtain rfl : n = m := by omega
      have g64 : (lp : Int) < 64 := by omega
      have hdw := (D.out.kp HKA.out (fun x => x)).kp HKP.out (fun e => by have := D.out.lt; have := HBW.out; omega)
      have DW := Lib.hid hdw
      obtain ⟨z0, z1, z2, z3, z4, z5, z6, z7⟩ : wr.cell? ⟨b, 0, none⟩ = some (u32v s.a) ∧ wr.cell? ⟨b, 1, none⟩ = some (u32v s.b) ∧ wr.cell? ⟨b, 2, none⟩ = some (u32v s.c) ∧ wr.cell? ⟨b, 3, none⟩ = some (u32v s.d) ∧ wr.cell? ⟨b, 4, none⟩ = some (u32v s.e) ∧ wr.cell? ⟨b, 5, none⟩ = some (u32v s.f) ∧ wr.cell? ⟨b, 6, none⟩ = some (u32v s.g) ∧ wr.cell? ⟨b, 7, none⟩ = some (u32v s.h) :=
        ⟨hdw.word 0 (by decide), hdw.word 1 (by decide), hdw.word 2 (by decide), hdw.word 3 (by decide), hdw.word 4 (by decide), hdw.word 5 (by decide), hdw.word 6 (by decide), hdw.word 7 (by decide)⟩
      have hf : ∀ k, wr.frozen? ⟨b, k, none⟩ = false := hdw.frozen
      clear hdw
      go_wp2
      go_region
      have hkp : Kp (fun i => i = b) w wr := (HKA.out.mono (T := fun i => i = b) (fun _ _ x => x.elim)).trans' HKP.out (fun i hi e => by have := HBW.out; omega)
      have e := (((((((DW.out.setWord 0 (by decide) R.a).setWord 1 (by decide) R.b).setWord 2 (by decide) R.c).setWord 3 (by decide) R.d).setWord 4 (by decide) R.e).setWord 5 (by decide) R.f).setWord 6 (by decide) R.g).setWord 7 (by decide) R.h
      rw [show (((((((s.list.set 0 R.a).set 1 R.b).set 2 R.c).set 3 R.d).set 4 R.e).set 5 R.f).set 6 R.g).set 7 R.h = R.list from rfl] at e
      have HE := Lib.hid e.drew
      clear e z0 z1 z2 z3 z4 z5 z6 z7 hf
      go_end0
      refine ⟨rfl, ?_, (((((((((hkp.setCell (p := ⟨b, 0, none⟩) (fun _ => rfl) _).setCell (p := ⟨b, 1, none⟩) (fun _ => rfl) _).setCell (p := ⟨b, 2, none⟩) (fun _ => rfl) _).setCell (p := ⟨b, 3, none⟩) (fun _ => rfl) _).setCell (p := ⟨b, 4, none⟩) (fun _ => rfl) _).setCell (p := ⟨b, 5, none⟩) (fun _ => rfl) _).setCell (p := ⟨b, 6, none⟩) (fun _ => rfl) _).setCell (p := ⟨b, 7, none⟩) (fun _ => rfl) _).drew)⟩
      rw [← HM.out, ← HR.out]
      exact HE.out
end Go.Proofs.YtfodkjpjejoemaaDoor
