
/-
  blockGeneric's rounds: one round each, the word taken from the block or reckoned from the words before.
  Conditions: the frame is the function's own; the table's word and the schedule's words are known.
-/
import Derived.Test.YtfodkjpjejoemaaGreatDoorZc
import Derived.StillTailTactics
import Derived.Deep.RegionHeld3
import Derived.Deep.DrawnRows
import Derived.Test.YtfodkjpjejoemaaGreatDoorZa
import Derived.RegionTactic
import Derived.ChangeAlike
import Derived.BigRegion
import Derived.Deep.DeepCutAuto
namespace Go.Proofs.YtfodkjpjejoemaaGreatDoor
open Go Go.RowKit
attribute [local go_sem ↓] Go.wp_at_zero Go.wp_at_succ

set_option maxRecDepth 1000000 in
set_option maxHeartbeats 40000000 in
theorem roundB (x0 x2 x3 x5 x6 x7 x8 x9 x10 x11 x12 x21 x22 x23 x24 x25 x26 x27 x28 x29 x30 x31 x32 x33 x34 x35 x36 x37 x38 x39 x40 x41 x42 x43 x44 x45 x46 x47 x48 x49 x50 x51 x52 x53 x54 x55 x56 x57 x58 x59 x60 x61 x62 x63 x64 x65 x66 x67 x68 x69 x70 x71 x72 x73 x74 x75 x76 x77 x78 x79 x81 x82 x83 x84 x85 x86 x87 x88 x89 x90 x91 x92 x93 x94 x95 x96 x97 x98 x99 x100 x101 x102 x103 x104 x105 x106 x107 x108 x109 x110 x111 x112 x113 x114 x115 x116 x117 x118 x119 x120 x121 x122 x123 x124 x125 x126 x127 x128 x129 x130 x131 x132 x133 x134 x135 x136 x137 x138 x139 x140 x141 x142 x143 x144 x145 x146 x147 x148 x149 x150 x151 x152 x153 x154 x155 x156 x157 x158 x159 x160 x161 x162 x163 x164 x165 x166 x167 x168 x169 x170 x171 x172 x173 x174 x175 x176 x177 x178 x179 x180 x181 x182 x183 x184 x185 x186 x187 x188 x189 x190 x191 x192 x193 x194 x195 x196 x197 x198 x199 x200 x201 x202 x203 x204 x205 x206 x207 x208 x209 x210 x211 x212 x213 x214 x215 x216 x217 x218 x219 x220 x221 x222 x223 x224 x225 x226 x227 x228 x229 x230 x231 x232 x233 x234 x235 x236 x237 x238 x239 x240 x241 x242 x243 x244 x245 x246 x247 x248 x249 x250 x251 x252 x253 x254 x255 x256 x257 x258 x259 x260 x261 x262 x263 x264 x265 x266 x267 x268 x269 x270 x271 x272 x273 x274 x275 x276 x277 x278 x279 x280 x281 x282 : Value) (q pb poff lp c1 bw : Nat) (p : List UInt8) (V : List W32) (S : St) (wr : World) (K : Act → World → Prop) (Q0 : Exit → Act → World → Prop)
    (hq16 : ¬ q < 16) (hq64 : q < 64) (_ : 64 ≤ lp) (_ : lp ≤ 4294967296) (hpb : pb ≠ bw)
    (hP : ∀ j, j < 64 → wr.cell? ⟨pb, poff + j, none⟩ = some (u8v (p.getD j 0)))
    (hKt : ∀ wx, Kp (fun i => i = bw) wr wx → wx.cell? ⟨5, q, none⟩ = some (u32v (shaK.getD q 0)))
    (hV : Arr wr bw 68 V) (hVl : V.length = 64) (hVt : V.take q = shaW p q)
    (hK : ∀ (u13 u14 u15 u16 u17 u18 u19 u20 u21 u22 u23 u24 u25 u26 u27 u28 u81 u82 u83 u84 u85 u86 u87 u88 u89 u90 u91 u92 u93 u94 u95 u96 u97 u98 u99 u100 u101 u102 u103 u104 u105 u106 u107 u108 u109 u110 u111 u112 u113 u114 u115 u116 u117 u118 u119 u120 u121 u122 u123 u124 u125 u126 u127 u128 u129 u130 u131 u132 u133 u134 u135 u136 u137 u138 u139 u140 u141 u142 u143 u144 u145 u146 u147 u148 u149 u150 u151 u152 u153 u154 u155 u156 u157 u158 u159 u160 u161 u162 u163 u164 u165 u166 u167 u168 u169 u170 u171 u172 u173 u174 u175 u176 u177 u178 u179 u180 u181 u182 u183 u184 u185 u186 u187 u188 u189 u190 u191 u192 u193 u194 u195 u196 u197 u198 u199 u200 u201 u202 u203 u204 u205 u206 u207 u208 u209 u210 u211 u212 u213 u214 u215 u216 : Value) (wd : World), u13 = u32v (shaRnd (shaK.getD q 0) (shaNext p (shaW p q) q) S).a → u14 = u32v (shaRnd (shaK.getD q 0) (shaNext p (shaW p q) q) S).b → u15 = u32v (shaRnd (shaK.getD q 0) (shaNext p (shaW p q) q) S).c → u16 = u32v (shaRnd (shaK.getD q 0) (shaNext p (shaW p q) q) S).d → u17 = u32v (shaRnd (shaK.getD q 0) (shaNext p (shaW p q) q) S).e → u18 = u32v (shaRnd (shaK.getD q 0) (shaNext p (shaW p q) q) S).f → u19 = u32v (shaRnd (shaK.getD q 0) (shaNext p (shaW p q) q) S).g → u20 = u32v (shaRnd (shaK.getD q 0) (shaNext p (shaW p q) q) S).h → Arr wd bw 68 (V.set q (shaNext p (shaW p q) q)) → Kp (fun i => i = bw) wr wd →
      K ⟨#[x0, .slice (some ⟨pb, poff, none⟩) lp c1, x2, x3, .pointer (some ⟨bw, 0, none⟩), x5, x6, x7, x8, x9, x10, x11, x12, u13, u14, u15, u16, u17, u18, u19, u20, u21, u22, u23, u24, u25, u26, u27, u28, x29, x30, x31, x32, x33, x34, x35, x36, x37, x38, x39, x40, x41, x42, x43, x44, x45, x46, x47, x48, x49, x50, x51, x52, x53, x54, x55, x56, x57, x58, x59, x60, x61, x62, x63, x64, x65, x66, x67, x68, x69, x70, x71, x72, x73, x74, x75, x76, x77, x78, x79, .int .i64 ((q : Int) + 1), u81, u82, u83, u84, u85, u86, u87, u88, u89, u90, u91, u92, u93, u94, u95, u96, u97, u98, u99, u100, u101, u102, u103, u104, u105, u106, u107, u108, u109, u110, u111, u112, u113, u114, u115, u116, u117, u118, u119, u120, u121, u122, u123, u124, u125, u126, u127, u128, u129, u130, u131, u132, u133, u134, u135, u136, u137, u138, u139, u140, u141, u142, u143, u144, u145, u146, u147, u148, u149, u150, u151, u152, u153, u154, u155, u156, u157, u158, u159, u160, u161, u162, u163, u164, u165, u166, u167, u168, u169, u170, u171, u172, u173, u174, u175, u176, u177, u178, u179, u180, u181, u182, u183, u184, u185, u186, u187, u188, u189, u190, u191, u192, u193, u194, u195, u196, u197, u198, u199, u200, u201, u202, u203, u204, u205, u206, u207, u208, u209, u210, u211, u212, u213, u214, u215, u216, x217, x218, x219, x220, x221, x222, x223, x224, x225, x226, x227, x228, x229, x230, x231, x232, x233, x234, x235, x236, x237, x238, x239, x240, x241, x242, x243, x244, x245, x246, x247, x248, x249, x250, x251, x252, x253, x254, x255, x256, x257, x258, x259, x260, x261, x262, x263, x264, x265, x266, x267, x268, x269, x270, x271, x272, x273, x274, x275, x276, x277, x278, x279, x280, x281, x282], []⟩ wd) :
    Code.wp Tryz.prog innerBody (Exit.then K Q0) ⟨#[x0, .slice (some ⟨pb, poff, none⟩) lp c1, x2, x3, .pointer (some ⟨bw, 0, none⟩), x5, x6, x7, x8, x9, x10, x11, x12, u32v S.a, u32v S.b, u32v S.c, u32v S.d, u32v S.e, u32v S.f, u32v S.g, u32v S.h, x21, x22, x23, x24, x25, x26, x27, x28, x29, x30, x31, x32, x33, x34, x35, x36, x37, x38, x39, x40, x41, x42, x43, x44, x45, x46, x47, x48, x49, x50, x51, x52, x53, x54, x55, x56, x57, x58, x59, x60, x61, x62, x63, x64, x65, x66, x67, x68, x69, x70, x71, x72, x73, x74, x75, x76, x77, x78, x79, .int .i64 (q : Int), x81, x82, x83, x84, x85, x86, x87, x88, x89, x90, x91, x92, x93, x94, x95, x96, x97, x98, x99, x100, x101, x102, x103, x104, x105, x106, x107, x108, x109, x110, x111, x112, x113, x114, x115, x116, x117, x118, x119, x120, x121, x122, x123, x124, x125, x126, x127, x128, x129, x130, x131, x132, x133, x134, x135, x136, x137, x138, x139, x140, x141, x142, x143, x144, x145, x146, x147, x148, x149, x150, x151, x152, x153, x154, x155, x156, x157, x158, x159, x160, x161, x162, x163, x164, x165, x166, x167, x168, x169, x170, x171, x172, x173, x174, x175, x176, x177, x178, x179, x180, x181, x182, x183, x184, x185, x186, x187, x188, x189, x190, x191, x192, x193, x194, x195, x196, x197, x198, x199, x200, x201, x202, x203, x204, x205, x206, x207, x208, x209, x210, x211, x212, x213, x214, x215, x216, x217, x218, x219, x220, x221, x222, x223, x224, x225, x226, x227, x228, x229, x230, x231, x232, x233, x234, x235, x236, x237, x238, x239, x240, x241, x242, x243, x244, x245, x246, x247, x248, x249, x250, x251, x252, x253, x254, x255, x256, x257, x258, x259, x260, x261, x262, x263, x264, x265, x266, x267, x268, x269, x270, x271, x272, x273, x274, x275, x276, x277, x278, x279, x280, x281, x282], []⟩ wr := by
  have HPG := Lib.hid hP
  have HPB := Lib.hid hpb
  have HKC := Lib.hid hKt
  have HV := Lib.hid hV
  have HVL := Lib.hid hVl
  have HVT := Lib.hid hVt
  have HKQ : Hid (Kp (fun i => i = bw) wr wr) := Lib.hid (Kp.refl _ _)
  have HHK := Lib.hid hK
  clear hP hpb hKt hV hVl hVt hK
  have HWN := Lib.hid (shaW_getD p q (q + 1) (by omega))
  obtain ⟨yc, y00⟩ : ∃ u, wr.cell? ⟨bw, q, none⟩ = some u := ⟨_, HV.out.cell q (by rw [HVL.out]; omega)⟩
  have y0 := HV.out.frozen q
  have g0 : (q : Int) < 64 := by omega
  have gz : (0 : Int) ≤ (q : Int) := by omega

  have y2 := HV.out.cell (q - 2) (by rw [HVL.out]; omega)
  have y7' := HV.out.cell (q - 7) (by rw [HVL.out]; omega)
  have y15 := HV.out.cell (q - 15) (by rw [HVL.out]; omega)
  have y16 := HV.out.cell (q - 16) (by rw [HVL.out]; omega)
  rw [getD_of_take HVT.out (by omega)] at y2 y7' y15 y16
  have HNX := Lib.hid (show shaNext p (shaW p q) q = (shaW p q).getD (q - 16) 0 + smlS0 ((shaW p q).getD (q - 15) 0) + (shaW p q).getD (q - 7) 0 + smlS1 ((shaW p q).getD (q - 2) 0) by unfold shaNext; rw [if_neg (by omega)])
  generalize (shaW p q).getD (q - 2) 0 = x2 at y2 HNX
  generalize (shaW p q).getD (q - 7) 0 = x7 at y7' HNX
  generalize (shaW p q).getD (q - 15) 0 = x15 at y15 HNX
  generalize (shaW p q).getD (q - 16) 0 = x16 at y16 HNX
  obtain ⟨q2, e2⟩ : ∃ q2, q2 = q - 2 := ⟨_, rfl⟩
  obtain ⟨q7, e7⟩ : ∃ q7, q7 = q - 7 := ⟨_, rfl⟩
  obtain ⟨q15, e15⟩ : ∃ q15, q15 = q - 15 := ⟨_, rfl⟩
  obtain ⟨q16, e16⟩ : ∃ q16, q16 = q - 16 := ⟨_, rfl⟩
  rw [← e2] at y2
  rw [← e7] at y7'
  rw [← e15] at y15
  rw [← e16] at y16
  have f2 : (q : Int) - 2 = (q2 : Int) := by omega
  have f7 : (q : Int) - 7 = (q7 : Int) := by omega
  have f15 : (q : Int) - 15 = (q15 : Int) := by omega
  have f16 : (q : Int) - 16 = (q16 : Int) := by omega
  have g2 : (q2 : Int) < 64 := by omega
  have g7 : (q7 : Int) < 64 := by omega
  have g15 : (q15 : Int) < 64 := by omega
  have g16 : (q16 : Int) < 64 := by omega
  clear e2 e7 e15 e16
  conv => arg 2; whnf
  go_wp2_with (go_at_call 103; refine (rotl_any _ _ _ (by decide) (by decide)).mono ?_; rintro e w' ⟨rfl, rfl⟩)
  have k7 : IntKind.i64.wrap ((q : Int) - 7) = (q7 : Int) := by rw [f7, IntKind.wrap_i64]; omega
  have k7' : IntKind.i64.wrap (q7 : Int) = (q7 : Int) := by rw [IntKind.wrap_i64]; omega
  have k16' : IntKind.i64.wrap (q16 : Int) = (q16 : Int) := by rw [IntKind.wrap_i64]; omega
  have k16 : IntKind.i64.wrap ((q : Int) - 16) = (q16 : Int) := by rw [f16, IntKind.wrap_i64]; omega
  rw [w_shr10, w_shr3, w_xor, w_xor, w_xor, w_xor]
  obtain ⟨m14, h14⟩ : ∃ m, m = smlS0 x15 := ⟨_, rfl⟩
  obtain ⟨m15, h15⟩ : ∃ m, m = smlS1 x2 := ⟨_, rfl⟩
  rw [show rotr x15 7 ^^^ rotr x15 18 ^^^ x15 >>> 3 = m14 from h14.symm, show rotr x2 17 ^^^ rotr x2 19 ^^^ x2 >>> 10 = m15 from h15.symm]
  have HNX2 : Hid (shaNext p (shaW p q) q = m15 + x7 + m14 + x16) := Lib.hid (by rw [HNX.out, h14, h15]; ac_rfl)
  clear h14 h15 HNX
  go_still_tail 15, (by kernel_rfl)
  change wpList _ _ _ _ _ wr.drew
  rw [w_add, w_add, w_add]
  obtain ⟨xw, hxw⟩ : ∃ x, x = m15 + x7 + m14 + x16 := ⟨_, rfl⟩
  rw [← hxw] at HNX2 ⊢
  clear hxw
  go_wp2
  generalize hwd : World.drew _ = wd
  have HVD : Hid (Arr wd bw 68 (V.set q ((shaW p (q + 1)).getD q 0))) := Lib.hid (by rw [← hwd, HWN.out, HNX2.out]; exact HV.out.set q _)
  have HKD : Hid (Kp (fun i => i = bw) wr wd) := Lib.hid (by rw [← hwd]; exact (HKQ.out.setCell (p := ⟨bw, q, none⟩) (fun _ => rfl) _).drew)
  obtain ⟨ww, hww⟩ : ∃ x, x = (shaW p (q + 1)).getD q 0 := ⟨_, rfl⟩
  rw [← hww] at HWN HVD
  have HVL2 := Lib.hid (show (V.set q ww).length = 64 by rw [List.length_set, HVL.out])
  have y7 := HVD.out.cell q (by rw [HVL2.out]; omega)
  rw [getD_set_same _ (by rw [HVL.out]; omega)] at y7
  have y8 := HKC.out wd HKD.out
  obtain ⟨kk, hkk⟩ : ∃ x, x = shaK.getD q 0 := ⟨_, rfl⟩
  rw [← hkk] at y8
  have HKK := Lib.hid hkk
  clear hkk
  clear hww
  obtain ⟨m18, h18⟩ : ∃ m, m = bigS1 S.e := ⟨_, rfl⟩
  obtain ⟨m19, h19⟩ : ∃ m, m = shaCh S.e S.f S.g := ⟨_, rfl⟩
  obtain ⟨m20, h20⟩ : ∃ m, m = shaT1 kk ww S := ⟨_, rfl⟩
  obtain ⟨m21, h21⟩ : ∃ m, m = bigS0 S.a := ⟨_, rfl⟩
  obtain ⟨m22, h22⟩ : ∃ m, m = shaMaj S.a S.b S.c := ⟨_, rfl⟩
  have H18 : Hid (rotr S.e 6 ^^^ rotr S.e 11 ^^^ rotr S.e 25 = m18) := Lib.hid h18.symm
  have H19 : Hid (S.e &&& S.f ^^^ ~~~S.e &&& S.g = m19) := Lib.hid h19.symm
  have H20 : Hid (S.h + m18 + m19 + kk + ww = m20) := Lib.hid (by rw [h18, h19, h20]; rfl)
  have H21 : Hid (rotr S.a 2 ^^^ rotr S.a 13 ^^^ rotr S.a 22 = m21) := Lib.hid h21.symm
  have H22 : Hid (S.a &&& S.b ^^^ S.a &&& S.c ^^^ S.b &&& S.c = m22) := Lib.hid h22.symm
  have HRL : Hid (shaRnd kk ww S = ⟨m20 + (m21 + m22), S.a, S.b, S.c, S.d + m20, S.e, S.f, S.g⟩) := Lib.hid (by rw [h20, h21, h22]; rfl)
  clear h18 h19 h20 h21 h22 hwd y0 y00
  go_quiet ((go_at_call 103; exact rotl_quiet _ _ _ _ (by decide) (by decide)))
  rw [w_xor, w_xor, H18.out, w_and, w_not, w_and, w_xor, H19.out, w_add5F, H20.out]
  go_wp2_with (go_at_call 103; refine (rotl_any _ _ _ (by decide) (by decide)).mono ?_; rintro e w' ⟨rfl, rfl⟩)
  rw [w_xor, w_xor, H21.out, w_and, w_and, w_and, w_xor, w_xor, H22.out]
  have HEQ : Hid (shaRnd (shaK.getD q 0) (shaNext p (shaW p q) q) S = ⟨m20 + (m21 + m22), S.a, S.b, S.c, S.d + m20, S.e, S.f, S.g⟩) := Lib.hid (by rw [← HKK.out, ← HWN.out]; exact HRL.out)
  rw [HWN.out] at HVD
  refine HHK.out _ _ _ _ _ _ _ _ _ _ _ _ _ _ _ _ _ _ _ _ _ _ _ _ _ _ _ _ _ _ _ _ _ _ _ _ _ _ _ _ _ _ _ _ _ _ _ _ _ _ _ _ _ _ _ _ _ _ _ _ _ _ _ _ _ _ _ _ _ _ _ _ _ _ _ _ _ _ _ _ _ _ _ _ _ _ _ _ _ _ _ _ _ _ _ _ _ _ _ _ _ _ _ _ _ _ _ _ _ _ _ _ _ _ _ _ _ _ _ _ _ _ _ _ _ _ _ _ _ _ _ _ _ _ _ _ _ _ _ _ _ _ _ _ _ _ _ _ _ _ _ _ _ ?_ ?_ ?_ ?_ ?_ ?_ ?_ ?_ HVD.out (HKD.out.drewN _)
  all_goals rw [HEQ.out]
  · exact congrArg (Value.int .u32) (by simp only [BitVec.toNat_add]; omega)
  · exact congrArg (Value.int .u32) (by simp only [BitVec.toNat_add]; omega)
end Go.Proofs.YtfodkjpjejoemaaGreatDoor

/-
  The digest's blocks: blockGeneric is SHA-256's compression, block by block.
  Conditions: the digest is known whole; the table _K holds the rounds' words; the bytes read as they stand.
-/
namespace Go.Proofs.YtfodkjpjejoemaaGreatDoor
open Go Go.RowKit
attribute [local go_sem ↓] Go.wp_at_zero Go.wp_at_succ

def KTab (w : World) : Prop := ∀ i, i < 64 → w.cell? ⟨5, i, none⟩ = some (u32v (shaK.getD i 0))

set_option maxRecDepth 100000 in
set_option maxHeartbeats 40000000 in
theorem blockGeneric_any (s : St) (x : List UInt8) (nx len b : Nat) (v : Value) (L : List UInt8) (w : World) (d : DgL w b s.list x nx len) (hv : Byts w v L) (hK : KTab w) (hL : L.length ≤ 4294967296) :
    Calls Tryz.prog 98 #[.pointer (some ⟨b, 0, none⟩), v] w fun e w' => e = .returned (.tuple #[]) ∧ DgL w' b (shaRun s L (L.length / 64)).list x nx len ∧ Kp (fun i => i = b) w w' := by
  have D := Lib.hid d
  have HV := Lib.hid hv
  have HK := Lib.hid hK
  obtain ⟨A, c, rfl, h1, h2, h3, h4⟩ := hv
  clear h4 hK
  unfold maxLen at h2
  have z0 : w.cell? ⟨b, 0, none⟩ = some (u32v s.a) := d.word 0 (by decide)
  have z1 : w.cell? ⟨b, 1, none⟩ = some (u32v s.b) := d.word 1 (by decide)
  have z2 : w.cell? ⟨b, 2, none⟩ = some (u32v s.c) := d.word 2 (by decide)
  have z3 : w.cell? ⟨b, 3, none⟩ = some (u32v s.d) := d.word 3 (by decide)
  have z4 : w.cell? ⟨b, 4, none⟩ = some (u32v s.e) := d.word 4 (by decide)
  have z5 : w.cell? ⟨b, 5, none⟩ = some (u32v s.f) := d.word 5 (by decide)
  have z6 : w.cell? ⟨b, 6, none⟩ = some (u32v s.g) := d.word 6 (by decide)
  have z7 : w.cell? ⟨b, 7, none⟩ = some (u32v s.h) := d.word 7 (by decide)
  clear d
  go_enter Tryz.func98, Tryz.ntmps98
  go_wp2
  have hk1 : ∀ o, Keep w (w.alloc o) := fun o => (Kp.refl _ _).alloc o
  have hA : Arr (w.alloc (Obj.cells #[Value.int .u32 0, Value.int .u32 0, Value.int .u32 0, Value.int .u32 0, Value.int .u32 0, Value.int .u32 0, Value.int .u32 0, Value.int .u32 0, Value.int .u32 0, Value.int .u32 0, Value.int .u32 0, Value.int .u32 0, Value.int .u32 0, Value.int .u32 0, Value.int .u32 0, Value.int .u32 0, Value.int .u32 0, Value.int .u32 0, Value.int .u32 0, Value.int .u32 0, Value.int .u32 0, Value.int .u32 0, Value.int .u32 0, Value.int .u32 0, Value.int .u32 0, Value.int .u32 0, Value.int .u32 0, Value.int .u32 0, Value.int .u32 0, Value.int .u32 0, Value.int .u32 0, Value.int .u32 0, Value.int .u32 0, Value.int .u32 0, Value.int .u32 0, Value.int .u32 0, Value.int .u32 0, Value.int .u32 0, Value.int .u32 0, Value.int .u32 0, Value.int .u32 0, Value.int .u32 0, Value.int .u32 0, Value.int .u32 0, Value.int .u32 0, Value.int .u32 0, Value.int .u32 0, Value.int .u32 0, Value.int .u32 0, Value.int .u32 0, Value.int .u32 0, Value.int .u32 0, Value.int .u32 0, Value.int .u32 0, Value.int .u32 0, Value.int .u32 0, Value.int .u32 0, Value.int .u32 0, Value.int .u32 0, Value.int .u32 0, Value.int .u32 0, Value.int .u32 0, Value.int .u32 0, Value.int .u32 0] 68)) w.heap.size 68 (List.replicate 64 0) := heap_alloc_new _ _
  generalize hwa : w.alloc _ = wa at hA ⊢
  have HKA : Hid (Keep w wa) := Lib.hid (by rw [← hwa]; exact hk1 _)
  clear hwa hk1
  have HA := Lib.hid hA
  clear hA
  replace z0 := HKA.out.cell_of z0 (fun x => x)
  replace z1 := HKA.out.cell_of z1 (fun x => x)
  replace z2 := HKA.out.cell_of z2 (fun x => x)
  replace z3 := HKA.out.cell_of z3 (fun x => x)
  replace z4 := HKA.out.cell_of z4 (fun x => x)
  replace z5 := HKA.out.cell_of z5 (fun x => x)
  replace z6 := HKA.out.cell_of z6 (fun x => x)
  replace z7 := HKA.out.cell_of z7 (fun x => x)
  obtain ⟨bw, hbw⟩ : ∃ b, b = w.heap.size := ⟨_, rfl⟩
  rw [← hbw] at HA ⊢
  have HBW := Lib.hid hbw
  clear hbw
  go_quiet (fail)
  go_wp2
  obtain ⟨m, hm⟩ : ∃ m, m = L.length / 64 := ⟨_, rfl⟩
  have HM := Lib.hid hm
  clear hm z0 z1 z2 z3 z4 z5 z6 z7
  go_loopw [1, 5, 6, 7, 8, 9, 10, 11, 12] (fun p a0 a1 a2 a3 a4 a5 a6 a7 wr => ∃ n : Nat, ∃ R : St, ∃ W : List W32, n ≤ m ∧ Byts w p (L.drop (64 * n)) ∧ R = shaRun s L n ∧ a0 = u32v R.a ∧ a1 = u32v R.b ∧ a2 = u32v R.c ∧ a3 = u32v R.d ∧ a4 = u32v R.e ∧ a5 = u32v R.f ∧ a6 = u32v R.g ∧ a7 = u32v R.h ∧
    W.length = 64 ∧ Arr wr bw 68 W ∧ Kp (fun i => i = bw) wa wr) (fun p _ _ _ _ _ _ _ _ _ => lenV p)
  case atStart => exact ⟨0, s, List.replicate 64 0, Nat.zero_le _, by simpa using HV.out, rfl, rfl, rfl, rfl, rfl, rfl, rfl, rfl, rfl, by simp, HA.out, (Kp.refl _ _).drewN _⟩
  case round =>
    obtain ⟨n, R, W, hn, hp, hR, rfl, rfl, rfl, rfl, rfl, rfl, rfl, rfl, hW, hw, hkp⟩ := hrel
    have HP := Lib.hid hp
    have HR := Lib.hid hR
    have HW := Lib.hid hw
    have HKP := Lib.hid hkp
    have HWL := Lib.hid hW
    obtain ⟨A1, c1, rfl, f1, f2, f3, f4⟩ := hp
    unfold maxLen at f2
    have F3 := Lib.hid f3
    have F4 := Lib.hid f4
    clear hR hW hw hkp f3 f4 h1 h2 h3 HA
    have hlp : (L.drop (64 * n)).length = L.length - 64 * n := List.length_drop
    have HLP := Lib.hid hlp
    obtain ⟨lp, hlp2⟩ : ∃ lp, lp = (L.drop (64 * n)).length := ⟨_, rfl⟩
    rw [← hlp2] at f1 ⊢
    rw [← hlp2] at hlp
    have HLL := Lib.hid hlp2
    have hlb : lp ≤ 4294967296 := by omega
    clear hlp2
    have hmm := HM.out
    by_cases hlt : n < m
    · have g64 : (64 : Int) ≤ (lp : Int) := by omega
      have hl64 : 64 ≤ lp := by omega
      clear hlp hmm
      obtain ⟨pb, poff, rfl, hc⟩ := F4.out (by have := HLP.out; have := HLL.out; omega)
      have hpb : pb < w.heap.size := by
        obtain ⟨u, hu, _⟩ := hc 0 (by have := HLP.out; have := HLL.out; omega)
        exact World.block_lt_of_cell? w _ hu
      have HPB : Hid (pb ≠ bw) := Lib.hid (by have := HBW.out; omega)
      obtain ⟨p, hp⟩ : ∃ p, p = shaChunk L n := ⟨_, rfl⟩
      have HPG : Hid (∀ j, j < 64 → wa.cell? ⟨pb, poff + j, none⟩ = some (u8v (p.getD j 0))) := Lib.hid (fun j hj => by
        obtain ⟨u, hu, hr⟩ := hc j (by have := HLP.out; have := HLL.out; omega)
        rw [HKA.out.cell_of hu (fun x => x), hr, hp, shaChunk_getD _ _ _ hj]
        simp [List.getD, show 64 * n + j < L.length by have := HLP.out; have := HLL.out; omega])
      have HCH := Lib.hid hp
      have HLT := Lib.hid hlt
      clear hp hc hpb hlt
      go_wp2
      go_loopw [80, 13, 14, 15, 16, 17, 18, 19, 20] (fun i a0 a1 a2 a3 a4 a5 a6 a7 wx => ∃ q : Nat, ∃ W : List W32, q ≤ 64 ∧ i = .int .i64 q ∧ a0 = u32v (shaRs p R q).a ∧ a1 = u32v (shaRs p R q).b ∧ a2 = u32v (shaRs p R q).c ∧ a3 = u32v (shaRs p R q).d ∧ a4 = u32v (shaRs p R q).e ∧ a5 = u32v (shaRs p R q).f ∧ a6 = u32v (shaRs p R q).g ∧ a7 = u32v (shaRs p R q).h ∧
        W.length = 64 ∧ W.take q = shaW p q ∧ Arr wx bw 68 W ∧ Kp (fun i => i = bw) wa wx) (fun i _ _ _ _ _ _ _ _ _ => 64 - (intOf i).toNat)
      case atStart => exact ⟨0, W, by omega, rfl, rfl, rfl, rfl, rfl, rfl, rfl, rfl, rfl, HWL.out, rfl, HW.out, HKP.out⟩
      case round =>
        obtain ⟨q, V, hq, rfl, rfl, rfl, rfl, rfl, rfl, rfl, rfl, rfl, hVl, hVt, hv, hkq⟩ := hrel
        have HV := Lib.hid hv
        have HKQ := Lib.hid hkq
        have HVT := Lib.hid hVt
        have HVL := Lib.hid hVl
        clear hVl hVt hv hkq HW HWL HKP
        by_cases hq64 : q < 64
        · have HRS := Lib.hid (show shaRs p R (q + 1) = shaRnd (shaK.getD q 0) ((shaW p (q + 1)).getD q 0) (shaRs p R q) from rfl)
          generalize shaRs p R q = S at HRS ⊢
          have HKC : Hid (∀ wx, Kp (fun i => i = bw) wa wx → wx.cell? ⟨5, q, none⟩ = some (u32v (shaK.getD q 0))) := Lib.hid (fun wx hwx => hwx.cell_of (HKA.out.cell_of (HK.out q hq64) (fun x => x)) (fun e => by have h7 := World.block_lt_of_cell? w _ (HK.out q hq64); have h8 := HBW.out; rw [← h8] at h7; simp at e h7; omega))
          by_cases hq16 : q < 16
          ·
              have hwx := shaW_getD p q (q + 1) (by omega)
              refine roundA _ _ _ _ _ _ _ _ _ _ _ _ _ _ _ _ _ _ _ _ _ _ _ _ _ _ _ _ _ _ _ _ _ _ _ _ _ _ _ _ _ _ _ _ _ _ _ _ _ _ _ _ _ _ _ _ _ _ _ _ _ _ _ _ _ _ _ _ _ _ _ _ _ _ _ _ _ _ _ _ _ _ _ _ _ _ _ _ _ _ _ _ _ _ _ _ _ _ _ _ _ _ _ _ _ _ _ _ _ _ _ _ _ _ _ _ _ _ _ _ _ _ _ _ _ _ _ _ _ _ _ _ _ _ _ _ _ _ _ _ _ _ _ _ _ _ _ _ _ _ _ _ _ _ _ _ _ _ _ _ _ _ _ _ _ _ _ _ _ _ _ _ _ _ _ _ _ _ _ _ _ _ _ _ _ _ _ _ _ _ _ _ _ _ _ _ _ _ _ _ _ _ _ _ _ _ _ _ _ _ _ _ _ _ _ _ _ _ _ _ _ _ _ _ _ _ _ _ _ _ _ _ _ _ _ _ _ _ _ _ _ _ _ _ _ _ _ _ _ _ _ _ _ _ _ _ _ _ _ _ _ _ _ _ _ _ _ _ _ _ _ _ q pb poff lp c1 bw p V S wr _ _ hq16 hl64 hlb HPB.out (fun j hj => HKQ.out.cell_of (HPG.out j hj) (fun e => HPB.out (by simpa using e))) (fun wx hwx => HKC.out wx (HKQ.out.trans hwx)) HV.out HVL.out HVT.out (fun u13 u14 u15 u16 u17 u18 u19 u20 u21 u22 u23 u24 u25 u26 u27 u28 u81 u82 u83 u84 u85 u86 u87 u88 u89 u90 u91 u92 u93 u94 u95 u96 u97 u98 u99 u100 u101 u102 u103 u104 u105 u106 u107 u108 u109 u110 u111 u112 u113 u114 u115 u116 u117 u118 u119 u120 u121 u122 u123 u124 u125 u126 u127 u128 u129 u130 u131 u132 u133 u134 u135 u136 u137 u138 u139 u140 u141 u142 u143 u144 u145 u146 u147 u148 u149 u150 u151 u152 u153 u154 u155 u156 u157 u158 u159 u160 u161 u162 u163 u164 u165 u166 u167 u168 u169 u170 u171 u172 u173 u174 u175 u176 u177 u178 u179 u180 u181 u182 u183 u184 u185 u186 u187 u188 u189 u190 u191 u192 u193 u194 u195 u196 u197 u198 u199 u200 u201 u202 u203 u204 u205 u206 u207 u208 u209 u210 u211 u212 u213 u214 u215 u216 wd e13 e14 e15 e16 e17 e18 e19 e20 hvd hkd => ?_)
              rw [hwx] at HRS
              refine ⟨⟨u13, u14, u15, u16, u17, u18, u19, u20, u21, u22, u23, u24, u25, u26, u27, u28, _, u81, u82, u83, u84, u85, u86, u87, u88, u89, u90, u91, u92, u93, u94, u95, u96, u97, u98, u99, u100, u101, u102, u103, u104, u105, u106, u107, u108, u109, u110, u111, u112, u113, u114, u115, u116, u117, u118, u119, u120, u121, u122, u123, u124, u125, u126, u127, u128, u129, u130, u131, u132, u133, u134, u135, u136, u137, u138, u139, u140, u141, u142, u143, u144, u145, u146, u147, u148, u149, u150, u151, u152, u153, u154, u155, u156, u157, u158, u159, u160, u161, u162, u163, u164, u165, u166, u167, u168, u169, u170, u171, u172, u173, u174, u175, u176, u177, u178, u179, u180, u181, u182, u183, u184, u185, u186, u187, u188, u189, u190, u191, u192, u193, u194, u195, u196, u197, u198, u199, u200, u201, u202, u203, u204, u205, u206, u207, u208, u209, u210, u211, u212, u213, u214, u215, u216, ⟨q + 1, V.set q (shaNext p (shaW p q) q), by omega, by go_num, by rw [HRS.out]; exact e13, by rw [HRS.out]; exact e14, by rw [HRS.out]; exact e15, by rw [HRS.out]; exact e16, by rw [HRS.out]; exact e17, by rw [HRS.out]; exact e18, by rw [HRS.out]; exact e19, by rw [HRS.out]; exact e20, by rw [List.length_set, HVL.out], take_set_next p V q (by rw [HVL.out]; omega) HVT.out, hvd, HKQ.out.trans hkd⟩, rfl⟩, ?_⟩
              simp [intOf]; omega
          ·
              have hwx := shaW_getD p q (q + 1) (by omega)
              refine roundB _ _ _ _ _ _ _ _ _ _ _ _ _ _ _ _ _ _ _ _ _ _ _ _ _ _ _ _ _ _ _ _ _ _ _ _ _ _ _ _ _ _ _ _ _ _ _ _ _ _ _ _ _ _ _ _ _ _ _ _ _ _ _ _ _ _ _ _ _ _ _ _ _ _ _ _ _ _ _ _ _ _ _ _ _ _ _ _ _ _ _ _ _ _ _ _ _ _ _ _ _ _ _ _ _ _ _ _ _ _ _ _ _ _ _ _ _ _ _ _ _ _ _ _ _ _ _ _ _ _ _ _ _ _ _ _ _ _ _ _ _ _ _ _ _ _ _ _ _ _ _ _ _ _ _ _ _ _ _ _ _ _ _ _ _ _ _ _ _ _ _ _ _ _ _ _ _ _ _ _ _ _ _ _ _ _ _ _ _ _ _ _ _ _ _ _ _ _ _ _ _ _ _ _ _ _ _ _ _ _ _ _ _ _ _ _ _ _ _ _ _ _ _ _ _ _ _ _ _ _ _ _ _ _ _ _ _ _ _ _ _ _ _ _ _ _ _ _ _ _ _ _ _ _ _ _ _ _ _ _ _ _ _ _ _ _ _ _ _ _ _ _ q pb poff lp c1 bw p V S wr _ _ hq16 hq64 hl64 hlb HPB.out (fun j hj => HKQ.out.cell_of (HPG.out j hj) (fun e => HPB.out (by simpa using e))) (fun wx hwx => HKC.out wx (HKQ.out.trans hwx)) HV.out HVL.out HVT.out (fun u13 u14 u15 u16 u17 u18 u19 u20 u21 u22 u23 u24 u25 u26 u27 u28 u81 u82 u83 u84 u85 u86 u87 u88 u89 u90 u91 u92 u93 u94 u95 u96 u97 u98 u99 u100 u101 u102 u103 u104 u105 u106 u107 u108 u109 u110 u111 u112 u113 u114 u115 u116 u117 u118 u119 u120 u121 u122 u123 u124 u125 u126 u127 u128 u129 u130 u131 u132 u133 u134 u135 u136 u137 u138 u139 u140 u141 u142 u143 u144 u145 u146 u147 u148 u149 u150 u151 u152 u153 u154 u155 u156 u157 u158 u159 u160 u161 u162 u163 u164 u165 u166 u167 u168 u169 u170 u171 u172 u173 u174 u175 u176 u177 u178 u179 u180 u181 u182 u183 u184 u185 u186 u187 u188 u189 u190 u191 u192 u193 u194 u195 u196 u197 u198 u199 u200 u201 u202 u203 u204 u205 u206 u207 u208 u209 u210 u211 u212 u213 u214 u215 u216 wd e13 e14 e15 e16 e17 e18 e19 e20 hvd hkd => ?_)
              rw [hwx] at HRS
              refine ⟨⟨u13, u14, u15, u16, u17, u18, u19, u20, u21, u22, u23, u24, u25, u26, u27, u28, _, u81, u82, u83, u84, u85, u86, u87, u88, u89, u90, u91, u92, u93, u94, u95, u96, u97, u98, u99, u100, u101, u102, u103, u104, u105, u106, u107, u108, u109, u110, u111, u112, u113, u114, u115, u116, u117, u118, u119, u120, u121, u122, u123, u124, u125, u126, u127, u128, u129, u130, u131, u132, u133, u134, u135, u136, u137, u138, u139, u140, u141, u142, u143, u144, u145, u146, u147, u148, u149, u150, u151, u152, u153, u154, u155, u156, u157, u158, u159, u160, u161, u162, u163, u164, u165, u166, u167, u168, u169, u170, u171, u172, u173, u174, u175, u176, u177, u178, u179, u180, u181, u182, u183, u184, u185, u186, u187, u188, u189, u190, u191, u192, u193, u194, u195, u196, u197, u198, u199, u200, u201, u202, u203, u204, u205, u206, u207, u208, u209, u210, u211, u212, u213, u214, u215, u216, ⟨q + 1, V.set q (shaNext p (shaW p q) q), by omega, by go_num, by rw [HRS.out]; exact e13, by rw [HRS.out]; exact e14, by rw [HRS.out]; exact e15, by rw [HRS.out]; exact e16, by rw [HRS.out]; exact e17, by rw [HRS.out]; exact e18, by rw [HRS.out]; exact e19, by rw [HRS.out]; exact e20, by rw [List.length_set, HVL.out], take_set_next p V q (by rw [HVL.out]; omega) HVT.out, hvd, HKQ.out.trans hkd⟩, rfl⟩, ?_⟩
              simp [intOf]; omega
        · obtain rfl : q = 64 := by omega
          try rw [show ((64 : Nat) : Int) = (64 : Int) from rfl]
          have hpp := HP.out
          rw [← HLL.out] at hpp
          obtain ⟨A2, c2, hsl, hby⟩ := slc_from (P := Tryz.prog) Tryz.underlying24 sz1 hpp 64 (by have := HLL.out; omega)
          have HBY := Lib.hid (hby _ hpp)
          clear hby hpp
          replace hsl : ∀ w', (Instr.slice 24 (.slice (some ⟨pb, poff, none⟩) lp c1) (some (.int .i64 64)) none none).run Tryz.prog w' = .ok (.slice A2 (lp - 64) c2) w' := hsl
          obtain ⟨S, hS⟩ : ∃ S, S = shaRs p R 64 := ⟨_, rfl⟩
          rw [← hS]
          have HS := Lib.hid hS
          clear hS
          go_wp2
          go_roundw
          case rel =>
            refine ⟨n + 1, R.add S, V, HLT.out, ?_, ?_, ?_, ?_, ?_, ?_, ?_, ?_, ?_, ?_, HVL.out, HV.out, HKQ.out⟩
            · have h9 := HBY.out
              rw [List.drop_drop] at h9
              have e9 : (List.drop (64 * n + 64) L).length = lp - 64 := by have := HLL.out; simp only [List.length_drop] at this ⊢; omega
              exact h9
            · rw [HS.out, HCH.out, HR.out]; rfl
            all_goals exact congrArg (Value.int .u32) (by simp only [St.add, BitVec.toNat_add]; omega)
          case measure => simp [lenV]; omega
    · obtain rfl : n = m := by omega
      have g64 : (lp : Int) < 64 := by omega
      have hdw := (D.out.kp HKA.out (fun x => x)).kp HKP.out (fun e => by have := D.out.lt; have := HBW.out; omega)
      have DW := Lib.hid hdw
      obtain ⟨z0, z1, z2, z3, z4, z5, z6, z7⟩ : wr.cell? ⟨b, 0, none⟩ = some (u32v s.a) ∧ wr.cell? ⟨b, 1, none⟩ = some (u32v s.b) ∧ wr.cell? ⟨b, 2, none⟩ = some (u32v s.c) ∧ wr.cell? ⟨b, 3, none⟩ = some (u32v s.d) ∧ wr.cell? ⟨b, 4, none⟩ = some (u32v s.e) ∧ wr.cell? ⟨b, 5, none⟩ = some (u32v s.f) ∧ wr.cell? ⟨b, 6, none⟩ = some (u32v s.g) ∧ wr.cell? ⟨b, 7, none⟩ = some (u32v s.h) :=
        ⟨hdw.word 0 (by decide), hdw.word 1 (by decide), hdw.word 2 (by decide), hdw.word 3 (by decide), hdw.word 4 (by decide), hdw.word 5 (by decide), hdw.word 6 (by decide), hdw.word 7 (by decide)⟩
      have hf : ∀ k, wr.frozen? ⟨b, k, none⟩ = false := hdw.frozen
      clear hdw
      go_wp2
      go_region
      have hkp : Kp (fun i => i = b) w wr := (HKA.out.mono (T := fun i => i = b) (fun _ _ x => x.elim)).trans' HKP.out (fun i hi e => by have := HBW.out; omega)
      have e := (((((((DW.out.setWord 0 (by decide) R.a).setWord 1 (by decide) R.b).setWord 2 (by decide) R.c).setWord 3 (by decide) R.d).setWord 4 (by decide) R.e).setWord 5 (by decide) R.f).setWord 6 (by decide) R.g).setWord 7 (by decide) R.h
      rw [show (((((((s.list.set 0 R.a).set 1 R.b).set 2 R.c).set 3 R.d).set 4 R.e).set 5 R.f).set 6 R.g).set 7 R.h = R.list from rfl] at e
      have HE := Lib.hid e.drew
      clear e z0 z1 z2 z3 z4 z5 z6 z7 hf
      go_end0
      refine ⟨rfl, ?_, (((((((((hkp.setCell (p := ⟨b, 0, none⟩) (fun _ => rfl) _).setCell (p := ⟨b, 1, none⟩) (fun _ => rfl) _).setCell (p := ⟨b, 2, none⟩) (fun _ => rfl) _).setCell (p := ⟨b, 3, none⟩) (fun _ => rfl) _).setCell (p := ⟨b, 4, none⟩) (fun _ => rfl) _).setCell (p := ⟨b, 5, none⟩) (fun _ => rfl) _).setCell (p := ⟨b, 6, none⟩) (fun _ => rfl) _).setCell (p := ⟨b, 7, none⟩) (fun _ => rfl) _).drew)⟩
      rw [← HM.out, ← HR.out]
      exact HE.out
end Go.Proofs.YtfodkjpjejoemaaGreatDoor

/-
  The digest that has taken bytes: Write.
  Conditions: the digest's block is known whole; the table _K holds the rounds' words; all bytes together are at most 2^32.
-/
namespace Go.Proofs.YtfodkjpjejoemaaGreatDoor
open Go Go.RowKit
attribute [local go_sem ↓] Go.wp_at_zero Go.wp_at_succ

theorem u8v_one' (bs : List UInt8) : ∀ u ∈ bs.map u8v, u.oneCell' = true := by
  intro u hu; obtain ⟨x, _, rfl⟩ := List.mem_map.1 hu; rfl
theorem byts_src' {w : World} {A : Option Addr} {n c : Nat} {bs : List UInt8} (h : Byts w (.slice A n c) bs) : Src w A n (bs.map u8v) := Src.of_slc u8v (fun _ _ h => h) h

theorem spl_dgL (h : List W32) (x P : List UInt8) (nx len k m : Nat) (hh : h.length = 8) (hx : x.length = 64) (hk : k + m ≤ 64) :
    spl (dgL h x nx len) (8 + k) (P.map u8v) m = dgL h (x.take k ++ (P.take m ++ x.drop (k + m))) nx len := by
  unfold spl dgL
  have e1 : (h.map u32v).length = 8 := by simpa using hh
  rw [List.take_append, List.drop_append, e1, List.take_of_length_le (show (h.map u32v).length ≤ 8 + k by omega), List.drop_eq_nil_of_le (show (h.map u32v).length ≤ 8 + k + m by omega),
    show 8 + k - 8 = k by omega, show 8 + k + m - 8 = k + m by omega, List.take_append_of_le_length (by simp; omega), List.drop_append_of_le_length (by simp; omega)]
  simp [List.map_take, List.map_drop]
theorem DgL.copied {w w' : World} {b : Nat} {h : List W32} {x : List UInt8} {nx len : Nat} (d : DgL w b h x nx len) (P : List UInt8) (k m : Nat) (hk : k + m ≤ 64) (hm : m ≤ P.length)
    (hb : w'.heap[b]? = some (.cells (spl (dgL h x nx len) (8 + k) (P.map u8v) m).toArray 147 (0, 0))) : DgL w' b h (x.take k ++ (P.take m ++ x.drop (k + m))) nx len := by
  refine ⟨?_, d.hlen, ?_⟩
  · rw [hb, spl_dgL h x P nx len k m d.hlen d.xlen hk]
  · have := d.xlen; simp; omega
theorem DgL.setNxI {w : World} {b : Nat} {h : List W32} {x : List UInt8} {nx len : Nat} (d : DgL w b h x nx len) (z : Int) (n : Nat) (hz : z = n) : DgL (w.setCell ⟨b, 72, none⟩ (.int .i64 z)) b h x n len := by
  subst hz; exact d.setNx n
theorem DgL.setLenI {w : World} {b : Nat} {h : List W32} {x : List UInt8} {nx len : Nat} (d : DgL w b h x nx len) (z : Int) (n : Nat) (hz : z = n) : DgL (w.setCell ⟨b, 73, none⟩ (.int .u64 z)) b h x nx n := by
  subst hz; exact d.setLen n

theorem block_any (s : St) (x : List UInt8) (nx len b : Nat) (v : Value) (L : List UInt8) (w : World) (d : DgL w b s.list x nx len) (hv : Byts w v L) (hK : KTab w) (hL : L.length ≤ 4294967296) :
    Calls Tryz.prog 91 #[.pointer (some ⟨b, 0, none⟩), v] w fun e w' => e = .returned (.tuple #[]) ∧ DgL w' b (shaRun s L (L.length / 64)).list x nx len ∧ Kp (fun i => i = b) w w' := by
  have HB := Lib.hid (blockGeneric_any s x nx len b v L w d hv hK hL)
  clear d hv hK
  go_enter Tryz.func91, Tryz.ntmps91
  go_wp2_with (go_at_call 98; refine HB.out.mono ?_; rintro e w1 ⟨rfl, hd, hk⟩)
  go_end0
  exact ⟨rfl, hd, hk⟩

theorem shaChunk_self (L : List UInt8) (h : L.length = 64) : shaChunk L 0 = L := by unfold shaChunk; simp [List.take_of_length_le, h]
theorem shaRun_part (s : St) (T : List UInt8) (j m : Nat) (h : 64 * (j + m) ≤ T.length) : shaRun (shaRun s T j) ((T.drop (64 * j)).take (64 * m)) m = shaRun s T (j + m) := by
  rw [shaRun_drop]
  have e : T.drop (64 * j) = (T.drop (64 * j)).take (64 * m) ++ (T.drop (64 * j)).drop (64 * m) := (List.take_append_drop _ _).symm
  have hlen : ((T.drop (64 * j)).take (64 * m)).length = 64 * m := by rw [List.length_take, List.length_drop]; omega
  conv => rhs; rw [e]
  rw [shaRun_append _ ((T.drop (64 * j)).take (64 * m)) _ m (by omega)]
theorem shaChunk_length_full (T : List UInt8) (q : Nat) (h : 64 * (q + 1) ≤ T.length) : (shaChunk T q).length = 64 := by
  unfold shaChunk
  rw [List.length_take, List.length_drop]; omega
theorem take_fill (bs p x : List UInt8) (k q : Nat) (hk : bs.length = 64 * q + k) (hk64 : k < 64) (hx : x.take k = bs.drop (64 * q)) (_ : 64 ≤ k + p.length) : x.take k ++ p.take (64 - k) = shaChunk (bs ++ p) q := by
  unfold shaChunk
  have hd : (bs.drop (64 * q)).length = k := by rw [List.length_drop]; omega
  rw [hx, List.drop_append_of_le_length (by omega)]
  conv => rhs; rw [List.take_append, List.take_of_length_le (show (bs.drop (64 * q)).length ≤ 64 by omega), hd]
theorem shaRun_fill (bs p x : List UInt8) (k q : Nat) (hk : bs.length = 64 * q + k) (hk64 : k < 64) (hx : x.take k = bs.drop (64 * q)) (hp : 64 ≤ k + p.length) :
    shaRun (shaRun shaIV bs q) (x.take k ++ p.take (64 - k)) 1 = shaRun shaIV (bs ++ p) (q + 1) := by
  rw [take_fill bs p x k q hk hk64 hx hp, shaRun, shaRun, shaRun, shaRun_append _ _ _ _ (by omega), shaChunk_self]
  unfold shaChunk
  rw [List.length_take, List.length_drop, List.length_append]; omega

theorem xslice_from (b o k : Nat) (hk : k < 64) (w : World) : (Instr.sliceAt 145 (.pointer (some ⟨b, o, none⟩)) (some (.int .i64 (k : Int))) none none).run Tryz.prog w = .ok (.slice (some ⟨b, o + k, none⟩) (64 - k) (64 - k)) w := by
  have hl : Tryz.prog.arrayLen 145 = 64 := by kernel_rfl
  have he : Tryz.prog.elem 145 = 5 := by kernel_rfl
  rw [run_sliceAt_array_l (P := Tryz.prog) w 145 _ (by rw [hl, he]; exact Tryz.underlying145) .i64 _ (by omega) (by rw [hl]; omega), hl, he, sz1]
  simp only [Result.andThen, slicedAt, Int.toNat_natCast, Nat.mul_one]
  rw [if_neg (by omega)]
  unfold Addr.add
  split <;> simp_all
theorem xslice_all (b o : Nat) (w : World) : (Instr.sliceAt 145 (.pointer (some ⟨b, o, none⟩)) none none none).run Tryz.prog w = .ok (.slice (some ⟨b, o, none⟩) 64 64) w := by
  have hl : Tryz.prog.arrayLen 145 = 64 := by kernel_rfl
  have he : Tryz.prog.elem 145 = 5 := by kernel_rfl
  rw [run_sliceAt_array_all (P := Tryz.prog) w 145 _ (by rw [hl, he]; exact Tryz.underlying145), hl, he, sz1]
  simp [Result.andThen, slicedAt, Addr.add]

theorem and_not_63 (n : Nat) (h : n < 9223372036854775808) : bits .andNot .i64 (n : Int) 63 = ((64 * (n / 64) : Nat) : Int) := by
  have e1 : (BitVec.ofInt 64 (n : Int) &&& ~~~(BitVec.ofInt 64 (63 : Int))).toNat = 64 * (n / 64) := by
    rw [BitVec.toNat_and, BitVec.toNat_not, BitVec.ofInt_natCast, BitVec.toNat_ofNat, Nat.mod_eq_of_lt (by omega)]
    rw [show (BitVec.ofInt 64 (63 : Int)).toNat = 63 from rfl]
    apply Nat.eq_of_testBit_eq
    intro i
    rw [Nat.testBit_and, show 2 ^ 64 - 1 - 63 = 2 ^ 64 - (63 + 1) from rfl, Nat.testBit_two_pow_sub_succ (by decide), show (63 : Nat) = 2 ^ 6 - 1 from rfl, Nat.testBit_two_pow_sub_one,
      show 64 * (n / (2 ^ 6 - 1 + 1)) = 2 ^ 6 * (n / 2 ^ 6) from rfl, Nat.testBit_two_pow_mul, Nat.testBit_div_two_pow]
    by_cases h6 : 6 ≤ i
    · by_cases h64 : i < 64
      · simp [h6, h64, show ¬ i < 6 by omega]
      · have : n.testBit i = false := Nat.testBit_lt_two_pow (Nat.lt_of_lt_of_le h (show 9223372036854775808 ≤ 2 ^ i from Nat.le_trans (show 9223372036854775808 ≤ 2 ^ 63 by decide) (Nat.pow_le_pow_right (by omega) (by omega))))
        simp [h6, h64, this]
    · simp [h6, show i < 6 by omega]
  show IntKind.i64.wrap ((BitVec.ofInt 64 (n : Int) &&& ~~~(BitVec.ofInt 64 (63 : Int))).toNat : Int) = _
  rw [e1, IntKind.wrap_i64]
  omega

theorem KTab.keep {w w' : World} {S : Nat → Prop} (h : KTab w) (k : Kp S w w') (hS : ¬ S 5) : KTab w' := fun i hi => k.cell_of (h i hi) hS
theorem KTab.ne {w : World} {b : Nat} {h : List W32} {x : List UInt8} {nx len : Nat} (k : KTab w) (d : DgL w b h x nx len) : 5 ≠ b := by
  rintro rfl
  have h1 := k 63 (by decide)
  have h2 := d.byte 55 (by decide)
  rw [h1] at h2
  simp at h2

theorem DgL.bytes {w : World} {b : Nat} {h : List W32} {x : List UInt8} {nx len : Nat} (d : DgL w b h x nx len) : Byts w (.slice (some ⟨b, 8, none⟩) 64 64) x := by
  have hx := d.xlen
  refine ⟨some ⟨b, 8, none⟩, 64, by rw [hx], by omega, by simp [maxLen], (fun e => by cases e), fun _ => ⟨b, 8, rfl, fun i hi => ⟨_, d.byte i (by omega), ?_⟩⟩⟩
  unfold U8; simp [List.getD, hi]
/-- the digest in block b has taken the bytes bs -/
def Dg (w : World) (b : Nat) (bs : List UInt8) : Prop :=
  ∃ x, DgL w b (shaRun shaIV bs (bs.length / 64)).list x (bs.length % 64) bs.length ∧ x.take (bs.length % 64) = bs.drop (64 * (bs.length / 64))
theorem Dg.lt {w : World} {b : Nat} {bs : List UInt8} (h : Dg w b bs) : b < w.heap.size := by obtain ⟨x, d, _⟩ := h; exact d.lt
theorem Dg.kp {S : Nat → Prop} {w w' : World} {b : Nat} {bs : List UInt8} (h : Dg w b bs) (k : Kp S w w') (hS : ¬ S b) : Dg w' b bs := by obtain ⟨x, d, e⟩ := h; exact ⟨x, d.kp k hS, e⟩
theorem Dg.ktab {w : World} {b : Nat} {bs : List UInt8} (h : Dg w b bs) (k : KTab w) : 5 ≠ b := by obtain ⟨x, d, e⟩ := h; exact k.ne d

/-- bytes that stay as they are whatever is written into block b -/
def Bys (w : World) (b : Nat) (v : Value) (L : List UInt8) : Prop := ∀ wx, Kp (fun i => i = b) w wx → Byts wx v L
theorem Bys.at_ {w : World} {b : Nat} {v : Value} {L : List UInt8} (h : Bys w b v L) : Byts w v L := h w (Kp.refl _ _)
theorem bys_from {w : World} {b : Nat} {A : Option Addr} {n c : Nat} {L : List UInt8} (h : Bys w b (.slice A n c) L) (k : Nat) (hk : k ≤ L.length) :
    ∃ A' c', (∀ (w' : World), (Instr.slice 24 (.slice A n c) (some (.int .i64 (k : Int))) none none).run Tryz.prog w' = .ok (.slice A' (n - k) c') w') ∧ Bys w b (.slice A' (n - k) c') (L.drop k) := by
  obtain ⟨A', c', h1, h2⟩ := slc_from (P := Tryz.prog) Tryz.underlying24 sz1 h.at_ k hk
  exact ⟨A', c', h1, fun wx kx => h2 wx (h wx kx)⟩
theorem bys_to {w : World} {b : Nat} {A : Option Addr} {n c : Nat} {L : List UInt8} (h : Bys w b (.slice A n c) L) (k : Nat) (hk : k ≤ L.length) :
    ∃ A' c', (∀ (w' : World), (Instr.slice 24 (.slice A n c) none (some (.int .i64 (k : Int))) none).run Tryz.prog w' = .ok (.slice A' k c') w') ∧ Bys w b (.slice A' k c') (L.take k) := by
  obtain ⟨A', c', h1, h2⟩ := slc_to (P := Tryz.prog) Tryz.underlying24 sz1 h.at_ k hk
  exact ⟨A', c', h1, fun wx kx => h2 wx (h wx kx)⟩

/-- where Write's ways meet: so many blocks are reckoned, so many bytes are left -/
def WrCut (w : World) (b : Nat) (T : List UInt8) (lim : Nat) (v : Value) (wc : World) : Prop :=
  ∃ (x : List UInt8) (nx j : Nat) (rest : List UInt8), DgL wc b (shaRun shaIV T j).list x nx T.length ∧ Bys w b v rest ∧ Kp (fun i => i = b) w wc ∧ rest.length ≤ lim ∧
    ((nx = 0 ∧ rest = T.drop (64 * j) ∧ 64 * j ≤ T.length) ∨ (rest = [] ∧ j = T.length / 64 ∧ nx = T.length % 64 ∧ x.take nx = T.drop (64 * j)))

set_option maxRecDepth 100000 in
set_option maxHeartbeats 8000000 in
theorem write_any (bs p : List UInt8) (b : Nat) (v : Value) (w : World) (d : Dg w b bs) (hvb : Bys w b v p) (hK : KTab w) (hl : bs.length + p.length ≤ 4294967296) :
    Calls Tryz.prog 84 #[.pointer (some ⟨b, 0, none⟩), v] w fun e w' => e = .returned (.tuple #[.int .i64 p.length, .nilIface]) ∧ Dg w' b (bs ++ p) ∧ Kp (fun i => i = b) w w' := by
  obtain ⟨x, d, hx⟩ := d
  have hKb := hK.ne d
  have HKB := Lib.hid hKb
  have HX := Lib.hid hx
  have hv := hvb.at_
  have HV := Lib.hid hvb
  have HKT := Lib.hid hK
  obtain ⟨k, hk⟩ : ∃ k, k = bs.length % 64 := ⟨_, rfl⟩
  obtain ⟨q, hq⟩ : ∃ q, q = bs.length / 64 := ⟨_, rfl⟩
  obtain ⟨len, hlen⟩ : ∃ n, n = bs.length := ⟨_, rfl⟩
  obtain ⟨n, hn⟩ : ∃ n, n = p.length := ⟨_, rfl⟩
  obtain ⟨T, hT⟩ : ∃ T, T = bs ++ p := ⟨_, rfl⟩
  have hTl : T.length = len + n := by rw [hT, List.length_append, ← hlen, ← hn]
  rw [← hk, ← hq] at d hx
  have D := Lib.hid d
  obtain ⟨A, c, rfl, h1, h2, h3, h4⟩ := hv
  have HQ := Lib.hid (show bs.length = 64 * q + k by omega)
  have HN := Lib.hid hn
  have HL := Lib.hid hlen
  have HT := Lib.hid hT
  have HTL := Lib.hid hTl
  have hk64 : k < 64 := by omega
  have hn32 : n ≤ 4294967296 := by omega
  have hl32 : len ≤ 4294967296 := by omega
  have hs32 : len + n ≤ 4294967296 := by omega
  rw [← hn] at h1 HV ⊢
  unfold maxLen at h2
  rw [← hlen] at d
  obtain ⟨c72, c73, c74⟩ := d.tail
  have hf := d.frozen
  clear hk hq hlen hn hT hTl h4 hx hK hKb d hl c74 hvb
  go_enter Tryz.func84, Tryz.ntmps84
  go_upto_if 23 with fail
  generalize hw1 : World.setCell _ _ _ = w1
  have HK1 : Hid (Kp (fun i => i = b) w w1) := Lib.hid (by rw [← hw1]; exact (Kp.refl (fun i => i = b) w).setCell (p := ⟨b, 73, none⟩) (fun _ => rfl) _)
  have HD1 : Hid (DgL w1 b (shaRun shaIV bs q).list x k T.length) := Lib.hid (by rw [← hw1]; exact D.out.setLenI _ _ (by rw [HTL.out]; omega))
  have d1 := HD1.out
  have HBD := Lib.hid d1.body
  obtain ⟨e72, e73, e74⟩ := d1.tail
  have hf1 := d1.frozen
  have HV1 : Hid (Byts w1.drew (.slice A n c) p) := Lib.hid (HV.out _ HK1.out.drew)
  clear hw1 hf c72 c73 D d1 e73 e74
  go_cut [1] (fun v' wc => WrCut w b T (len + n) v' wc)
  case first =>
    by_cases hk0 : k = 0
    · have HQ2 := Lib.hid hk0
      have hk0' : ¬ 0 < k := by omega
      go_wp2_with fail
      go_meet
      refine ⟨x, 0, q, p, ?_, HV.out, HK1.out, by have := HN.out; omega, .inl ⟨rfl, ?_, ?_⟩⟩
      · have := HD1.out
        have e : shaRun shaIV T q = shaRun shaIV bs q := by rw [HT.out]; exact shaRun_append _ _ _ _ (by have := HQ.out; omega)
        rw [e]; rwa [HQ2.out] at this
      · rw [HT.out, List.drop_append_of_le_length (by have := HQ.out; omega), List.drop_eq_nil_of_le (by have := HQ.out; have := HQ2.out; omega), List.nil_append]
      · have := HQ.out; have := HTL.out; have := HL.out; omega
    · have hk0' : 0 < k := by omega
      have hsx := xslice_from b 8 k hk64
      have i1 : (0 : Int) ≤ (k : Int) := by omega
      by_cases hsm : k + n < 64
      · have hmin : min n (64 - k) = n := by omega
        have HMIN := Lib.hid hmin
        obtain ⟨A2, c2, hsl, hby⟩ := bys_from HV.out n (by have := HN.out; omega)
        have HBY := Lib.hid hby
        have hq6 : ((k : Int) + (n : Int) == 64) = false := by rw [beq_eq_false_iff_ne]; omega
        clear hby hmin
        go_wp2_with fail
        go_still_tail 9, (by kernel_rfl)
        change wpList _ _ _ _ _ w1.drew
        refine wpList_cpy rfl (.tmp 31) (.tmp 32) 24 24 rfl Tryz.underlying24 (by kernel_rfl) rfl rfl (g := b) (off := 8 + k) (cur := dgL (shaRun shaIV bs q).list x k T.length) (t := 147) HBD.out (byts_src' HV1.out) (u8v_one' p) (fun _ => rfl) (by have := HD1.out.hlen; have := HD1.out.xlen; simp [dgL]; omega) ?_
        intro w2 hb2 hk2
        rw [HMIN.out] at hb2 ⊢
        have HD2 : Hid (DgL w2 b (shaRun shaIV bs q).list (x.take k ++ (p.take n ++ x.drop (k + n))) k T.length) := Lib.hid (HD1.out.drew.copied p k n (by omega) (by have := HN.out; omega) hb2.out)
        obtain ⟨z72, z73, z74⟩ := HD2.out.tail
        have hf2 := HD2.out.frozen
        clear z73 z74 hb2
        go_wp2
        go_meet
        have e0 : p.drop n = [] := List.drop_eq_nil_of_le (by have := HN.out; omega)
        have hby2 := HBY.out
        rw [Nat.sub_self] at hby2
        have eS : shaRun shaIV bs q = shaRun shaIV T q := by rw [HT.out]; exact (shaRun_append _ _ _ _ (by have := HQ.out; omega)).symm
        have hd9 := HD2.out.setNxI ((k : Int) + (n : Int)) (k + n) (by omega)
        rw [eS] at hd9
        refine ⟨_, k + n, q, p.drop n, hd9, hby2, ((HK1.out.drew.trans hk2.out).setCell (p := ⟨b, 72, none⟩) (fun _ => rfl) _), by rw [e0]; exact Nat.zero_le _, .inr ⟨e0, ?_, ?_, ?_⟩⟩
        · have := HTL.out; have := HQ.out; have := HL.out; omega
        · have := HTL.out; have := HQ.out; have := HL.out; omega
        · have hxk : x.take k = bs.drop (64 * q) := by
            have h1 := HX.out
            have h2 := HQ.out
            rwa [show bs.length % 64 = k by omega, show bs.length / 64 = q by omega] at h1
          have hxl := HD1.out.xlen
          have hnn := HN.out
          rw [HT.out, List.drop_append_of_le_length (by have := HQ.out; omega), ← hxk, ← List.append_assoc, List.take_append_of_le_length (by simp; omega), List.take_of_length_le (by simp; omega), List.take_of_length_le (show p.length ≤ n by omega)]
      · obtain ⟨m, hm⟩ : ∃ m, m = 64 - k := ⟨_, rfl⟩
        have hmin : min n (64 - k) = m := by omega
        have HMIN := Lib.hid hmin
        obtain ⟨A2, c2, hsl, hby⟩ := bys_from HV.out m (by have := HN.out; omega)
        have HBY := Lib.hid hby
        have hq6 : ((k : Int) + (m : Int) == 64) = true := by rw [beq_iff_eq]; omega
        have hxa := xslice_all b 8
        have HM := Lib.hid hm
        have hm64 : m ≤ n := by omega
        have hma : m + k ≤ 64 := by omega
        have hmb : 64 ≤ m + k := by omega
        clear hby hmin hm
        go_wp2_with fail
        go_still_tail 9, (by kernel_rfl)
        change wpList _ _ _ _ _ w1.drew
        refine wpList_cpy rfl (.tmp 31) (.tmp 32) 24 24 rfl Tryz.underlying24 (by kernel_rfl) rfl rfl (g := b) (off := 8 + k) (cur := dgL (shaRun shaIV bs q).list x k T.length) (t := 147) HBD.out (byts_src' HV1.out) (u8v_one' p) (fun _ => rfl) (by have := HD1.out.hlen; have := HD1.out.xlen; simp [dgL]; omega) ?_
        intro w2 hb2 hk2
        rw [HMIN.out] at hb2 ⊢
        have HD2 : Hid (DgL w2 b (shaRun shaIV bs q).list (x.take k ++ (p.take m ++ x.drop (k + m))) k T.length) := Lib.hid (HD1.out.drew.copied p k m (by omega) (by have := HN.out; omega) hb2.out)
        obtain ⟨z72, z73, z74⟩ := HD2.out.tail
        have hf2 := HD2.out.frozen
        clear z73 z74 hb2
        go_wp2_with (go_at_call 91; go_loud (
              refine (block_any (shaRun shaIV bs q) _ 64 T.length b _ _ _ (HD2.out.setNxI _ 64 (by omega)) (HD2.out.setNxI _ 64 (by omega)).bytes (HKT.out.keep ((HK1.out.drew.trans hk2.out).setCell (p := ⟨b, 72, none⟩) (fun _ => rfl) _) (fun e => HKB.out e)) (by have := HD2.out.xlen; omega)).mono ?_
              rintro e w4 ⟨rfl, hd4, hk4⟩
              have HD4 := Lib.hid hd4
              have HK4 := Lib.hid hk4
              obtain ⟨y72, y73, y74⟩ := hd4.tail
              have hf4 := hd4.frozen
              clear y73 y74 hd4 hk4))
        go_meet
        have hxk : x.take k = bs.drop (64 * q) := by
          have h1 := HX.out
          have h2 := HQ.out
          rwa [show bs.length % 64 = k by omega, show bs.length / 64 = q by omega] at h1
        have hxl := HD1.out.xlen
        have hnn := HN.out
        have hmm := HM.out
        have eX : x.take k ++ (p.take m ++ x.drop (k + m)) = x.take k ++ p.take (64 - k) := by
          rw [List.drop_eq_nil_of_le (show x.length ≤ k + m by omega), List.append_nil, hmm]
        refine ⟨shaChunk T q, 0, q + 1, p.drop m, ?_, HBY.out, (((HK1.out.drew.trans hk2.out).setCell (p := ⟨b, 72, none⟩) (fun _ => rfl) _).trans HK4.out).setCell (p := ⟨b, 72, none⟩) (fun _ => rfl) _, by rw [List.length_drop]; omega, .inl ⟨rfl, ?_, ?_⟩⟩
        · have h9 := HD4.out
          rw [eX, take_fill bs p x k q HQ.out hk64 hxk (by omega), shaChunk_length_full _ _ (by have := HQ.out; rw [List.length_append]; omega)] at h9
          have h8 := shaRun_fill bs p x k q HQ.out hk64 hxk (by omega)
          rw [take_fill bs p x k q HQ.out hk64 hxk (by omega)] at h8
          rw [show (64 : Nat) / 64 = 1 from rfl, h8, ← HT.out] at h9
          exact h9.setNxI 0 0 rfl
        · have := HQ.out
          rw [HT.out, List.drop_append, List.drop_eq_nil_of_le (show bs.length ≤ 64 * (q + 1) by omega), List.nil_append]
          congr 1; omega
        · have := HQ.out; have := HTL.out; have := HL.out; omega
  case rest =>
    obtain ⟨x1, nx1, j1, rest, hd, hby, hkp, hrl, hor⟩ := hcut
    have HD := Lib.hid hd
    have HBY := Lib.hid hby
    have HKP := Lib.hid hkp
    have HOR := Lib.hid hor
    obtain ⟨rl, hrl2⟩ : ∃ rl, rl = rest.length := ⟨_, rfl⟩
    have HRL := Lib.hid hrl2
    obtain ⟨Ar, cr, rfl, g1, g2, g3, g4⟩ := hby.at_
    rw [← hrl2] at g1 hrl HBY ⊢
    unfold maxLen at g2
    clear hd hkp hor hrl2 g3 g4 hby
    go_upto_if 61 with fail
    go_cut [1] (fun v' wc => WrCut w b T 63 v' wc)
    case first =>
      by_cases hr64 : rl < 64
      · have hr64' : ¬ 64 ≤ rl := by omega
        go_wp2_with fail
        go_meet
        exact ⟨x1, nx1, j1, rest, HD.out, HBY.out, HKP.out, by have := HRL.out; omega, HOR.out⟩
      · have hr64' : 64 ≤ rl := by omega
        have hr64i : (64 : Int) ≤ (rl : Int) := by omega
        rw [show decide ((64 : Int) ≤ (rl : Int)) = true from decide_eq_true hr64i]
        have hfst : nx1 = 0 ∧ rest = T.drop (64 * j1) ∧ 64 * j1 ≤ T.length := by
          rcases HOR.out with h | h
          · exact h
          · exfalso; have := HRL.out; rw [h.1] at this; simp at this; omega
        obtain ⟨hnx, hre, hj1⟩ := hfst
        have HRE := Lib.hid hre
        have hrn : rl + 64 * j1 = len + n := by
          have h1 := HRL.out
          rw [hre, List.length_drop, HTL.out] at h1
          have := HTL.out
          omega
        have HRN := Lib.hid hrn
        have hd0 := HD.out
        rw [hnx] at hd0
        have HD0 := Lib.hid hd0
        clear HOR HD hd0 hnx hre hj1 hrn
        have ha := and_not_63 rl (by omega)
        obtain ⟨m0, hm0⟩ : ∃ m, m = rl / 64 := ⟨_, rfl⟩
        obtain ⟨c0, hc0⟩ : ∃ c, c = 64 * (rl / 64) := ⟨_, rfl⟩
        rw [← hc0] at ha
        have hcr : c0 ≤ rl := by omega
        have HC0 := Lib.hid hc0
        clear hc0 hm0
        go_wp2_with fail
        go_loopw [7, 1] (fun c7 v wr => ∃ i c' : Nat, c' + 64 * i = c0 ∧ c7 = .int .i64 c' ∧ Bys w b v (T.drop (64 * (j1 + i))) ∧ DgL wr b (shaRun shaIV T (j1 + i)).list x1 0 T.length ∧ Kp (fun i => i = b) w wr) (fun c7 _ _ => (intOf c7).toNat)
        case atStart => exact ⟨0, c0, by omega, rfl, by have := HBY.out; rw [HRE.out] at this; exact this, HD0.out, HKP.out⟩
        case round =>
          obtain ⟨i, c', hci, rfl, hby, hd, hkp⟩ := hrel
          have HCI := Lib.hid hci
          have HBI := Lib.hid hby
          have HDI := Lib.hid hd
          have HKI := Lib.hid hkp
          obtain ⟨A5, c5, rfl, k1, k2, k3, k4⟩ := hby.at_
          obtain ⟨l5, hl5⟩ : ∃ l, l = (T.drop (64 * (j1 + i))).length := ⟨_, rfl⟩
          rw [← hl5] at k1 HBI ⊢
          have hl6 : l5 + 64 * i = rl := by
            have h1 := HRN.out
            have h2 := HTL.out
            have h3 := HC0.out
            rw [List.length_drop] at hl5
            omega
          have HL6 := Lib.hid hl6
          have HL5 := Lib.hid hl5
          have hcl : c' ≤ l5 := by omega
          have hl32 : l5 ≤ 4294967296 := by omega
          unfold maxLen at k2
          clear k3 k4 hby hd hkp hci hl5 hl6 HD0 HKP HBY
          by_cases hbig : 65536 < c'
          · obtain ⟨A6, c6, hs6, hb6⟩ := bys_to HBI.out 65536 (by have := HL5.out; omega)
            obtain ⟨A7, c7, hs7, hb7⟩ := bys_from HBI.out 65536 (by have := HL5.out; omega)
            rw [show ((65536 : Nat) : Int) = 65536 from rfl] at hs6 hs7
            have HB6 := Lib.hid hb6
            have HB7 := Lib.hid hb7
            have hbg : (65536 : Int) < (c' : Int) := by omega
            have h65 : 65536 ≤ l5 := by omega
            clear hb6 hb7
            go_wp2_with (go_at_call 91; go_loud (
              refine (block_any (shaRun shaIV T (j1 + i)) x1 0 T.length b _ _ _ HDI.out (HB6.out _ HKI.out) (HKT.out.keep HKI.out (fun e => HKB.out e)) (by rw [List.length_take]; omega)).mono ?_
              rintro e w4 ⟨rfl, hd4, hk4⟩
              have HD4 := Lib.hid hd4
              have HK4 := Lib.hid hk4
              clear hd4 hk4))
            go_roundw
            case rel =>
              obtain ⟨c'', hc''⟩ : ∃ c, c = c' - 65536 := ⟨_, rfl⟩
              refine ⟨i + 1024, c'', ?_, ?_, ?_, ?_, HKI.out.trans HK4.out⟩
              · have := HCI.out; omega
              · rw [hc'']; exact congrArg (Value.int .i64) (by omega)
              · have h1 := HB7.out
                rw [List.drop_drop, show 64 * (j1 + i) + 65536 = 64 * (j1 + (i + 1024)) by omega] at h1
                exact h1
              · have h1 := HD4.out
                have hlen : (List.take 65536 (List.drop (64 * (j1 + i)) T)).length / 64 = 1024 := by rw [List.length_take, ← HL5.out]; omega
                have h2 := shaRun_part shaIV T (j1 + i) 1024 (by have := HL5.out; rw [List.length_drop] at this; omega)
                rw [show 64 * 1024 = 65536 from rfl] at h2
                rw [hlen, h2, Nat.add_assoc] at h1
                exact h1
            case measure => simp [intOf]; omega
          · have hbg : ¬ (65536 : Int) < (c' : Int) := by omega
            obtain ⟨A6, c6, hs6, hb6⟩ := bys_to HBI.out c' (by have := HL5.out; omega)
            obtain ⟨A7, c7, hs7, hb7⟩ := bys_from HBI.out c' (by have := HL5.out; omega)
            have HB6 := Lib.hid hb6
            have HB7 := Lib.hid hb7
            clear hb6 hb7
            go_wp2_with (go_at_call 91; go_loud (
              refine (block_any (shaRun shaIV T (j1 + i)) x1 0 T.length b _ _ _ HDI.out (HB6.out _ HKI.out) (HKT.out.keep HKI.out (fun e => HKB.out e)) (by rw [List.length_take]; omega)).mono ?_
              rintro e w4 ⟨rfl, hd4, hk4⟩
              have HD4 := Lib.hid hd4
              have HK4 := Lib.hid hk4
              clear hd4 hk4))
            go_meet
            have hci := HCI.out
            have hc0 := HC0.out
            have hl5 := HL5.out
            have hl6 := HL6.out
            have hrn := HRN.out
            have htl := HTL.out
            rw [List.length_drop] at hl5
            obtain ⟨m, hm⟩ : ∃ m, c' = 64 * m := ⟨c' / 64, by omega⟩
            refine ⟨x1, 0, j1 + i + m, T.drop (64 * (j1 + i + m)), ?_, ?_, HKI.out.trans HK4.out, by rw [List.length_drop]; omega, .inl ⟨rfl, rfl, by omega⟩⟩
            · have h1 := HD4.out
              have hlen : (List.take c' (List.drop (64 * (j1 + i)) T)).length / 64 = m := by rw [List.length_take, List.length_drop]; omega
              have h2 := shaRun_part shaIV T (j1 + i) m (by omega)
              rw [← hm] at h2
              rw [hlen, h2] at h1
              exact h1
            · have h1 := HB7.out
              rw [List.drop_drop, show 64 * (j1 + i) + c' = 64 * (j1 + i + m) by omega] at h1
              exact h1
    case rest =>
      clear HD HBY HKP HOR HRL
      obtain ⟨x2, nx2, j2, rest2, hd2, hby2, hkp2, hrl3, hor2⟩ := hcut
      have HD2 := Lib.hid hd2
      have HBY2 := Lib.hid hby2
      have HKP2 := Lib.hid hkp2
      have HOR2 := Lib.hid hor2
      obtain ⟨r2, hr2⟩ : ∃ rl, rl = rest2.length := ⟨_, rfl⟩
      have HR2 := Lib.hid hr2
      obtain ⟨A8, c8, rfl, k1, k2, k3, k4⟩ := hby2.at_
      rw [← hr2] at k1 hrl3 HBY2 ⊢
      unfold maxLen at k2
      have HBD2 := Lib.hid hd2.body
      obtain ⟨z72, z73, z74⟩ := hd2.tail
      have hf2 := hd2.frozen
      clear hd2 hkp2 hor2 hr2 k3 k4 hby2 z73 z74
      by_cases hr0 : r2 = 0
      · have hr0' : ¬ 0 < r2 := by omega
        have HR0 := Lib.hid hr0
        go_wp2_with fail
        go_ret2
        refine ⟨rfl, ?_, HKP2.out⟩
        have h0 := HR2.out
        rw [HR0.out] at h0
        rw [← HT.out]
        rcases HOR2.out with ⟨a1, a2, a3⟩ | ⟨a1, a2, a3, a4⟩
        · have a4 : T.length = 64 * j2 := by rw [a2, List.length_drop] at h0; omega
          refine ⟨x2, ?_, ?_⟩
          · rw [show T.length / 64 = j2 by omega, show T.length % 64 = 0 by omega, ← a1]; exact HD2.out
          · rw [show T.length % 64 = 0 by omega, List.drop_eq_nil_of_le (by omega)]; rfl
        · exact ⟨x2, by rw [← a2, ← a3]; exact HD2.out, by rw [← a2, ← a3]; exact a4⟩
      · have hr0' : 0 < r2 := by omega
        have hxa := xslice_all b 8
        have hmin : min r2 64 = r2 := by omega
        have HMIN := Lib.hid hmin
        clear hmin
        go_wp2_with (
          refine wpList_cpy (o := ⟨some 92, _, _, _, _, _⟩) rfl (.tmp 90) (.tmp 91) 24 24 rfl Tryz.underlying24 (by kernel_rfl) rfl rfl (g := b) (off := 8) (cur := dgL (shaRun shaIV T j2).list x2 nx2 T.length) (t := 147) HBD2.out (byts_src' (HBY2.out _ HKP2.out)) (u8v_one' rest2) (fun _ => rfl) (by have := HD2.out.hlen; have := HD2.out.xlen; simp [dgL]; omega) ?_
          intro w5 hb5 hk5
          rw [HMIN.out] at hb5 ⊢
          have HD5 : Hid (DgL w5 b (shaRun shaIV T j2).list (x2.take 0 ++ (rest2.take r2 ++ x2.drop (0 + r2))) nx2 T.length) := Lib.hid (HD2.out.copied rest2 0 r2 (by omega) (by have := HR2.out; omega) hb5.out)
          obtain ⟨y72, y73, y74⟩ := HD5.out.tail
          have hf5 := HD5.out.frozen
          clear y73 y74 hb5)
        go_ret2
        refine ⟨rfl, ?_, (HKP2.out.trans hk5.out).setCell (p := ⟨b, 72, none⟩) (fun _ => rfl) _⟩
        have h0 := HR2.out
        rw [← HT.out]
        rcases HOR2.out with ⟨a1, a2, a3⟩ | ⟨a1, a2, a3, a4⟩
        · have h1 : T.length = 64 * j2 + r2 := by rw [a2, List.length_drop] at h0; omega
          have hx2 := HD2.out.xlen
          refine ⟨x2.take 0 ++ (rest2.take r2 ++ x2.drop (0 + r2)), ?_, ?_⟩
          · rw [show T.length / 64 = j2 by omega, show T.length % 64 = r2 by omega]
            exact HD5.out.setNxI _ _ rfl
          · rw [show T.length / 64 = j2 by omega, show T.length % 64 = r2 by omega, List.take_zero, List.nil_append, List.take_of_length_le (show rest2.length ≤ r2 by omega), List.take_append_of_le_length (by omega), List.take_of_length_le (by omega), a2]
        · rw [a1] at h0; simp at h0; omega
end Go.Proofs.YtfodkjpjejoemaaGreatDoor
