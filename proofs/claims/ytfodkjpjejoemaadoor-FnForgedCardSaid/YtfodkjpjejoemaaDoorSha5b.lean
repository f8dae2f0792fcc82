/-
  blockGeneric's rounds: one round each, the word taken from the block or reckoned from the words before.
  Conditions: the frame is the function's own; the table's word and the schedule's words are known.
-/
import Derived.Test.YtfodkjpjejoemaaDoorSha5a
import Derived.StillTailTactics
import Derived.Deep.RegionHeld3
import Derived.Deep.DrawnRows
namespace Go.Proofs.YtfodkjpjejoemaaDoor
open Go Go.RowKit
attribute [local go_sem ↓] Go.wp_at_zero Go.wp_at_succ

set_option maxRecDepth 1000000 in
set_option maxHeartbeats 40000000 in
theorem roundB (x0 x2 x3 x5 x6 x7 x8 x9 x10 x11 x12 x21 x22 x23 x24 x25 x26 x27 x28 x29 x30 x31 x32 x33 x34 x35 x36 x37 x38 x39 x40 x41 x42 x43 x44 x45 x46 x47 x48 x49 x50 x51 x52 x53 x54 x55 x56 x57 x58 x59 x60 x61 x62 x63 x64 x65 x66 x67 x68 x69 x70 x71 x72 x73 x74 x75 x76 x77 x78 x79 x81 x82 x83 x84 x85 x86 x87 x88 x89 x90 x91 x92 x93 x94 x95 x96 x97 x98 x99 x100 x101 x102 x103 x104 x105 x106 x107 x108 x109 x110 x111 x112 x113 x114 x115 x116 x117 x118 x119 x120 x121 x122 x123 x124 x125 x126 x127 x128 x129 x130 x131 x132 x133 x134 x135 x136 x137 x138 x139 x140 x141 x142 x143 x144 x145 x146 x147 x148 x149 x150 x151 x152 x153 x154 x155 x156 x157 x158 x159 x160 x161 x162 x163 x164 x165 x166 x167 x168 x169 x170 x171 x172 x173 x174 x175 x176 x177 x178 x179 x180 x181 x182 x183 x184 x185 x186 x187 x188 x189 x190 x191 x192 x193 x194 x195 x196 x197 x198 x199 x200 x201 x202 x203 x204 x205 x206 x207 x208 x209 x210 x211 x212 x213 x214 x215 x216 x217 x218 x219 x220 x221 x222 x223 x224 x225 x226 x227 x228 x229 x230 x231 x232 x233 x234 x235 x236 x237 x238 x239 x240 x241 x242 x243 x244 x245 x246 x247 x248 x249 x250 x251 x252 x253 x254 x255 x256 x257 x258 x259 x260 x261 x262 x263 x264 x265 x266 x267 x268 x269 x270 x271 x272 x273 x274 x275 x276 x277 x278 x279 x280 x281 x282 : Value) (q pb poff lp c1 bw : Nat) (p : List UInt8) (V : List W32) (S : St) (wr : World) (K : Act → World → Prop) (Q0 : Exit → Act → World → Prop)
    (hq16 : ¬ q < 16) (hq64 : q < 64) (hl64 : 64 ≤ lp) (hlb : lp ≤ 4294967296) (hpb : pb ≠ bw)
    (hP : ∀ j, j < 64 → wr.cell? ⟨pb, poff + j, none⟩ = some (u8v (p.getD j 0)))
    (hKt : ∀ wx, Kp (fun i => i = bw) wr wx → wx.cell? ⟨4, q, none⟩ = some (u32v (shaK.getD q 0)))
    (hV : Arr wr bw 81 V) (hVl : V.length = 64) (hVt : V.take q = shaW p q)
    (hK : ∀ (u13 u14 u15 u16 u17 u18 u19 u20 u21 u22 u23 u24 u25 u26 u27 u28 u81 u82 u83 u84 u85 u86 u87 u88 u89 u90 u91 u92 u93 u94 u95 u96 u97 u98 u99 u100 u101 u102 u103 u104 u105 u106 u107 u108 u109 u110 u111 u112 u113 u114 u115 u116 u117 u118 u119 u120 u121 u122 u123 u124 u125 u126 u127 u128 u129 u130 u131 u132 u133 u134 u135 u136 u137 u138 u139 u140 u141 u142 u143 u144 u145 u146 u147 u148 u149 u150 u151 u152 u153 u154 u155 u156 u157 u158 u159 u160 u161 u162 u163 u164 u165 u166 u167 u168 u169 u170 u171 u172 u173 u174 u175 u176 u177 u178 u179 u180 u181 u182 u183 u184 u185 u186 u187 u188 u189 u190 u191 u192 u193 u194 u195 u196 u197 u198 u199 u200 u201 u202 u203 u204 u205 u206 u207 u208 u209 u210 u211 u212 u213 u214 u215 u216 : Value) (wd : World), u13 = u32v (shaRnd (shaK.getD q 0) (shaNext p (shaW p q) q) S).a → u14 = u32v (shaRnd (shaK.getD q 0) (shaNext p (shaW p q) q) S).b → u15 = u32v (shaRnd (shaK.getD q 0) (shaNext p (shaW p q) q) S).c → u16 = u32v (shaRnd (shaK.getD q 0) (shaNext p (shaW p q) q) S).d → u17 = u32v (shaRnd (shaK.getD q 0) (shaNext p (shaW p q) q) S).e → u18 = u32v (shaRnd (shaK.getD q 0) (shaNext p (shaW p q) q) S).f → u19 = u32v (shaRnd (shaK.getD q 0) (shaNext p (shaW p q) q) S).g → u20 = u32v (shaRnd (shaK.getD q 0) (shaNext p (shaW p q) q) S).h → Arr wd bw 81 (V.set q (shaNext p (shaW p q) q)) → Kp (fun i => i = bw) wr wd →
      K ⟨#[x0, .slice (some ⟨pb, poff, none⟩) lp c1, x2, x3, .pointer (some ⟨bw, 0, none⟩), x5, x6, x7, x8, x9, x10, x11, x12, u13, u14, u15, u16, u17, u18, u19, u20, u21, u22, u23, u24, u25, u26, u27, u28, x29, x30, x31, x32, x33, x34, x35, x36, x37, x38, x39, x40, x41, x42, x43, x44, x45, x46, x47, x48, x49, x50, x51, x52, x53, x54, x55, x56, x57, x58, x59, x60, x61, x62, x63, x64, x65, x66, x67, x68, x69, x70, x71, x72, x73, x74, x75, x76, x77, x78, x79, .int .i64 ((q : Int) + 1), u81, u82, u83, u84, u85, u86, u87, u88, u89, u90, u91, u92, u93, u94, u95, u96, u97, u98, u99, u100, u101, u102, u103, u104, u105, u106, u107, u108, u109, u110, u111, u112, u113, u114, u115, u116, u117, u118, u119, u120, u121, u122, u123, u124, u125, u126, u127, u128, u129, u130, u131, u132, u133, u134, u135, u136, u137, u138, u139, u140, u141, u142, u143, u144, u145, u146, u147, u148, u149, u150, u151, u152, u153, u154, u155, u156, u157, u158, u159, u160, u161, u162, u163, u164, u165, u166, u167, u168, u169, u170, u171, u172, u173, u174, u175, u176, u177, u178, u179, u180, u181, u182, u183, u184, u185, u186, u187, u188, u189, u190, u191, u192, u193, u194, u195, u196, u197, u198, u199, u200, u201, u202, u203, u204, u205, u206, u207, u208, u209, u210, u211, u212, u213, u214, u215, u216, x217, x218, x219, x220, x221, x222, x223, x224, x225, x226, x227, x228, x229, x230, x231, x232, x233, x234, x235, x236, x237, x238, x239, x240, x241, x242, x243, x244, x245, x246, x247, x248, x249, x250, x251, x252, x253, x254, x255, x256, x257, x258, x259, x260, x261, x262, x263, x264, x265, x266, x267, x268, x269, x270, x271, x272, x273, x274, x275, x276, x277, x278, x279, x280, x281, x282], []⟩ wd) :
    Code.wp Tryd.prog innerBody (Exit.then K Q0) ⟨#[x0, .slice (some ⟨pb, poff, none⟩) lp c1, x2, x3, .pointer (some ⟨bw, 0, none⟩), x5, x6, x7, x8, x9, x10, x11, x12, u32v S.a, u32v S.b, u32v S.c, u32v S.d, u32v S.e, u32v S.f, u32v S.g, u32v S.h, x21, x22, x23, x24, x25, x26, x27, x28, x29, x30, x31, x32, x33, x34, x35, x36, x37, x38, x39, x40, x41, x42, x43, x44, x45, x46, x47, x48, x49, x50, x51, x52, x53, x54, x55, x56, x57, x58, x59, x60, x61, x62, x63, x64, x65, x66, x67, x68, x69, x70, x71, x72, x73, x74, x75, x76, x77, x78, x79, .int .i64 (q : Int), x81, x82, x83, x84, x85, x86, x87, x88, x89, x90, x91, x92, x93, x94, x95, x96, x97, x98, x99, x100, x101, x102, x103, x104, x105, x106, x107, x108, x109, x110, x111, x112, x113, x114, x115, x116, x117, x118, x119, x120, x121, x122, x123, x124, x125, x126, x127, x128, x129, x130, x131, x132, x133, x134, x135, x136, x137, x138, x139, x140, x141, x142, x143, x144, x145, x146, x147, x148, x149, x150, x151, x152, x153, x154, x155, x156, x157, x158, x159, x160, x161, x162, x163, x164, x165, x166, x167, x168, x169, x170, x171, x172, x173, x174, x175, x176, x177, x178, x179, x180, x181, x182, x183, x184, x185, x186, x187, x188, x189, x190, x191, x192, x193, x194, x195, x196, x197, x198, x199, x200, x201, x202, x203, x204, x205, x206, x207, x208, x209, x210, x211, x212, x213, x214, x215, x216, x217, x218, x219, x220, x221, x222, x223, x224, x225, x226, x227, x228, x229, x230, x231, x232, x233, x234, x235, x236, x237, x238, x239, x240, x241, x242, x243, x244, x245, x246, x247, x248, x249, x250, x251, x252, x253, x254, x255, x256, x257, x258, x259, x260, x261, x262, x263, x264, x265, x266, x267, x268, x269, x270, x271, x272, x273, x274, x275, x276, x277, x278, x279, x280, x281, x282], []⟩ wr := by
  have HPG := Lib.hid hP
  have HPB := Lib.hid hpb
  have HKC := Lib.hid hKt
  have HV := Lib.hid hV
  have HVL := Lib.hid hVl
  have HVT := Lib.hid hVt
  have HKQ : Hid (Kp (fun i => i = bw) wr wr) := Lib.hid (Kp.refl _ _)
  have HHK := Lib.hid hK
  clear hP hpb hKt hV hVl hVt hK
  have HWN := Lib.hid (shaW_getD p q (q + 1) (by omega))
  obtain ⟨yc, y00⟩ : ∃ u, wr.cell? ⟨bw, q, none⟩ = some u := ⟨_, HV.out.cell q (by rw [HVL.out]; omega)⟩
  have y0 := HV.out.frozen q
  have g0 : (q : Int) < 64 := by omega
  have gz : (0 : Int) ≤ (q : Int) := by omega

  have y2 := HV.out.cell (q - 2) (by rw [HVL.out]; omega)
  have y7' := HV.out.cell (q - 7) (by rw [HVL.out]; omega)
  have y15 := HV.out.cell (q - 15) (by rw [HVL.out]; omega)
  have y16 := HV.out.cell (q - 16) (by rw [HVL.out]; omega)
  rw [getD_of_take HVT.out (by omega)] at y2 y7' y15 y16
  have HNX := Lib.hid (show shaNext p (shaW p q) q = (shaW p q).getD (q - 16) 0 + smlS0 ((shaW p q).getD (q - 15) 0) + (shaW p q).getD (q - 7) 0 + smlS1 ((shaW p q).getD (q - 2) 0) by unfold shaNext; rw [if_neg (by omega)])
  generalize (shaW p q).getD (q - 2) 0 = x2 at y2 HNX
  generalize (shaW p q).getD (q - 7) 0 = x7 at y7' HNX
  generalize (shaW p q).getD (q - 15) 0 = x15 at y15 HNX
  generalize (shaW p q).getD (q - 16) 0 = x16 at y16 HNX
  obtain ⟨q2, e2⟩ : ∃ q2, q2 = q - 2 := ⟨_, rfl⟩
  obtain ⟨q7, e7⟩ : ∃ q7, q7 = q - 7 := ⟨_, rfl⟩
  obtain ⟨q15, e15⟩ : ∃ q15, q15 = q - 15 := ⟨_, rfl⟩
  obtain ⟨q16, e16⟩ : ∃ q16, q16 = q - 16 := ⟨_, rfl⟩
  rw [← e2] at y2
  rw [← e7] at y7'
  rw [← e15] at y15
  rw [← e16] at y16
  have f2 : (q : Int) - 2 = (q2 : Int) := by omega
  have f7 : (q : Int) - 7 = (q7 : Int) := by omega
  have f15 : (q : Int) - 15 = (q15 : Int) := by omega
  have f16 : (q : Int) - 16 = (q16 : Int) := by omega
  have g2 : (q2 : Int) < 64 := by omega
  have g7 : (q7 : Int) < 64 := by omega
  have g15 : (q15 : Int) < 64 := by omega
  have g16 : (q16 : Int) < 64 := by omega
  clear e2 e7 e15 e16
  conv => arg 2; whnf
  go_wp2_with (go_at_call 160; refine (rotl_any _ _ _ (by decide) (by decide)).mono ?_; rintro e w' ⟨rfl, rfl⟩)
  have k7 : IntKind.i64.wrap ((q : Int) - 7) = (q7 : Int) := by rw [f7, IntKind.wrap_i64]; omega
  have k7' : IntKind.i64.wrap (q7 : Int) = (q7 : Int) := by rw [IntKind.wrap_i64]; omega
  have k16' : IntKind.i64.wrap (q16 : Int) = (q16 : Int) := by rw [IntKind.wrap_i64]; omega
  have k16 : IntKind.i64.wrap ((q : Int) - 16) = (q16 : Int) := by rw [f16, IntKind.wrap_i64]; omega
  rw [w_shr10, w_shr3, w_xor, w_xor, w_xor, w_xor]
  obtain ⟨m14, h14⟩ : ∃ m, m = smlS0 x15 := ⟨_, rfl⟩
  obtain ⟨m15, h15⟩ : ∃ m, m = smlS1 x2 := ⟨_, rfl⟩
  rw [show rotr x15 7 ^^^ rotr x15 18 ^^^ x15 >>> 3 = m14 from h14.symm, show rotr x2 17 ^^^ rotr x2 19 ^^^ x2 >>> 10 = m15 from h15.symm]
  have HNX2 : Hid (shaNext p (shaW p q) q = m15 + x7 + m14 + x16) := Lib.hid (by rw [HNX.out, h14, h15]; ac_rfl)
  clear h14 h15 HNX
  go_still_tail 15, (by kernel_rfl)
  change wpList _ _ _ _ _ wr.drew
  rw [w_add, w_add, w_add]
  obtain ⟨xw, hxw⟩ : ∃ x, x = m15 + x7 + m14 + x16 := ⟨_, rfl⟩
  rw [← hxw] at HNX2 ⊢
  clear hxw
  go_wp2
  generalize hwd : World.drew _ = wd
  have HVD : Hid (Arr wd bw 81 (V.set q ((shaW p (q + 1)).getD q 0))) := Lib.hid (by rw [← hwd, HWN.out, HNX2.out]; exact HV.out.set q _)
  have HKD : Hid (Kp (fun i => i = bw) wr wd) := Lib.hid (by rw [← hwd]; exact (HKQ.out.setCell (p := ⟨bw, q, none⟩) (fun _ => rfl) _).drew)
  obtain ⟨ww, hww⟩ : ∃ x, x = (shaW p (q + 1)).getD q 0 := ⟨_, rfl⟩
  rw [← hww] at HWN HVD
  have HVL2 := Lib.hid (show (V.set q ww).length = 64 by rw [List.length_set, HVL.out])
  have y7 := HVD.out.cell q (by rw [HVL2.out]; omega)
  rw [getD_set_same _ (by rw [HVL.out]; omega)] at y7
  have y8 := HKC.out wd HKD.out
  obtain ⟨kk, hkk⟩ : ∃ x, x = shaK.getD q 0 := ⟨_, rfl⟩
  rw [← hkk] at y8
  have HKK := Lib.hid hkk
  clear hkk
  clear hww
  obtain ⟨m18, h18⟩ : ∃ m, m = bigS1 S.e := ⟨_, rfl⟩
  obtain ⟨m19, h19⟩ : ∃ m, m = shaCh S.e S.f S.g := ⟨_, rfl⟩
  obtain ⟨m20, h20⟩ : ∃ m, m = shaT1 kk ww S := ⟨_, rfl⟩
  obtain ⟨m21, h21⟩ : ∃ m, m = bigS0 S.a := ⟨_, rfl⟩
  obtain ⟨m22, h22⟩ : ∃ m, m = shaMaj S.a S.b S.c := ⟨_, rfl⟩
  have H18 : Hid (rotr S.e 6 ^^^ rotr S.e 11 ^^^ rotr S.e 25 = m18) := Lib.hid h18.symm
  have H19 : Hid (S.e &&& S.f ^^^ ~~~S.e &&& S.g = m19) := Lib.hid h19.symm
  have H20 : Hid (S.h + m18 + m19 + kk + ww = m20) := Lib.hid (by rw [h18, h19, h20]; rfl)
  have H21 : Hid (rotr S.a 2 ^^^ rotr S.a 13 ^^^ rotr S.a 22 = m21) := Lib.hid h21.symm
  have H22 : Hid (S.a &&& S.b ^^^ S.a &&& S.c ^^^ S.b &&& S.c = m22) := Lib.hid h22.symm
  have HRL : Hid (shaRnd kk ww S = ⟨m20 + (m21 + m22), S.a, S.b, S.c, S.d + m20, S.e, S.f, S.g⟩) := Lib.hid (by rw [h20, h21, h22]; rfl)
  clear h18 h19 h20 h21 h22 hwd y0 y00
  go_quiet ((go_at_call 160; exact rotl_quiet _ _ _ _ (by decide) (by decide)))
  rw [w_xor, w_xor, H18.out, w_and, w_not, w_and, w_xor, H19.out, w_add5F, H20.out]
  go_wp2_with (go_at_call 160; refine (rotl_any _ _ _ (by decide) (by decide)).mono ?_; rintro e w' ⟨rfl, rfl⟩)
  rw [w_xor, w_xor, H21.out, w_and, w_and, w_and, w_xor, w_xor, H22.out]
  have HEQ : Hid (shaRnd (shaK.getD q 0) (shaNext p (shaW p q) q) S = ⟨m20 + (m21 + m22), S.a, S.b, S.c, S.d + m20, S.e, S.f, S.g⟩) := Lib.hid (by rw [← HKK.out, ← HWN.out]; exact HRL.out)
  rw [HWN.out] at HVD
  refine HHK.out _ _ _ _ _ _ _ _ _ _ _ _ _ _ _ _ _ _ _ _ _ _ _ _ _ _ _ _ _ _ _ _ _ _ _ _ _ _ _ _ _ _ _ _ _ _ _ _ _ _ _ _ _ _ _ _ _ _ _ _ _ _ _ _ _ _ _ _ _ _ _ _ _ _ _ _ _ _ _ _ _ _ _ _ _ _ _ _ _ _ _ _ _ _ _ _ _ _ _ _ _ _ _ _ _ _ _ _ _ _ _ _ _ _ _ _ _ _ _ _ _ _ _ _ _ _ _ _ _ _ _ _ _ _ _ _ _ _ _ _ _ _ _ _ _ _ _ _ _ _ _ _ _ ?_ ?_ ?_ ?_ ?_ ?_ ?_ ?_ HVD.out (HKD.out.drewN _)
  all_goals rw [HEQ.out]
  · exact congrArg (Value.int .u32) (by simp only [BitVec.toNat_add]; omega)
  · exact congrArg (Value.int .u32) (by simp only [BitVec.toNat_add]; omega)
end Go.Proofs.YtfodkjpjejoemaaDoor
