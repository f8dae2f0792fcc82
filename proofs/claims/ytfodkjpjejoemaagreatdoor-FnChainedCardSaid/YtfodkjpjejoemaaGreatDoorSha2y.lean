
/-
  The specification's sum: one byte of the length, one word of the result.
  Conditions: the frame is the function's own.
-/
import Derived.Test.YtfodkjpjejoemaaGreatDoorZb
namespace Go.Proofs.YtfodkjpjejoemaaGreatDoor
open Go Go.RowKit
attribute [local go_sem ↓] Go.wp_at_zero Go.wp_at_succ

set_option maxRecDepth 1000000 in
set_option maxHeartbeats 40000000 in
theorem lenRound (x0 x1 x2 x3 x4 x7 x8 x9 x10 x11 x12 x13 x14 x15 x16 x17 x18 x19 x20 x21 x22 x23 x24 x25 x26 x27 x28 x29 x30 x31 x32 x33 x34 x35 x36 x37 x38 x39 x40 x41 x43 x44 x45 x46 x47 x48 x49 x50 x51 x52 x53 x54 x55 x56 x57 x58 x59 x60 x61 x62 x63 x64 x65 x66 x67 x68 x69 x70 x71 x72 x73 x74 x75 x76 x77 x78 x79 x80 x81 x82 x83 x84 x85 x86 x87 x88 x89 x90 x91 x92 x93 x94 x95 x96 x97 x98 x99 x100 x101 x102 x103 x104 x105 x106 x107 x108 x109 x110 x111 x112 x113 x114 x115 x116 x117 x118 x119 x120 x121 x122 x123 x124 x125 x126 x127 x128 x129 x130 x131 x132 x133 x134 x135 x136 x137 x138 x139 x140 x141 x142 x143 x144 x145 x146 x147 x148 x149 x150 x151 x152 x153 x154 x155 x156 x157 x158 x159 x160 x161 x162 x163 x164 x165 x166 x167 x168 x169 x170 x171 x172 x173 x174 x175 x176 x177 x178 x179 x180 x181 x182 x183 x184 x185 x186 x187 x188 x189 x190 x191 x192 x193 x194 x195 x196 x197 x198 x199 x200 x201 x202 x203 x204 x205 x206 x207 x208 x209 x210 x211 x212 x213 x214 x215 x216 x217 x218 x219 x220 x221 x222 x223 x224 x225 x226 x227 x228 x229 x230 x231 x232 x233 x234 x235 x236 x237 x238 x239 x240 x241 x242 x243 x244 x245 x246 x247 x248 x249 x250 x251 x252 x253 x254 x255 x256 x257 x258 x259 x260 x261 x262 x263 x264 x265 x266 x267 x268 x269 x270 x271 x272 x273 x274 x275 x276 x277 x278 x279 x280 x281 x282 x283 x284 x285 x286 x287 x288 x289 x290 x291 x292 x293 x294 x295 x296 x297 x298 x299 : Value) (v : Value) (j k base : Nat) (bs : List UInt8) (wr : World) (K : Act → World → Prop) (Q0 : Exit → Act → World → Prop) (hlt8 : j < 8) (hb : bs.length ≤ 4294967296) (hk : k ≤ 63)
    (hown : Own wr base 5 v ((shaPre bs k ++ (be64 (8 * bs.length)).take j).map u8v)) (hbase : base ≤ wr.heap.size)
    (hK : ∀ (u6 u7 u43 u44 u45 u46 u47 u48 u49 u50 u51 u52 u53 u54 u55 : Value) (wd : World), Own wd base 5 u6 ((shaPre bs k ++ (be64 (8 * bs.length)).take (j + 1)).map u8v) → Kp (fun i => base ≤ i) wr wd → K ⟨#[x0, x1, x2, x3, x4, .int .i64 (bs.length : Int), u6, u7, x8, x9, x10, x11, x12, x13, x14, x15, x16, x17, x18, x19, x20, x21, x22, x23, x24, x25, x26, x27, x28, x29, x30, x31, x32, x33, x34, x35, x36, x37, x38, x39, x40, x41, .int .i64 ((j : Int) + 1), u43, u44, u45, u46, u47, u48, u49, u50, u51, u52, u53, u54, u55, x56, x57, x58, x59, x60, x61, x62, x63, x64, x65, x66, x67, x68, x69, x70, x71, x72, x73, x74, x75, x76, x77, x78, x79, x80, x81, x82, x83, x84, x85, x86, x87, x88, x89, x90, x91, x92, x93, x94, x95, x96, x97, x98, x99, x100, x101, x102, x103, x104, x105, x106, x107, x108, x109, x110, x111, x112, x113, x114, x115, x116, x117, x118, x119, x120, x121, x122, x123, x124, x125, x126, x127, x128, x129, x130, x131, x132, x133, x134, x135, x136, x137, x138, x139, x140, x141, x142, x143, x144, x145, x146, x147, x148, x149, x150, x151, x152, x153, x154, x155, x156, x157, x158, x159, x160, x161, x162, x163, x164, x165, x166, x167, x168, x169, x170, x171, x172, x173, x174, x175, x176, x177, x178, x179, x180, x181, x182, x183, x184, x185, x186, x187, x188, x189, x190, x191, x192, x193, x194, x195, x196, x197, x198, x199, x200, x201, x202, x203, x204, x205, x206, x207, x208, x209, x210, x211, x212, x213, x214, x215, x216, x217, x218, x219, x220, x221, x222, x223, x224, x225, x226, x227, x228, x229, x230, x231, x232, x233, x234, x235, x236, x237, x238, x239, x240, x241, x242, x243, x244, x245, x246, x247, x248, x249, x250, x251, x252, x253, x254, x255, x256, x257, x258, x259, x260, x261, x262, x263, x264, x265, x266, x267, x268, x269, x270, x271, x272, x273, x274, x275, x276, x277, x278, x279, x280, x281, x282, x283, x284, x285, x286, x287, x288, x289, x290, x291, x292, x293, x294, x295, x296, x297, x298, x299], []⟩ wd) :
    Code.wp Tryz.prog (loopN 1) (Exit.then K Q0) ⟨#[x0, x1, x2, x3, x4, .int .i64 (bs.length : Int), v, x7, x8, x9, x10, x11, x12, x13, x14, x15, x16, x17, x18, x19, x20, x21, x22, x23, x24, x25, x26, x27, x28, x29, x30, x31, x32, x33, x34, x35, x36, x37, x38, x39, x40, x41, .int .i64 (j : Int), x43, x44, x45, x46, x47, x48, x49, x50, x51, x52, x53, x54, x55, x56, x57, x58, x59, x60, x61, x62, x63, x64, x65, x66, x67, x68, x69, x70, x71, x72, x73, x74, x75, x76, x77, x78, x79, x80, x81, x82, x83, x84, x85, x86, x87, x88, x89, x90, x91, x92, x93, x94, x95, x96, x97, x98, x99, x100, x101, x102, x103, x104, x105, x106, x107, x108, x109, x110, x111, x112, x113, x114, x115, x116, x117, x118, x119, x120, x121, x122, x123, x124, x125, x126, x127, x128, x129, x130, x131, x132, x133, x134, x135, x136, x137, x138, x139, x140, x141, x142, x143, x144, x145, x146, x147, x148, x149, x150, x151, x152, x153, x154, x155, x156, x157, x158, x159, x160, x161, x162, x163, x164, x165, x166, x167, x168, x169, x170, x171, x172, x173, x174, x175, x176, x177, x178, x179, x180, x181, x182, x183, x184, x185, x186, x187, x188, x189, x190, x191, x192, x193, x194, x195, x196, x197, x198, x199, x200, x201, x202, x203, x204, x205, x206, x207, x208, x209, x210, x211, x212, x213, x214, x215, x216, x217, x218, x219, x220, x221, x222, x223, x224, x225, x226, x227, x228, x229, x230, x231, x232, x233, x234, x235, x236, x237, x238, x239, x240, x241, x242, x243, x244, x245, x246, x247, x248, x249, x250, x251, x252, x253, x254, x255, x256, x257, x258, x259, x260, x261, x262, x263, x264, x265, x266, x267, x268, x269, x270, x271, x272, x273, x274, x275, x276, x277, x278, x279, x280, x281, x282, x283, x284, x285, x286, x287, x288, x289, x290, x291, x292, x293, x294, x295, x296, x297, x298, x299], []⟩ wr := by
  have HO2 := Lib.hid hown
  have HHK := Lib.hid hK
  clear hown hK
  obtain ⟨A2, c2, rfl, d1, d2, d3, d4⟩ := HO2.out.form
  have hl2 : ((shaPre bs k ++ (be64 (8 * bs.length)).take j).map u8v).length = bs.length + 1 + k + j := by
    rw [List.length_map, List.length_append, shaPre_length, List.length_take]; simp [be64]; omega
  have HL2 := Lib.hid hl2
  rw [hl2] at HO2 d1 ⊢
  clear d3 d4 hl2
  unfold maxLen at d2
  have HS := Lib.hid (be64_take (8 * bs.length) j hlt8)
  have hlb := hb
  conv => arg 2; whnf
  obtain rfl | rfl | rfl | rfl | rfl | rfl | rfl | rfl : j = 0 ∨ j = 1 ∨ j = 2 ∨ j = 3 ∨ j = 4 ∨ j = 5 ∨ j = 6 ∨ j = 7 := by omega
  · go_wp2_with (first
      | (at_builtin; go_loud (
         refine wpList_app rfl (.tmp 45) (.tmp 53) 24 rfl appByte rfl (HO2.out.alloc _) rfl (news := [u8v (UInt8.ofNat (8 * bs.length / 2 ^ (56 - 8 * 0)))]) (Src.one ((alloc_one_cell _ _ _).trans (congrArg some (byte_cell (by simp only [Nat.reducePow, Nat.reduceMul, Nat.reduceSub]; omega))))) (by intro u hu; simp at hu; subst hu; rfl) (fun x => by cases x) (by rw [HL2.out]; omega) (by simp; omega) ?_
         intro vd wd hod hkd hat
         have HOC : Hid (Own wd base 5 vd ((shaPre bs k ++ (be64 (8 * bs.length)).take (0 + 1)).map u8v)) := Lib.hid (by rw [HS.out]; simpa using hod)
         have HKC := Lib.hid (((Kp.refl (fun i => base ≤ i) wr).alloc _).trans' hkd fun i hi he => by have := HO2.out.lt i he.symm; omega)
         clear hod hkd hat)))
    exact HHK.out _ _ _ _ _ _ _ _ _ _ _ _ _ _ _ _ HOC.out HKC.out
  · go_wp2_with (first
      | (at_builtin; go_loud (
         refine wpList_app rfl (.tmp 45) (.tmp 53) 24 rfl appByte rfl (HO2.out.alloc _) rfl (news := [u8v (UInt8.ofNat (8 * bs.length / 2 ^ (56 - 8 * 1)))]) (Src.one ((alloc_one_cell _ _ _).trans (congrArg some (byte_cell (by simp only [Nat.reducePow, Nat.reduceMul, Nat.reduceSub]; omega))))) (by intro u hu; simp at hu; subst hu; rfl) (fun x => by cases x) (by rw [HL2.out]; omega) (by simp; omega) ?_
         intro vd wd hod hkd hat
         have HOC : Hid (Own wd base 5 vd ((shaPre bs k ++ (be64 (8 * bs.length)).take (1 + 1)).map u8v)) := Lib.hid (by rw [HS.out]; simpa using hod)
         have HKC := Lib.hid (((Kp.refl (fun i => base ≤ i) wr).alloc _).trans' hkd fun i hi he => by have := HO2.out.lt i he.symm; omega)
         clear hod hkd hat)))
    exact HHK.out _ _ _ _ _ _ _ _ _ _ _ _ _ _ _ _ HOC.out HKC.out
  · go_wp2_with (first
      | (at_builtin; go_loud (
         refine wpList_app rfl (.tmp 45) (.tmp 53) 24 rfl appByte rfl (HO2.out.alloc _) rfl (news := [u8v (UInt8.ofNat (8 * bs.length / 2 ^ (56 - 8 * 2)))]) (Src.one ((alloc_one_cell _ _ _).trans (congrArg some (byte_cell (by simp only [Nat.reducePow, Nat.reduceMul, Nat.reduceSub]; omega))))) (by intro u hu; simp at hu; subst hu; rfl) (fun x => by cases x) (by rw [HL2.out]; omega) (by simp; omega) ?_
         intro vd wd hod hkd hat
         have HOC : Hid (Own wd base 5 vd ((shaPre bs k ++ (be64 (8 * bs.length)).take (2 + 1)).map u8v)) := Lib.hid (by rw [HS.out]; simpa using hod)
         have HKC := Lib.hid (((Kp.refl (fun i => base ≤ i) wr).alloc _).trans' hkd fun i hi he => by have := HO2.out.lt i he.symm; omega)
         clear hod hkd hat)))
    exact HHK.out _ _ _ _ _ _ _ _ _ _ _ _ _ _ _ _ HOC.out HKC.out
  · go_wp2_with (first
      | (at_builtin; go_loud (
         refine wpList_app rfl (.tmp 45) (.tmp 53) 24 rfl appByte rfl (HO2.out.alloc _) rfl (news := [u8v (UInt8.ofNat (8 * bs.length / 2 ^ (56 - 8 * 3)))]) (Src.one ((alloc_one_cell _ _ _).trans (congrArg some (byte_cell (by simp only [Nat.reducePow, Nat.reduceMul, Nat.reduceSub]; omega))))) (by intro u hu; simp at hu; subst hu; rfl) (fun x => by cases x) (by rw [HL2.out]; omega) (by simp; omega) ?_
         intro vd wd hod hkd hat
         have HOC : Hid (Own wd base 5 vd ((shaPre bs k ++ (be64 (8 * bs.length)).take (3 + 1)).map u8v)) := Lib.hid (by rw [HS.out]; simpa using hod)
         have HKC := Lib.hid (((Kp.refl (fun i => base ≤ i) wr).alloc _).trans' hkd fun i hi he => by have := HO2.out.lt i he.symm; omega)
         clear hod hkd hat)))
    exact HHK.out _ _ _ _ _ _ _ _ _ _ _ _ _ _ _ _ HOC.out HKC.out
  · go_wp2_with (first
      | (at_builtin; go_loud (
         refine wpList_app rfl (.tmp 45) (.tmp 53) 24 rfl appByte rfl (HO2.out.alloc _) rfl (news := [u8v (UInt8.ofNat (8 * bs.length / 2 ^ (56 - 8 * 4)))]) (Src.one ((alloc_one_cell _ _ _).trans (congrArg some (byte_cell (by simp only [Nat.reducePow, Nat.reduceMul, Nat.reduceSub]; omega))))) (by intro u hu; simp at hu; subst hu; rfl) (fun x => by cases x) (by rw [HL2.out]; omega) (by simp; omega) ?_
         intro vd wd hod hkd hat
         have HOC : Hid (Own wd base 5 vd ((shaPre bs k ++ (be64 (8 * bs.length)).take (4 + 1)).map u8v)) := Lib.hid (by rw [HS.out]; simpa using hod)
         have HKC := Lib.hid (((Kp.refl (fun i => base ≤ i) wr).alloc _).trans' hkd fun i hi he => by have := HO2.out.lt i he.symm; omega)
         clear hod hkd hat)))
    exact HHK.out _ _ _ _ _ _ _ _ _ _ _ _ _ _ _ _ HOC.out HKC.out
  · go_wp2_with (first
      | (at_builtin; go_loud (
         refine wpList_app rfl (.tmp 45) (.tmp 53) 24 rfl appByte rfl (HO2.out.alloc _) rfl (news := [u8v (UInt8.ofNat (8 * bs.length / 2 ^ (56 - 8 * 5)))]) (Src.one ((alloc_one_cell _ _ _).trans (congrArg some (byte_cell (by simp only [Nat.reducePow, Nat.reduceMul, Nat.reduceSub]; omega))))) (by intro u hu; simp at hu; subst hu; rfl) (fun x => by cases x) (by rw [HL2.out]; omega) (by simp; omega) ?_
         intro vd wd hod hkd hat
         have HOC : Hid (Own wd base 5 vd ((shaPre bs k ++ (be64 (8 * bs.length)).take (5 + 1)).map u8v)) := Lib.hid (by rw [HS.out]; simpa using hod)
         have HKC := Lib.hid (((Kp.refl (fun i => base ≤ i) wr).alloc _).trans' hkd fun i hi he => by have := HO2.out.lt i he.symm; omega)
         clear hod hkd hat)))
    exact HHK.out _ _ _ _ _ _ _ _ _ _ _ _ _ _ _ _ HOC.out HKC.out
  · go_wp2_with (first
      | (at_builtin; go_loud (
         refine wpList_app rfl (.tmp 45) (.tmp 53) 24 rfl appByte rfl (HO2.out.alloc _) rfl (news := [u8v (UInt8.ofNat (8 * bs.length / 2 ^ (56 - 8 * 6)))]) (Src.one ((alloc_one_cell _ _ _).trans (congrArg some (byte_cell (by simp only [Nat.reducePow, Nat.reduceMul, Nat.reduceSub]; omega))))) (by intro u hu; simp at hu; subst hu; rfl) (fun x => by cases x) (by rw [HL2.out]; omega) (by simp; omega) ?_
         intro vd wd hod hkd hat
         have HOC : Hid (Own wd base 5 vd ((shaPre bs k ++ (be64 (8 * bs.length)).take (6 + 1)).map u8v)) := Lib.hid (by rw [HS.out]; simpa using hod)
         have HKC := Lib.hid (((Kp.refl (fun i => base ≤ i) wr).alloc _).trans' hkd fun i hi he => by have := HO2.out.lt i he.symm; omega)
         clear hod hkd hat)))
    exact HHK.out _ _ _ _ _ _ _ _ _ _ _ _ _ _ _ _ HOC.out HKC.out
  · go_wp2_with (first
      | (at_builtin; go_loud (
         refine wpList_app rfl (.tmp 45) (.tmp 53) 24 rfl appByte rfl (HO2.out.alloc _) rfl (news := [u8v (UInt8.ofNat (8 * bs.length / 2 ^ (56 - 8 * 7)))]) (Src.one ((alloc_one_cell _ _ _).trans (congrArg some (byte_cell (by simp only [Nat.reducePow, Nat.reduceMul, Nat.reduceSub]; omega))))) (by intro u hu; simp at hu; subst hu; rfl) (fun x => by cases x) (by rw [HL2.out]; omega) (by simp; omega) ?_
         intro vd wd hod hkd hat
         have HOC : Hid (Own wd base 5 vd ((shaPre bs k ++ (be64 (8 * bs.length)).take (7 + 1)).map u8v)) := Lib.hid (by rw [HS.out]; simpa using hod)
         have HKC := Lib.hid (((Kp.refl (fun i => base ≤ i) wr).alloc _).trans' hkd fun i hi he => by have := HO2.out.lt i he.symm; omega)
         clear hod hkd hat)))
    exact HHK.out _ _ _ _ _ _ _ _ _ _ _ _ _ _ _ _ HOC.out HKC.out
set_option maxRecDepth 1000000 in
set_option maxHeartbeats 40000000 in
theorem outRound (x0 x1 x2 x3 x4 x5 x6 x7 x8 x9 x10 x11 x12 x13 x14 x15 x16 x17 x18 x19 x20 x21 x22 x23 x25 x26 x27 x28 x29 x30 x31 x32 x33 x34 x35 x36 x37 x38 x39 x40 x41 x42 x43 x44 x45 x46 x47 x48 x49 x50 x51 x52 x53 x54 x55 x56 x57 x58 x59 x60 x61 x62 x63 x64 x65 x66 x67 x68 x69 x70 x71 x72 x73 x74 x75 x76 x77 x78 x79 x80 x81 x82 x83 x84 x85 x86 x87 x88 x89 x90 x91 x92 x93 x94 x95 x96 x97 x98 x99 x100 x101 x102 x103 x104 x105 x106 x107 x108 x109 x110 x111 x112 x113 x114 x115 x116 x117 x118 x119 x120 x121 x122 x123 x124 x125 x126 x127 x128 x129 x130 x131 x132 x133 x134 x135 x136 x137 x138 x139 x140 x141 x142 x143 x144 x145 x146 x147 x148 x149 x150 x151 x152 x153 x154 x155 x156 x157 x158 x159 x160 x161 x162 x163 x164 x165 x166 x167 x168 x169 x170 x171 x172 x173 x174 x175 x176 x177 x178 x179 x180 x181 x182 x183 x184 x185 x186 x187 x188 x189 x190 x191 x192 x193 x194 x195 x196 x197 x198 x199 x200 x201 x202 x203 x204 x205 x206 x207 x208 x209 x210 x211 x212 x213 x214 x215 x216 x217 x218 x219 x220 x221 x222 x223 x224 x225 x226 x227 x228 x229 x230 x231 x232 x233 x234 x235 x236 x237 x238 x239 x240 x241 x242 x243 x244 x245 x246 x247 x248 x249 x250 x251 x252 x253 x254 x255 x256 x257 x258 x259 x260 x261 x262 x263 x264 x265 x266 x267 x268 x269 x270 x271 x272 x273 x274 x275 x276 x277 x278 x279 x282 x283 x284 x285 x286 x287 x288 x289 x290 x291 x292 x293 x294 x295 x296 x297 x298 x299 : Value) (v : Value) (t base : Nat) (R : St) (wr : World) (K : Act → World → Prop) (Q0 : Exit → Act → World → Prop) (ht8 : t < 8)
    (hown : Own wr base 5 v (((R.list.take t).flatMap be32).map u8v)) (hbase : base ≤ wr.heap.size)
    (hK : ∀ (u24 u26 u282 u283 u284 u285 u286 u287 u288 u289 u290 u291 u292 u293 u294 u295 u296 u297 u298 : Value) (wd : World), Own wd base 5 u24 (((R.list.take (t + 1)).flatMap be32).map u8v) → Kp (fun i => base ≤ i) wr wd → K ⟨#[x0, x1, x2, x3, x4, x5, x6, x7, x8, x9, x10, x11, x12, x13, x14, x15, x16, x17, x18, x19, x20, x21, x22, x23, u24, x25, u26, x27, x28, x29, x30, x31, x32, x33, x34, x35, x36, x37, x38, x39, x40, x41, x42, x43, x44, x45, x46, x47, x48, x49, x50, x51, x52, x53, x54, x55, x56, x57, x58, x59, x60, x61, x62, x63, x64, x65, x66, x67, x68, x69, x70, x71, x72, x73, x74, x75, x76, x77, x78, x79, x80, x81, x82, x83, x84, x85, x86, x87, x88, x89, x90, x91, x92, x93, x94, x95, x96, x97, x98, x99, x100, x101, x102, x103, x104, x105, x106, x107, x108, x109, x110, x111, x112, x113, x114, x115, x116, x117, x118, x119, x120, x121, x122, x123, x124, x125, x126, x127, x128, x129, x130, x131, x132, x133, x134, x135, x136, x137, x138, x139, x140, x141, x142, x143, x144, x145, x146, x147, x148, x149, x150, x151, x152, x153, x154, x155, x156, x157, x158, x159, x160, x161, x162, x163, x164, x165, x166, x167, x168, x169, x170, x171, x172, x173, x174, x175, x176, x177, x178, x179, x180, x181, x182, x183, x184, x185, x186, x187, x188, x189, x190, x191, x192, x193, x194, x195, x196, x197, x198, x199, x200, x201, x202, x203, x204, x205, x206, x207, x208, x209, x210, x211, x212, x213, x214, x215, x216, x217, x218, x219, x220, x221, x222, x223, x224, x225, x226, x227, x228, x229, x230, x231, x232, x233, x234, x235, x236, x237, x238, x239, x240, x241, x242, x243, x244, x245, x246, x247, x248, x249, x250, x251, x252, x253, x254, x255, x256, x257, x258, x259, x260, x261, x262, x263, x264, x265, x266, x267, x268, x269, x270, x271, x272, x273, x274, x275, x276, x277, x278, x279, .agg #[u32v R.a, u32v R.b, u32v R.c, u32v R.d, u32v R.e, u32v R.f, u32v R.g, u32v R.h], .int .i64 ((t : Int) + 1), u282, u283, u284, u285, u286, u287, u288, u289, u290, u291, u292, u293, u294, u295, u296, u297, u298, x299], []⟩ wd) :
    Code.wp Tryz.prog (loopN 8) (Exit.then K Q0) ⟨#[x0, x1, x2, x3, x4, x5, x6, x7, x8, x9, x10, x11, x12, x13, x14, x15, x16, x17, x18, x19, x20, x21, x22, x23, v, x25, x26, x27, x28, x29, x30, x31, x32, x33, x34, x35, x36, x37, x38, x39, x40, x41, x42, x43, x44, x45, x46, x47, x48, x49, x50, x51, x52, x53, x54, x55, x56, x57, x58, x59, x60, x61, x62, x63, x64, x65, x66, x67, x68, x69, x70, x71, x72, x73, x74, x75, x76, x77, x78, x79, x80, x81, x82, x83, x84, x85, x86, x87, x88, x89, x90, x91, x92, x93, x94, x95, x96, x97, x98, x99, x100, x101, x102, x103, x104, x105, x106, x107, x108, x109, x110, x111, x112, x113, x114, x115, x116, x117, x118, x119, x120, x121, x122, x123, x124, x125, x126, x127, x128, x129, x130, x131, x132, x133, x134, x135, x136, x137, x138, x139, x140, x141, x142, x143, x144, x145, x146, x147, x148, x149, x150, x151, x152, x153, x154, x155, x156, x157, x158, x159, x160, x161, x162, x163, x164, x165, x166, x167, x168, x169, x170, x171, x172, x173, x174, x175, x176, x177, x178, x179, x180, x181, x182, x183, x184, x185, x186, x187, x188, x189, x190, x191, x192, x193, x194, x195, x196, x197, x198, x199, x200, x201, x202, x203, x204, x205, x206, x207, x208, x209, x210, x211, x212, x213, x214, x215, x216, x217, x218, x219, x220, x221, x222, x223, x224, x225, x226, x227, x228, x229, x230, x231, x232, x233, x234, x235, x236, x237, x238, x239, x240, x241, x242, x243, x244, x245, x246, x247, x248, x249, x250, x251, x252, x253, x254, x255, x256, x257, x258, x259, x260, x261, x262, x263, x264, x265, x266, x267, x268, x269, x270, x271, x272, x273, x274, x275, x276, x277, x278, x279, .agg #[u32v R.a, u32v R.b, u32v R.c, u32v R.d, u32v R.e, u32v R.f, u32v R.g, u32v R.h], .int .i64 (t : Int), x282, x283, x284, x285, x286, x287, x288, x289, x290, x291, x292, x293, x294, x295, x296, x297, x298, x299], []⟩ wr := by
  have HV := Lib.hid hown
  have HHK := Lib.hid hK
  clear hown hK
  have htl : (((R.list.take t).flatMap be32).map u8v).length = 4 * t := by
    obtain rfl | rfl | rfl | rfl | rfl | rfl | rfl | rfl : t = 0 ∨ t = 1 ∨ t = 2 ∨ t = 3 ∨ t = 4 ∨ t = 5 ∨ t = 6 ∨ t = 7 := by omega
    all_goals rfl
  have HTL := Lib.hid htl
  clear htl
  have AI : ∀ w, (Instr.index 66 (.agg #[u32v R.a, u32v R.b, u32v R.c, u32v R.d, u32v R.e, u32v R.f, u32v R.g, u32v R.h]) (.int .i64 0)).run Tryz.prog w = .ok (u32v R.a) w := fun _ => by kernel_rfl
  have AI1 : ∀ w, (Instr.index 66 (.agg #[u32v R.a, u32v R.b, u32v R.c, u32v R.d, u32v R.e, u32v R.f, u32v R.g, u32v R.h]) (.int .i64 1)).run Tryz.prog w = .ok (u32v R.b) w := fun _ => by kernel_rfl
  have AI2 : ∀ w, (Instr.index 66 (.agg #[u32v R.a, u32v R.b, u32v R.c, u32v R.d, u32v R.e, u32v R.f, u32v R.g, u32v R.h]) (.int .i64 2)).run Tryz.prog w = .ok (u32v R.c) w := fun _ => by kernel_rfl
  have AI3 : ∀ w, (Instr.index 66 (.agg #[u32v R.a, u32v R.b, u32v R.c, u32v R.d, u32v R.e, u32v R.f, u32v R.g, u32v R.h]) (.int .i64 3)).run Tryz.prog w = .ok (u32v R.d) w := fun _ => by kernel_rfl
  have AI4 : ∀ w, (Instr.index 66 (.agg #[u32v R.a, u32v R.b, u32v R.c, u32v R.d, u32v R.e, u32v R.f, u32v R.g, u32v R.h]) (.int .i64 4)).run Tryz.prog w = .ok (u32v R.e) w := fun _ => by kernel_rfl
  have AI5 : ∀ w, (Instr.index 66 (.agg #[u32v R.a, u32v R.b, u32v R.c, u32v R.d, u32v R.e, u32v R.f, u32v R.g, u32v R.h]) (.int .i64 5)).run Tryz.prog w = .ok (u32v R.f) w := fun _ => by kernel_rfl
  have AI6 : ∀ w, (Instr.index 66 (.agg #[u32v R.a, u32v R.b, u32v R.c, u32v R.d, u32v R.e, u32v R.f, u32v R.g, u32v R.h]) (.int .i64 6)).run Tryz.prog w = .ok (u32v R.g) w := fun _ => by kernel_rfl
  have AI7 : ∀ w, (Instr.index 66 (.agg #[u32v R.a, u32v R.b, u32v R.c, u32v R.d, u32v R.e, u32v R.f, u32v R.g, u32v R.h]) (.int .i64 7)).run Tryz.prog w = .ok (u32v R.h) w := fun _ => by kernel_rfl
  conv => arg 2; whnf
  obtain rfl | rfl | rfl | rfl | rfl | rfl | rfl | rfl : t = 0 ∨ t = 1 ∨ t = 2 ∨ t = 3 ∨ t = 4 ∨ t = 5 ∨ t = 6 ∨ t = 7 := by omega
  · go_wp2_with (first
      | (at_builtin; go_loud (
         refine wpList_app rfl (.tmp 284) (.tmp 296) 24 rfl appByte rfl (HV.out.alloc _) rfl (src4 _ _ R.a (by have := w_shr24 R.a; have := R.a.isLt; omega) (by have := w_shr16 R.a; omega) (by have := w_shr8 R.a; omega) (by omega)) (u8v_one _) (fun x => by cases x) (by rw [HTL.out]; omega) (by simp; omega) ?_
         intro vd wd hod hkd hat
         have HOC : Hid (Own wd base 5 vd (((R.list.take (0 + 1)).flatMap be32).map u8v)) := Lib.hid hod
         have HKC := Lib.hid (((Kp.refl (fun i => base ≤ i) wr).alloc _).trans' hkd fun i hi he => by have := HV.out.lt i he.symm; omega)
         clear hod hkd hat)))
    exact HHK.out _ _ _ _ _ _ _ _ _ _ _ _ _ _ _ _ _ _ _ _ HOC.out HKC.out
  · go_wp2_with (first
      | (at_builtin; go_loud (
         refine wpList_app rfl (.tmp 284) (.tmp 296) 24 rfl appByte rfl (HV.out.alloc _) rfl (src4 _ _ R.b (by have := w_shr24 R.b; have := R.b.isLt; omega) (by have := w_shr16 R.b; omega) (by have := w_shr8 R.b; omega) (by omega)) (u8v_one _) (fun x => by cases x) (by rw [HTL.out]; omega) (by simp; omega) ?_
         intro vd wd hod hkd hat
         have HOC : Hid (Own wd base 5 vd (((R.list.take (1 + 1)).flatMap be32).map u8v)) := Lib.hid hod
         have HKC := Lib.hid (((Kp.refl (fun i => base ≤ i) wr).alloc _).trans' hkd fun i hi he => by have := HV.out.lt i he.symm; omega)
         clear hod hkd hat)))
    exact HHK.out _ _ _ _ _ _ _ _ _ _ _ _ _ _ _ _ _ _ _ _ HOC.out HKC.out
  · go_wp2_with (first
      | (at_builtin; go_loud (
         refine wpList_app rfl (.tmp 284) (.tmp 296) 24 rfl appByte rfl (HV.out.alloc _) rfl (src4 _ _ R.c (by have := w_shr24 R.c; have := R.c.isLt; omega) (by have := w_shr16 R.c; omega) (by have := w_shr8 R.c; omega) (by omega)) (u8v_one _) (fun x => by cases x) (by rw [HTL.out]; omega) (by simp; omega) ?_
         intro vd wd hod hkd hat
         have HOC : Hid (Own wd base 5 vd (((R.list.take (2 + 1)).flatMap be32).map u8v)) := Lib.hid hod
         have HKC := Lib.hid (((Kp.refl (fun i => base ≤ i) wr).alloc _).trans' hkd fun i hi he => by have := HV.out.lt i he.symm; omega)
         clear hod hkd hat)))
    exact HHK.out _ _ _ _ _ _ _ _ _ _ _ _ _ _ _ _ _ _ _ _ HOC.out HKC.out
  · go_wp2_with (first
      | (at_builtin; go_loud (
         refine wpList_app rfl (.tmp 284) (.tmp 296) 24 rfl appByte rfl (HV.out.alloc _) rfl (src4 _ _ R.d (by have := w_shr24 R.d; have := R.d.isLt; omega) (by have := w_shr16 R.d; omega) (by have := w_shr8 R.d; omega) (by omega)) (u8v_one _) (fun x => by cases x) (by rw [HTL.out]; omega) (by simp; omega) ?_
         intro vd wd hod hkd hat
         have HOC : Hid (Own wd base 5 vd (((R.list.take (3 + 1)).flatMap be32).map u8v)) := Lib.hid hod
         have HKC := Lib.hid (((Kp.refl (fun i => base ≤ i) wr).alloc _).trans' hkd fun i hi he => by have := HV.out.lt i he.symm; omega)
         clear hod hkd hat)))
    exact HHK.out _ _ _ _ _ _ _ _ _ _ _ _ _ _ _ _ _ _ _ _ HOC.out HKC.out
  · go_wp2_with (first
      | (at_builtin; go_loud (
         refine wpList_app rfl (.tmp 284) (.tmp 296) 24 rfl appByte rfl (HV.out.alloc _) rfl (src4 _ _ R.e (by have := w_shr24 R.e; have := R.e.isLt; omega) (by have := w_shr16 R.e; omega) (by have := w_shr8 R.e; omega) (by omega)) (u8v_one _) (fun x => by cases x) (by rw [HTL.out]; omega) (by simp; omega) ?_
         intro vd wd hod hkd hat
         have HOC : Hid (Own wd base 5 vd (((R.list.take (4 + 1)).flatMap be32).map u8v)) := Lib.hid hod
         have HKC := Lib.hid (((Kp.refl (fun i => base ≤ i) wr).alloc _).trans' hkd fun i hi he => by have := HV.out.lt i he.symm; omega)
         clear hod hkd hat)))
    exact HHK.out _ _ _ _ _ _ _ _ _ _ _ _ _ _ _ _ _ _ _ _ HOC.out HKC.out
  · go_wp2_with (first
      | (at_builtin; go_loud (
         refine wpList_app rfl (.tmp 284) (.tmp 296) 24 rfl appByte rfl (HV.out.alloc _) rfl (src4 _ _ R.f (by have := w_shr24 R.f; have := R.f.isLt; omega) (by have := w_shr16 R.f; omega) (by have := w_shr8 R.f; omega) (by omega)) (u8v_one _) (fun x => by cases x) (by rw [HTL.out]; omega) (by simp; omega) ?_
         intro vd wd hod hkd hat
         have HOC : Hid (Own wd base 5 vd (((R.list.take (5 + 1)).flatMap be32).map u8v)) := Lib.hid hod
         have HKC := Lib.hid (((Kp.refl (fun i => base ≤ i) wr).alloc _).trans' hkd fun i hi he => by have := HV.out.lt i he.symm; omega)
         clear hod hkd hat)))
    exact HHK.out _ _ _ _ _ _ _ _ _ _ _ _ _ _ _ _ _ _ _ _ HOC.out HKC.out
  · go_wp2_with (first
      | (at_builtin; go_loud (
         refine wpList_app rfl (.tmp 284) (.tmp 296) 24 rfl appByte rfl (HV.out.alloc _) rfl (src4 _ _ R.g (by have := w_shr24 R.g; have := R.g.isLt; omega) (by have := w_shr16 R.g; omega) (by have := w_shr8 R.g; omega) (by omega)) (u8v_one _) (fun x => by cases x) (by rw [HTL.out]; omega) (by simp; omega) ?_
         intro vd wd hod hkd hat
         have HOC : Hid (Own wd base 5 vd (((R.list.take (6 + 1)).flatMap be32).map u8v)) := Lib.hid hod
         have HKC := Lib.hid (((Kp.refl (fun i => base ≤ i) wr).alloc _).trans' hkd fun i hi he => by have := HV.out.lt i he.symm; omega)
         clear hod hkd hat)))
    exact HHK.out _ _ _ _ _ _ _ _ _ _ _ _ _ _ _ _ _ _ _ _ HOC.out HKC.out
  · go_wp2_with (first
      | (at_builtin; go_loud (
         refine wpList_app rfl (.tmp 284) (.tmp 296) 24 rfl appByte rfl (HV.out.alloc _) rfl (src4 _ _ R.h (by have := w_shr24 R.h; have := R.h.isLt; omega) (by have := w_shr16 R.h; omega) (by have := w_shr8 R.h; omega) (by omega)) (u8v_one _) (fun x => by cases x) (by rw [HTL.out]; omega) (by simp; omega) ?_
         intro vd wd hod hkd hat
         have HOC : Hid (Own wd base 5 vd (((R.list.take (7 + 1)).flatMap be32).map u8v)) := Lib.hid hod
         have HKC := Lib.hid (((Kp.refl (fun i => base ≤ i) wr).alloc _).trans' hkd fun i hi he => by have := HV.out.lt i he.symm; omega)
         clear hod hkd hat)))
    exact HHK.out _ _ _ _ _ _ _ _ _ _ _ _ _ _ _ _ _ _ _ _ HOC.out HKC.out
end Go.Proofs.YtfodkjpjejoemaaGreatDoor
