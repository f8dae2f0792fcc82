
/-
  The words' turns: RotateLeft32 by so many back, the specification's turn.
  Conditions: none.
-/
import Derived.Test.YtfodkjpjejoemaaGreatDoorZa
import Derived.Deep.QuietTactic
import Derived.BigQuiet
import Derived.Laws.Rows
import Derived.Deep.WholeRow
import Derived.StillTailTactics
import Derived.Deep.RegionHeld3
import Derived.Deep.DrawnRows
namespace Go.Proofs.YtfodkjpjejoemaaGreatDoor
open Go Go.RowKit

theorem rotl_any (x : W32) (n : Nat) (w : World) (h0 : 0 < n) (h : n < 32) :
    Calls Tryz.prog 103 #[u32v x, .int .i64 (-(n : Int))] w fun e w' => e = .returned (u32v (rotr x n)) ∧ w = w' := by
  have hb := turn_bits n h0 h
  have hs : IntKind.u64.wrap (32 - ((32 - n : Nat) : Int)) = (n : Int) := by simp [IntKind.wrap, IntKind.bits, IntKind.signed]; omega
  unfold rotr
  rw [BitVec.or_comm]
  obtain ⟨m, hm⟩ : ∃ m, m = 32 - n := ⟨_, rfl⟩
  rw [← hm] at hb hs ⊢
  have hm2 : min m 32 = m := by omega
  have HM : Hid (m ≤ 32) := Lib.hid (by omega)
  clear hm
  go_enter Tryz.func103, Tryz.ntmps103
  go_wp2
  rw [w_shlF _ _ HM.out, w_shrF, w_or]
  go_ret
  exact ⟨rfl, rfl⟩
theorem turn_any (x : W32) (n : Nat) (w : World) (h0 : 0 < n) (h : n < 32) :
    Calls Tryz.prog 31 #[u32v x, .int .i64 n] w fun e w' => e = .returned (u32v (rotr x n)) ∧ ∃ m, w' = w.drewN m := by
  unfold rotr
  obtain ⟨m, hm⟩ : ∃ m, m = 32 - n := ⟨_, rfl⟩
  have hs : (32 : Int) - (n : Int) = (m : Int) := by omega
  rw [← hm]
  have HM : Hid (m ≤ 32) := Lib.hid (by omega)
  clear hm
  go_enter Tryz.func31, Tryz.ntmps31
  go_wp2
  go_quiet (fail)
  rw [w_shlF _ _ HM.out, w_shrF, w_or]
  go_wp2
  go_ret
  exact ⟨rfl, _, rfl⟩

set_option maxRecDepth 100000 in
theorem begin_any (w : World) :
    Calls Tryz.prog 29 #[] w fun e w' => e = .returned (.agg (shaIV.list.map u32v).toArray) ∧ Keep w w' := by
  go_enter Tryz.func29, Tryz.ntmps29
  go_wp2
  refine bodyPost_ret (v := .agg (shaIV.list.map u32v).toArray) (results_cell_row Tryz.results29 _ _ w.heap.size 66 _ (0, 0) _ (by simp) (heap_alloc_new _ _) Tryz.underlying66 rfl (by kernel_rfl)) rfl ⟨rfl, (Kp.refl _ _).alloc _⟩
set_option maxRecDepth 100000 in
set_option maxHeartbeats 1000000 in
theorem rounds_any (w : World) :
    Calls Tryz.prog 30 #[] w fun e w' => e = .returned (.agg (shaK.map u32v).toArray) ∧ Keep w w' := by
  go_enter Tryz.func30, Tryz.ntmps30
  go_wp2_with (first
    | (refine wpList_build rfl 68 _ rfl (by kernel_rfl) ?_; rw [show ((Tryz.prog.built 68 (Array.map _ _).toList).getD #[]) = (shaK.map u32v).toArray by kernel_rfl])
    | (refine wpList_store_row rfl 68 _ _ rfl w.heap.size (shaK.map u32v).toArray rfl rfl 68 _ (heap_alloc_new _ _) (by kernel_rfl) (by kernel_rfl) (by kernel_rfl) ?_))
  rw [World.setRow_alloc_new]
  exact bodyPost_ret (v := .agg (shaK.map u32v).toArray) (results_cell_row Tryz.results30 _ _ w.heap.size 68 _ (0, 0) _ rfl (heap_alloc_new _ _) Tryz.underlying68 rfl (by kernel_rfl)) rfl ⟨rfl, (Kp.refl _ _).alloc _⟩
end Go.Proofs.YtfodkjpjejoemaaGreatDoor

/-
  The specification's sum: one step of the schedule, one of the 64 rounds.
  Conditions: the frame is the function's own.
-/
namespace Go.Proofs.YtfodkjpjejoemaaGreatDoor
open Go Go.RowKit
attribute [local go_sem ↓] Go.wp_at_zero Go.wp_at_succ

def loopsOf : Code → List Code
  | .loop c => c :: loopsOf c
  | .seq a b => loopsOf a ++ loopsOf b
  | .block _ c => loopsOf c
  | .scope c => loopsOf c
  | .cond _ a b => loopsOf a ++ loopsOf b
  | _ => []
/-- the body of the function's loop number i -/
noncomputable def loopN (i : Nat) : Code := ((((Tryz.f17.body.map loopsOf).getD [])[i]?).getD .skip)

theorem appByte : AppOk Tryz.prog 24 5 1 := by
  obtain ⟨i0, hi, hz0, hz1, hz2⟩ := info_parts (show (Tryz.prog.info? 5).map (fun i => (i.zero, i.size, i.bytes)) = some (some (.int .u8 0), 1, 1) by kernel_rfl)
  exact ⟨Tryz.underlying24, by omega, i0, _, hi, hz0, hz1, hz2, rfl⟩
theorem appWord : AppOk Tryz.prog 72 65 4 := by
  obtain ⟨i0, hi, hz0, hz1, hz2⟩ := info_parts (show (Tryz.prog.info? 65).map (fun i => (i.zero, i.size, i.bytes)) = some (some (.int .u32 0), 1, 4) by kernel_rfl)
  exact ⟨Tryz.underlying72, by omega, i0, _, hi, hz0, hz1, hz2, rfl⟩
theorem byts_src {w : World} {A : Option Addr} {n c : Nat} {bs : List UInt8} (h : Byts w (.slice A n c) bs) : Src w A n (bs.map u8v) := Src.of_slc u8v (fun _ _ h => h) h

theorem u8v_one (bs : List UInt8) : ∀ u ∈ bs.map u8v, u.oneCell' = true := by
  intro u hu; obtain ⟨x, _, rfl⟩ := List.mem_map.1 hu; rfl
theorem u32v_one (L : List W32) : ∀ u ∈ L.map u32v, u.oneCell' = true := by
  intro u hu; obtain ⟨x, _, rfl⟩ := List.mem_map.1 hu; rfl
theorem Own.bytes {w : World} {base : Nat} {e : TypeId} {v : Value} {bs : List UInt8} (h : Own w base e v (bs.map u8v)) : Byts w v bs := Own.slc_map u8v h fun _ _ => rfl
/-- the message with k of its zeros -/
def shaPre (bs : List UInt8) (k : Nat) : List UInt8 := bs ++ 128 :: List.replicate k 0
theorem shaPre_length (bs : List UInt8) (k : Nat) : (shaPre bs k).length = bs.length + 1 + k := by simp [shaPre]; omega
theorem shaPre_zero (bs : List UInt8) : (shaPre bs 0).map u8v = bs.map u8v ++ [.int .u8 128] := by
  simp only [shaPre, List.replicate_zero, List.map_append, List.map_cons, List.map_nil]; rfl
theorem shaPre_succ (bs : List UInt8) (k : Nat) : (shaPre bs (k + 1)).map u8v = (shaPre bs k).map u8v ++ [.int .u8 0] := by
  simp [shaPre, List.replicate_succ']

theorem shaPad_eq (bs : List UInt8) : shaPre bs (shaZeros bs.length) ++ be64 (8 * bs.length) = shaPad bs := by simp [shaPre, shaPad, shaPadding]
theorem w_add3F (a b c : W32) : ((a.toNat : Int) + (b.toNat : Int) + (c.toNat : Int)) % (4294967296 : Int) = ((a + b + c).toNat : Int) := by
  simp only [BitVec.toNat_add]; omega
theorem byteW_nat (x : UInt8) : (x.toNat : Int) = ((byteW x).toNat : Int) := by
  unfold byteW
  rw [BitVec.toNat_ofNat, Nat.mod_eq_of_lt (by have := x.toNat_lt; omega)]
theorem byteW_mod (x : UInt8) : (x.toNat : Int) % (4294967296 : Int) = ((byteW x).toNat : Int) := by
  unfold byteW
  rw [BitVec.toNat_ofNat]; rfl
theorem arr_src {w : World} {g : Nat} {t : TypeId} {L : List W32} {n : Nat} (h : Arr w g t L) (hn : L.length = n) : Src w (some ⟨g, 0, none⟩) n (L.map u32v) := by
  refine ⟨by simpa using hn, fun _ => ⟨_, rfl, fun j u hj => ?_⟩⟩
  have e : (⟨g, 0, none⟩ : Addr).add j = ⟨g, j, none⟩ := by unfold Addr.add; split <;> simp_all
  rw [e, cell_of_row _ _ _ _ _ _ h]
  simpa using hj
theorem Kp.world {S : Nat → Prop} {w w' w'' : World} (h : Kp S w w') (e1 : w''.os = w'.os) (e2 : w''.tape = w'.tape) (e3 : w''.output = w'.output) (e4 : w''.heap = w'.heap) : Kp S w w'' :=
  ⟨e1.trans h.os, e2.trans h.tape, e3.trans h.output, by rw [e4]; exact h.size, fun i hi hs => by rw [e4]; exact h.block i hi hs⟩
theorem turn_quiet (x : W32) (n q : Nat) (w : World) (h0 : 0 < n) (h : n < 32) :
    Calls Tryz.prog 31 #[u32v x, .int .i64 n] (w.drewN q) fun e w' => e = .returned (u32v (rotr x n)) ∧ ∃ m, w' = w.drewN m :=
  (turn_any x n (w.drewN q) h0 h).mono fun _ _ ⟨he, m, hm⟩ => ⟨he, q + m, by rw [hm, World.drewN_drewN]⟩
theorem turn_quiet2 (x : W32) (n a q : Nat) (w : World) (h0 : 0 < n) (h : n < 32) :
    Calls Tryz.prog 31 #[u32v x, .int .i64 n] (w.drewN (a + q)) fun e w' => e = .returned (u32v (rotr x n)) ∧ ∃ m, w' = w.drewN (a + m) :=
  (turn_any x n (w.drewN (a + q)) h0 h).mono fun _ _ ⟨he, m, hm⟩ => ⟨he, q + m, by rw [hm, World.drewN_drewN, Nat.add_assoc]⟩
theorem byte_cell {n : Int} {x : Nat} (h : n = ((x % 256 : Nat) : Int)) : Value.int .u8 n = u8v (UInt8.ofNat x) := by
  subst h; simp [UInt8.toNat_ofNat']
theorem src4 (w : World) (t : TypeId) (x : W32) {n0 n1 n2 n3 : Int} (h0 : n0 = (((x >>> 24).toNat % 256 : Nat) : Int)) (h1 : n1 = (((x >>> 16).toNat % 256 : Nat) : Int)) (h2 : n2 = (((x >>> 8).toNat % 256 : Nat) : Int)) (h3 : n3 = ((x.toNat % 256 : Nat) : Int)) :
    Src (w.alloc (.cells #[.int .u8 n0, .int .u8 n1, .int .u8 n2, .int .u8 n3] t)) (some ⟨w.heap.size, 0, none⟩) 4 ((be32 x).map u8v) := by
  rw [byte_cell h0, byte_cell h1, byte_cell h2, byte_cell h3]
  refine ⟨rfl, fun _ => ⟨_, rfl, fun j u hj => ?_⟩⟩
  have e : (⟨w.heap.size, 0, none⟩ : Addr).add j = ⟨w.heap.size, j, none⟩ := by unfold Addr.add; split <;> simp_all
  rw [e, cell_of_row _ _ _ _ _ _ (heap_alloc_new _ _)]
  simpa [be32] using hj
theorem alloc_one_cell (w : World) (t : TypeId) (u : Value) : (w.alloc (.cells #[u] t)).cell? ⟨w.heap.size, 0, none⟩ = some u := by simp
theorem len_byte (n i : Nat) (_ : n ≤ 4294967296) : ((8 * n / 2 ^ i : Nat) : Int) % 256 = ((UInt8.ofNat (8 * n / 2 ^ i)).toNat : Int) := by
  rw [UInt8.toNat_ofNat']; omega

set_option maxRecDepth 1000000 in
set_option maxHeartbeats 40000000 in
theorem schedRound (x0 x1 x2 x3 x4 x5 x6 x7 x9 x11 x12 x14 x15 x16 x17 x18 x19 x20 x21 x22 x23 x24 x25 x26 x27 x28 x29 x30 x31 x32 x33 x34 x35 x36 x37 x38 x39 x40 x41 x42 x43 x44 x45 x46 x47 x48 x49 x50 x51 x52 x53 x54 x55 x56 x57 x58 x59 x60 x61 x62 x63 x64 x65 x66 x67 x68 x69 x70 x71 x72 x73 x74 x75 x76 x77 x78 x79 x80 x81 x82 x83 x84 x85 x86 x87 x88 x89 x90 x91 x92 x93 x94 x95 x96 x97 x98 x99 x100 x101 x102 x103 x104 x105 x106 x107 x108 x109 x110 x111 x112 x113 x114 x115 x116 x117 x118 x119 x120 x121 x122 x123 x124 x125 x126 x127 x128 x129 x130 x131 x132 x133 x134 x135 x136 x137 x138 x139 x140 x141 x142 x143 x144 x145 x146 x147 x148 x149 x150 x151 x152 x153 x154 x155 x156 x157 x158 x159 x160 x161 x162 x163 x164 x165 x166 x167 x168 x169 x170 x171 x172 x173 x174 x175 x176 x177 x178 x179 x180 x181 x182 x183 x184 x185 x186 x187 x188 x189 x190 x191 x192 x193 x194 x195 x196 x197 x198 x199 x200 x201 x202 x203 x204 x205 x206 x207 x208 x209 x210 x211 x212 x213 x214 x215 x216 x217 x218 x219 x220 x221 x222 x223 x224 x225 x226 x227 x228 x229 x230 x231 x232 x233 x234 x235 x236 x237 x238 x239 x240 x241 x242 x243 x244 x245 x246 x247 x248 x249 x250 x251 x252 x253 x254 x255 x256 x257 x258 x259 x260 x261 x262 x263 x264 x265 x266 x267 x268 x269 x270 x271 x272 x273 x274 x275 x276 x277 x278 x279 x280 x281 x282 x283 x284 x285 x286 x287 x288 x289 x290 x291 x292 x293 x294 x295 x296 x297 x298 x299 : Value) (q bz : Nat) (p : List UInt8) (wr : World) (K : Act → World → Prop) (Q0 : Exit → Act → World → Prop) (hq1 : 16 ≤ q) (hq64 : q < 64) (hW : Arr wr bz 68 (shaWz p q))
    (hK : ∀ (u14 u15 u87 u88 u89 u90 u91 u92 u93 u94 u95 u96 u97 u98 u99 u100 u101 u102 u103 u104 u105 u106 u107 u108 u109 u110 u111 u112 u113 u114 u115 u116 u117 u118 u119 u120 u121 u122 u123 u124 u125 u126 u127 u128 u129 u130 u131 u132 u133 u134 u135 u136 u137 u138 u139 u140 u141 u142 u143 : Value) (wd : World), Arr wd bz 68 (shaWz p (q + 1)) → Kp (fun i => i = bz) wr wd → K ⟨#[x0, x1, x2, x3, x4, x5, x6, x7, .func (.func 31) #[] #[], x9, .pointer (some ⟨bz, 0, none⟩), x11, x12, .int .i64 ((q : Int) + 1), u14, u15, x16, x17, x18, x19, x20, x21, x22, x23, x24, x25, x26, x27, x28, x29, x30, x31, x32, x33, x34, x35, x36, x37, x38, x39, x40, x41, x42, x43, x44, x45, x46, x47, x48, x49, x50, x51, x52, x53, x54, x55, x56, x57, x58, x59, x60, x61, x62, x63, x64, x65, x66, x67, x68, x69, x70, x71, x72, x73, x74, x75, x76, x77, x78, x79, x80, x81, x82, x83, x84, x85, x86, u87, u88, u89, u90, u91, u92, u93, u94, u95, u96, u97, u98, u99, u100, u101, u102, u103, u104, u105, u106, u107, u108, u109, u110, u111, u112, u113, u114, u115, u116, u117, u118, u119, u120, u121, u122, u123, u124, u125, u126, u127, u128, u129, u130, u131, u132, u133, u134, u135, u136, u137, u138, u139, u140, u141, u142, u143, x144, x145, x146, x147, x148, x149, x150, x151, x152, x153, x154, x155, x156, x157, x158, x159, x160, x161, x162, x163, x164, x165, x166, x167, x168, x169, x170, x171, x172, x173, x174, x175, x176, x177, x178, x179, x180, x181, x182, x183, x184, x185, x186, x187, x188, x189, x190, x191, x192, x193, x194, x195, x196, x197, x198, x199, x200, x201, x202, x203, x204, x205, x206, x207, x208, x209, x210, x211, x212, x213, x214, x215, x216, x217, x218, x219, x220, x221, x222, x223, x224, x225, x226, x227, x228, x229, x230, x231, x232, x233, x234, x235, x236, x237, x238, x239, x240, x241, x242, x243, x244, x245, x246, x247, x248, x249, x250, x251, x252, x253, x254, x255, x256, x257, x258, x259, x260, x261, x262, x263, x264, x265, x266, x267, x268, x269, x270, x271, x272, x273, x274, x275, x276, x277, x278, x279, x280, x281, x282, x283, x284, x285, x286, x287, x288, x289, x290, x291, x292, x293, x294, x295, x296, x297, x298, x299], []⟩ wd) :
    Code.wp Tryz.prog (loopN 5) (Exit.then K Q0) ⟨#[x0, x1, x2, x3, x4, x5, x6, x7, .func (.func 31) #[] #[], x9, .pointer (some ⟨bz, 0, none⟩), x11, x12, .int .i64 (q : Int), x14, x15, x16, x17, x18, x19, x20, x21, x22, x23, x24, x25, x26, x27, x28, x29, x30, x31, x32, x33, x34, x35, x36, x37, x38, x39, x40, x41, x42, x43, x44, x45, x46, x47, x48, x49, x50, x51, x52, x53, x54, x55, x56, x57, x58, x59, x60, x61, x62, x63, x64, x65, x66, x67, x68, x69, x70, x71, x72, x73, x74, x75, x76, x77, x78, x79, x80, x81, x82, x83, x84, x85, x86, x87, x88, x89, x90, x91, x92, x93, x94, x95, x96, x97, x98, x99, x100, x101, x102, x103, x104, x105, x106, x107, x108, x109, x110, x111, x112, x113, x114, x115, x116, x117, x118, x119, x120, x121, x122, x123, x124, x125, x126, x127, x128, x129, x130, x131, x132, x133, x134, x135, x136, x137, x138, x139, x140, x141, x142, x143, x144, x145, x146, x147, x148, x149, x150, x151, x152, x153, x154, x155, x156, x157, x158, x159, x160, x161, x162, x163, x164, x165, x166, x167, x168, x169, x170, x171, x172, x173, x174, x175, x176, x177, x178, x179, x180, x181, x182, x183, x184, x185, x186, x187, x188, x189, x190, x191, x192, x193, x194, x195, x196, x197, x198, x199, x200, x201, x202, x203, x204, x205, x206, x207, x208, x209, x210, x211, x212, x213, x214, x215, x216, x217, x218, x219, x220, x221, x222, x223, x224, x225, x226, x227, x228, x229, x230, x231, x232, x233, x234, x235, x236, x237, x238, x239, x240, x241, x242, x243, x244, x245, x246, x247, x248, x249, x250, x251, x252, x253, x254, x255, x256, x257, x258, x259, x260, x261, x262, x263, x264, x265, x266, x267, x268, x269, x270, x271, x272, x273, x274, x275, x276, x277, x278, x279, x280, x281, x282, x283, x284, x285, x286, x287, x288, x289, x290, x291, x292, x293, x294, x295, x296, x297, x298, x299], []⟩ wr := by
  have HW := Lib.hid hW
  have HKQ : Hid (Kp (fun i => i = bz) wr wr) := Lib.hid (Kp.refl _ _)
  have HHK := Lib.hid hK
  have hq2 : q ≤ 64 := by omega
  clear hW hK
  have y2 := HW.out.cell (q - 2) (by rw [shaWz_length _ _ hq2]; omega)
  have y7 := HW.out.cell (q - 7) (by rw [shaWz_length _ _ hq2]; omega)
  have y15 := HW.out.cell (q - 15) (by rw [shaWz_length _ _ hq2]; omega)
  have y16 := HW.out.cell (q - 16) (by rw [shaWz_length _ _ hq2]; omega)
  rw [shaWz_getD _ _ _ (by omega)] at y2 y7 y15 y16
  have HNX := Lib.hid (show shaNext p (shaW p q) q = (shaW p q).getD (q - 16) 0 + smlS0 ((shaW p q).getD (q - 15) 0) + (shaW p q).getD (q - 7) 0 + smlS1 ((shaW p q).getD (q - 2) 0) by unfold shaNext; rw [if_neg (by omega)])
  generalize (shaW p q).getD (q - 2) 0 = x2 at y2 HNX
  generalize (shaW p q).getD (q - 7) 0 = x7 at y7 HNX
  generalize (shaW p q).getD (q - 15) 0 = x15 at y15 HNX
  generalize (shaW p q).getD (q - 16) 0 = x16 at y16 HNX
  obtain ⟨q2, e2⟩ : ∃ q2, q2 = q - 2 := ⟨_, rfl⟩
  obtain ⟨q7, e7⟩ : ∃ q7, q7 = q - 7 := ⟨_, rfl⟩
  obtain ⟨q15, e15⟩ : ∃ q15, q15 = q - 15 := ⟨_, rfl⟩
  obtain ⟨q16, e16⟩ : ∃ q16, q16 = q - 16 := ⟨_, rfl⟩
  rw [← e2] at y2
  rw [← e7] at y7
  rw [← e15] at y15
  rw [← e16] at y16
  have f2 : (q : Int) - 2 = (q2 : Int) := by omega
  have f7 : (q : Int) - 7 = (q7 : Int) := by omega
  have f15 : (q : Int) - 15 = (q15 : Int) := by omega
  have f16 : (q : Int) - 16 = (q16 : Int) := by omega
  have g2 : (q2 : Int) < 64 := by omega
  have g7 : (q7 : Int) < 64 := by omega
  have g15 : (q15 : Int) < 64 := by omega
  have g16 : (q16 : Int) < 64 := by omega
  have g0 : (q : Int) < 64 := by omega
  clear e2 e7 e15 e16
  conv => arg 2; whnf
  go_wp2
  have k7 : IntKind.i64.wrap ((q : Int) - 7) = (q7 : Int) := by rw [f7, IntKind.wrap_i64]; omega
  have k7' : IntKind.i64.wrap (q7 : Int) = (q7 : Int) := by rw [IntKind.wrap_i64]; omega
  have k16' : IntKind.i64.wrap (q16 : Int) = (q16 : Int) := by rw [IntKind.wrap_i64]; omega
  have k16 : IntKind.i64.wrap ((q : Int) - 16) = (q16 : Int) := by rw [f16, IntKind.wrap_i64]; omega
  have y0 := HW.out.frozen q
  obtain ⟨yc, y00⟩ : ∃ u, wr.cell? ⟨bz, q, none⟩ = some u := ⟨_, HW.out.cell q (by rw [shaWz_length _ _ hq2]; omega)⟩
  go_quiet ((go_at_call 31; exact turn_quiet _ _ _ _ (by decide) (by decide)))
  rw [w_shr3, w_xor, w_xor]
  go_wp2
  go_quiet ((go_at_call 31; exact turn_quiet2 _ _ _ _ _ (by decide) (by decide)))
  rw [w_shr10, w_xor, w_xor]
  try rw [World.drewN_drewN]
  go_wp2
  have HWD : Hid (∀ d, Arr (wr.drewN d) bz 68 (shaWz p q)) := Lib.hid fun d => HW.out
  have HKD : Hid (∀ d, Kp (fun i => i = bz) wr (wr.drewN d)) := Lib.hid fun d => HKQ.out.drewN d
  generalize hwd : wr.drewN _ = wd
  have HWD2 : Hid (Arr wd bz 68 (shaWz p q)) := Lib.hid (by rw [← hwd]; exact HWD.out _)
  have HKD2 : Hid (Kp (fun i => i = bz) wr wd) := Lib.hid (by rw [← hwd]; exact HKD.out _)
  replace y7 : wd.cell? ⟨bz, q7, none⟩ = some (u32v x7) := by rw [← hwd]; exact y7
  replace y16 : wd.cell? ⟨bz, q16, none⟩ = some (u32v x16) := by rw [← hwd]; exact y16
  replace y0 : wd.frozen? ⟨bz, q, none⟩ = false := HWD2.out.frozen q
  replace y00 : wd.cell? ⟨bz, q, none⟩ = some yc := by rw [← hwd]; exact y00
  clear hwd HWD HKD
  obtain ⟨m14, h14⟩ : ∃ m, m = smlS0 x15 := ⟨_, rfl⟩
  obtain ⟨m15, h15⟩ : ∃ m, m = smlS1 x2 := ⟨_, rfl⟩
  rw [show rotr x15 7 ^^^ rotr x15 18 ^^^ x15 >>> 3 = m14 from h14.symm, show rotr x2 17 ^^^ rotr x2 19 ^^^ x2 >>> 10 = m15 from h15.symm]
  have HNX2 : Hid (shaNext p (shaW p q) q = x16 + m14 + x7 + m15) := Lib.hid (by rw [HNX.out, h14, h15])
  clear h14 h15 HNX
  go_still_tail 15, (by kernel_rfl)
  change wpList _ _ _ _ _ wd.drew
  rw [w_add, w_add, w_add]
  obtain ⟨xw, hxw⟩ : ∃ x, x = x16 + m14 + x7 + m15 := ⟨_, rfl⟩
  rw [← hxw] at HNX2 ⊢
  clear hxw
  go_wp2
  have hfin := HWD2.out.set q (shaNext p (shaW p q) q)
  rw [shaWz_set p q hq64 _ rfl, HNX2.out] at hfin
  exact HHK.out _ _ _ _ _ _ _ _ _ _ _ _ _ _ _ _ _ _ _ _ _ _ _ _ _ _ _ _ _ _ _ _ _ _ _ _ _ _ _ _ _ _ _ _ _ _ _ _ _ _ _ _ _ _ _ _ _ _ _ _ hfin ((HKD2.out.setCell (p := ⟨bz, q, none⟩) (fun _ => rfl) _).world rfl rfl rfl rfl)
set_option maxRecDepth 1000000 in
set_option maxHeartbeats 40000000 in
theorem rndRound (x0 x1 x2 x3 x5 x6 x7 x9 x11 x12 x13 x14 x15 x17 x18 x19 x20 x21 x22 x23 x24 x25 x26 x27 x28 x29 x30 x31 x32 x33 x34 x35 x36 x37 x38 x39 x40 x41 x42 x43 x44 x45 x46 x47 x48 x49 x50 x51 x52 x53 x54 x55 x56 x57 x58 x59 x60 x61 x62 x63 x64 x65 x66 x67 x68 x69 x70 x71 x72 x73 x74 x75 x76 x77 x78 x79 x80 x81 x82 x83 x84 x85 x86 x87 x88 x89 x90 x91 x92 x93 x94 x95 x96 x97 x98 x99 x100 x101 x102 x103 x104 x105 x106 x107 x108 x109 x110 x111 x112 x113 x114 x115 x116 x117 x118 x119 x120 x121 x122 x123 x124 x125 x126 x127 x128 x129 x130 x131 x132 x133 x134 x135 x136 x137 x138 x139 x140 x141 x142 x143 x144 x145 x147 x148 x149 x150 x151 x152 x153 x154 x155 x156 x157 x158 x159 x160 x161 x162 x163 x164 x165 x166 x167 x168 x169 x170 x171 x172 x173 x174 x175 x176 x177 x178 x179 x180 x181 x182 x183 x184 x185 x186 x187 x188 x189 x190 x191 x192 x193 x194 x195 x196 x197 x198 x199 x200 x201 x202 x203 x204 x205 x206 x207 x208 x209 x210 x211 x212 x213 x214 x215 x216 x217 x218 x219 x220 x221 x222 x223 x224 x225 x226 x227 x228 x229 x230 x231 x232 x233 x234 x235 x236 x237 x238 x239 x240 x241 x242 x243 x244 x245 x246 x247 x248 x249 x250 x251 x252 x253 x254 x255 x256 x257 x258 x259 x260 x261 x262 x263 x264 x265 x266 x267 x268 x269 x270 x271 x272 x273 x274 x275 x276 x277 x278 x279 x280 x281 x282 x283 x284 x285 x286 x287 x288 x289 x290 x291 x292 x293 x294 x295 x296 x297 x298 x299 : Value) (t bz b2 gv cv base : Nat) (s : St) (kk ww : W32) (wr : World) (K : Act → World → Prop) (Q0 : Exit → Act → World → Prop) (ht64 : t < 64)
    (hz : ∀ i, i < 8 → wr.cell? ⟨gv, i, none⟩ = some (u32v (s.list.getD i 0))) (y1 : wr.cell? ⟨bz, t, none⟩ = some (u32v ww)) (y2 : wr.cell? ⟨b2, t, none⟩ = some (u32v kk)) (_ : 8 ≤ cv) (_ : cv ≤ 9223372036854775807) (hb : base ≤ wr.heap.size)
    (hK : ∀ (u16 u17 u18 u19 u20 u21 u22 u147 u148 u149 u150 u151 u152 u153 u154 u155 u156 u157 u158 u159 u160 u161 u162 u163 u164 u165 u166 u167 u168 u169 u170 u171 u172 u173 u174 u175 u176 u177 u178 u179 u180 u181 u182 u183 u184 u185 u186 u187 u188 u189 u190 u191 u192 u193 u194 u195 u196 u197 u198 u199 u200 u201 u202 u203 u204 u205 u206 u207 u208 u209 u210 u211 u212 u213 u214 u215 u216 u217 u218 u219 u220 u221 u222 u223 u224 u225 u226 u227 u228 u229 u230 u231 u232 u233 u234 u235 u236 u237 u238 u239 u240 u241 u242 u243 u244 u245 u246 u247 u248 u249 u250 u251 u252 u253 u254 u255 u256 u257 u258 u259 u260 u261 u262 u263 u264 u265 u266 : Value) (wd : World), Own wd base 65 u16 ((shaRnd kk ww s).list.map u32v) → Keep wr wd → K ⟨#[x0, x1, x2, x3, .pointer (some ⟨b2, 0, none⟩), x5, x6, x7, .func (.func 31) #[] #[], x9, .pointer (some ⟨bz, 0, none⟩), x11, x12, x13, x14, x15, u16, u17, u18, u19, u20, u21, u22, x23, x24, x25, x26, x27, x28, x29, x30, x31, x32, x33, x34, x35, x36, x37, x38, x39, x40, x41, x42, x43, x44, x45, x46, x47, x48, x49, x50, x51, x52, x53, x54, x55, x56, x57, x58, x59, x60, x61, x62, x63, x64, x65, x66, x67, x68, x69, x70, x71, x72, x73, x74, x75, x76, x77, x78, x79, x80, x81, x82, x83, x84, x85, x86, x87, x88, x89, x90, x91, x92, x93, x94, x95, x96, x97, x98, x99, x100, x101, x102, x103, x104, x105, x106, x107, x108, x109, x110, x111, x112, x113, x114, x115, x116, x117, x118, x119, x120, x121, x122, x123, x124, x125, x126, x127, x128, x129, x130, x131, x132, x133, x134, x135, x136, x137, x138, x139, x140, x141, x142, x143, x144, x145, .int .i64 ((t : Int) + 1), u147, u148, u149, u150, u151, u152, u153, u154, u155, u156, u157, u158, u159, u160, u161, u162, u163, u164, u165, u166, u167, u168, u169, u170, u171, u172, u173, u174, u175, u176, u177, u178, u179, u180, u181, u182, u183, u184, u185, u186, u187, u188, u189, u190, u191, u192, u193, u194, u195, u196, u197, u198, u199, u200, u201, u202, u203, u204, u205, u206, u207, u208, u209, u210, u211, u212, u213, u214, u215, u216, u217, u218, u219, u220, u221, u222, u223, u224, u225, u226, u227, u228, u229, u230, u231, u232, u233, u234, u235, u236, u237, u238, u239, u240, u241, u242, u243, u244, u245, u246, u247, u248, u249, u250, u251, u252, u253, u254, u255, u256, u257, u258, u259, u260, u261, u262, u263, u264, u265, u266, x267, x268, x269, x270, x271, x272, x273, x274, x275, x276, x277, x278, x279, x280, x281, x282, x283, x284, x285, x286, x287, x288, x289, x290, x291, x292, x293, x294, x295, x296, x297, x298, x299], []⟩ wd) :
    Code.wp Tryz.prog (loopN 6) (Exit.then K Q0) ⟨#[x0, x1, x2, x3, .pointer (some ⟨b2, 0, none⟩), x5, x6, x7, .func (.func 31) #[] #[], x9, .pointer (some ⟨bz, 0, none⟩), x11, x12, x13, x14, x15, .slice (some ⟨gv, 0, none⟩) 8 cv, x17, x18, x19, x20, x21, x22, x23, x24, x25, x26, x27, x28, x29, x30, x31, x32, x33, x34, x35, x36, x37, x38, x39, x40, x41, x42, x43, x44, x45, x46, x47, x48, x49, x50, x51, x52, x53, x54, x55, x56, x57, x58, x59, x60, x61, x62, x63, x64, x65, x66, x67, x68, x69, x70, x71, x72, x73, x74, x75, x76, x77, x78, x79, x80, x81, x82, x83, x84, x85, x86, x87, x88, x89, x90, x91, x92, x93, x94, x95, x96, x97, x98, x99, x100, x101, x102, x103, x104, x105, x106, x107, x108, x109, x110, x111, x112, x113, x114, x115, x116, x117, x118, x119, x120, x121, x122, x123, x124, x125, x126, x127, x128, x129, x130, x131, x132, x133, x134, x135, x136, x137, x138, x139, x140, x141, x142, x143, x144, x145, .int .i64 (t : Int), x147, x148, x149, x150, x151, x152, x153, x154, x155, x156, x157, x158, x159, x160, x161, x162, x163, x164, x165, x166, x167, x168, x169, x170, x171, x172, x173, x174, x175, x176, x177, x178, x179, x180, x181, x182, x183, x184, x185, x186, x187, x188, x189, x190, x191, x192, x193, x194, x195, x196, x197, x198, x199, x200, x201, x202, x203, x204, x205, x206, x207, x208, x209, x210, x211, x212, x213, x214, x215, x216, x217, x218, x219, x220, x221, x222, x223, x224, x225, x226, x227, x228, x229, x230, x231, x232, x233, x234, x235, x236, x237, x238, x239, x240, x241, x242, x243, x244, x245, x246, x247, x248, x249, x250, x251, x252, x253, x254, x255, x256, x257, x258, x259, x260, x261, x262, x263, x264, x265, x266, x267, x268, x269, x270, x271, x272, x273, x274, x275, x276, x277, x278, x279, x280, x281, x282, x283, x284, x285, x286, x287, x288, x289, x290, x291, x292, x293, x294, x295, x296, x297, x298, x299], []⟩ wr := by
  have z0 : wr.cell? ⟨gv, 0, none⟩ = some (u32v s.a) := hz 0 (by decide)
  have z1 : wr.cell? ⟨gv, 1, none⟩ = some (u32v s.b) := hz 1 (by decide)
  have z2 : wr.cell? ⟨gv, 2, none⟩ = some (u32v s.c) := hz 2 (by decide)
  have z3 : wr.cell? ⟨gv, 3, none⟩ = some (u32v s.d) := hz 3 (by decide)
  have z4 : wr.cell? ⟨gv, 4, none⟩ = some (u32v s.e) := hz 4 (by decide)
  have z5 : wr.cell? ⟨gv, 5, none⟩ = some (u32v s.f) := hz 5 (by decide)
  have z6 : wr.cell? ⟨gv, 6, none⟩ = some (u32v s.g) := hz 6 (by decide)
  have z7 : wr.cell? ⟨gv, 7, none⟩ = some (u32v s.h) := hz 7 (by decide)
  have HKV : Hid (Keep wr wr) := Lib.hid (Kp.refl _ _)
  have HHK := Lib.hid hK
  clear hz hK
  have i1 : (0 : Int) ≤ (t : Int) := by omega
  have i2 : (t : Int) < 64 := by omega
  obtain ⟨m18, h18⟩ : ∃ m, m = bigS1 s.e := ⟨_, rfl⟩
  obtain ⟨m19, h19⟩ : ∃ m, m = shaCh s.e s.f s.g := ⟨_, rfl⟩
  obtain ⟨m20, h20⟩ : ∃ m, m = shaT1 kk ww s := ⟨_, rfl⟩
  obtain ⟨m21, h21⟩ : ∃ m, m = bigS0 s.a := ⟨_, rfl⟩
  obtain ⟨m22, h22⟩ : ∃ m, m = shaMaj s.a s.b s.c := ⟨_, rfl⟩
  have H18 : Hid (rotr s.e 6 ^^^ rotr s.e 11 ^^^ rotr s.e 25 = m18) := Lib.hid h18.symm
  have H19 : Hid (s.e &&& s.f ^^^ ~~~s.e &&& s.g = m19) := Lib.hid h19.symm
  have H20 : Hid (s.h + m18 + m19 + kk + ww = m20) := Lib.hid (by rw [h18, h19, h20]; rfl)
  have H21 : Hid (rotr s.a 2 ^^^ rotr s.a 13 ^^^ rotr s.a 22 = m21) := Lib.hid h21.symm
  have H22 : Hid (s.a &&& s.b ^^^ s.a &&& s.c ^^^ s.b &&& s.c = m22) := Lib.hid h22.symm
  have HRL : Hid ((shaRnd kk ww s).list = [m20 + m21 + m22, s.a, s.b, s.c, s.d + m20, s.e, s.f, s.g]) := Lib.hid (by rw [shaRnd_list, ← h20, ← h21, ← h22])
  clear h18 h19 h20 h21 h22
  conv => arg 2; whnf
  go_wp2
  go_quiet ((go_at_call 31; exact turn_quiet _ _ _ _ (by decide) (by decide)))
  rw [w_xor, w_xor, H18.out]
  go_wp2
  go_quiet (fail)
  rw [w_and, w_not, w_and, w_xor, H19.out]
  try rw [World.drewN_drewN]
  go_wp2
  go_quiet (fail)
  rw [w_add5F, H20.out]
  try rw [World.drewN_drewN]
  go_wp2
  go_quiet ((go_at_call 31; exact turn_quiet2 _ _ _ _ _ (by decide) (by decide)))
  rw [w_xor, w_xor, H21.out]
  try rw [World.drewN_drewN]
  go_wp2
  go_quiet (fail)
  rw [w_and, w_and, w_and, w_xor, w_xor, H22.out]
  try rw [World.drewN_drewN]
  go_wp2
  have HKD : Hid (∀ d, Keep wr (wr.drewN d)) := Lib.hid fun d => HKV.out.drewN d
  generalize hwd : wr.drewN _ = wd
  have HKD2 : Hid (Keep wr wd) := Lib.hid (by rw [← hwd]; exact HKD.out _)
  replace z0 : wd.cell? ⟨gv, 0, none⟩ = some (u32v s.a) := by rw [← hwd]; exact z0
  replace z1 : wd.cell? ⟨gv, 1, none⟩ = some (u32v s.b) := by rw [← hwd]; exact z1
  replace z2 : wd.cell? ⟨gv, 2, none⟩ = some (u32v s.c) := by rw [← hwd]; exact z2
  replace z3 : wd.cell? ⟨gv, 3, none⟩ = some (u32v s.d) := by rw [← hwd]; exact z3
  replace z4 : wd.cell? ⟨gv, 4, none⟩ = some (u32v s.e) := by rw [← hwd]; exact z4
  replace z5 : wd.cell? ⟨gv, 5, none⟩ = some (u32v s.f) := by rw [← hwd]; exact z5
  replace z6 : wd.cell? ⟨gv, 6, none⟩ = some (u32v s.g) := by rw [← hwd]; exact z6
  replace z7 : wd.cell? ⟨gv, 7, none⟩ = some (u32v s.h) := by rw [← hwd]; exact z7
  clear hwd HKD
  go_still_tail 28, (by kernel_rfl)
  change wpList _ _ _ _ _ wd.drew
  rw [w_add, w_add, w_add]
  obtain ⟨ya, hya⟩ : ∃ x, x = m20 + m21 + m22 := ⟨_, rfl⟩
  obtain ⟨ye, hye⟩ : ∃ x, x = s.d + m20 := ⟨_, rfl⟩
  rw [← hya, ← hye] at HRL ⊢
  clear hya hye
  go_wp2
  have hown := Own.drew (Own.made wd base 65 ([ya, s.a, s.b, s.c, ye, s.e, s.f, s.g].map u32v) (Nat.le_trans hb HKD2.out.size) (by simp [maxLen]))
  rw [HRL.out] at HHK
  have hfr := (HKD2.out.alloc (Obj.cells ([ya, s.a, s.b, s.c, ye, s.e, s.f, s.g].map u32v).toArray 65))
  exact HHK.out _ _ _ _ _ _ _ _ _ _ _ _ _ _ _ _ _ _ _ _ _ _ _ _ _ _ _ _ _ _ _ _ _ _ _ _ _ _ _ _ _ _ _ _ _ _ _ _ _ _ _ _ _ _ _ _ _ _ _ _ _ _ _ _ _ _ _ _ _ _ _ _ _ _ _ _ _ _ _ _ _ _ _ _ _ _ _ _ _ _ _ _ _ _ _ _ _ _ _ _ _ _ _ _ _ _ _ _ _ _ _ _ _ _ _ _ _ _ _ _ _ _ _ _ _ _ _ _ hown (hfr.world rfl rfl rfl rfl)
end Go.Proofs.YtfodkjpjejoemaaGreatDoor
