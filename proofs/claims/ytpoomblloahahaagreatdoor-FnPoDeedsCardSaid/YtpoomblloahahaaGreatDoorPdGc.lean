/- The law FnPoDeeds: its last loop. -/
import Derived.Test.YtpoomblloahahaaGreatDoorPdGa
namespace Go.Proofs.YtpoomblloahahaaGreatDoor
open Go.Proofs Go.Shelf Go.Sort Go.Lib Go.ChangeShapes Go.WideShapes Go.ChangeAt Go.RowKit Go.PlainAid
set_option maxHeartbeats 8000000
set_option linter.unusedVariables false
set_option linter.unusedSimpArgs false

set_option maxRecDepth 100000 in
theorem loop11 (Q : Exit → Act → World → Prop) (da xa : Option Addr) (n dc xc wb : Nat) (hn12 : n ≤ 12) (w6 : World) (x0 x2 x3 x4 x5 x6 x7 x9 x10 x11 x12 x13 x14 x15 x16 x18 x20 x21 x22 x23 x24 x25 x26 x27 x28 x29 x30 x31 x32 x33 x34 x35 x36 x37 x38 x39 x40 x41 x42 x43 x44 x45 x46 x47 x48 x49 x50 x51 x52 x53 x54 x55 x56 x57 x58 x59 x60 x61 x62 x63 x64 x65 x66 x67 x68 x69 x70 x71 x72 x73 x74 x75 x76 x77 x78 x79 x80 x81 x82 x83 x84 x85 x86 x87 x88 x89 x90 x91 x92 x93 x94 x95 x96 x97 x98 x99 x100 x101 x102 x103 x104 x105 x106 x107 x108 x109 x110 x111 x112 x113 x114 x115 x116 x117 x118 x119 x120 x121 x122 x123 x124 x125 x126 x127 x128 x129 x130 x131 x132 x133 x134 x135 x136 x137 x138 x139 x140 x141 x142 x143 x144 x145 x146 x147 x148 x149 x150 x151 x152 x153 x154 x155 x156 x157 x158 x159 x160 x161 x162 x163 x164 x165 x166 x167 x168 x169 x170 x171 x172 x173 x174 x175 x176 x177 x178 x179 x180 x181 x182 x183 x184 x185 x186 x187 x188 x189 x190 x191 x192 x193 x194 x195 x196 x197 x198 x199 x200 x201 x202 x203 x204 x205 x206 x207 x208 x209 x210 x211 x212 x213 x214 x215 x216 x217 x218 x219 x220 x221 x222 x223 x224 x225 x226 x227 x228 x229 x230 x231 x232 x233 x234 x235 x236 x237 x238 x239 x240 x241 x242 x243 x244 x245 x246 x247 x248 x249 x250 x251 x252 x253 x254 x255 x256 x257 x258 x259 x260 x261 x262 x263 x264 x265 x266 x267 x268 x269 x270 x271 x272 x273 x274 x275 x276 x277 x278 x279 x280 x281 x282 x283 x284 x285 x286 x287 x288 x289 x290 x291 x292 x293 x294 x295 : Value)
    (hcell : ∀ q, q < n → ∃ (g o xg : Nat) (kd : Int) (b1 b2 : Bool), da = some ⟨g, o, none⟩ ∧ xa = some ⟨xg, 0, none⟩ ∧ g < w6.heap.size ∧ xg < w6.heap.size ∧ wb < w6.heap.size ∧ w6.cell? ⟨g, o + q * 6, none⟩ = some (.int .i64 kd) ∧ w6.cell? ⟨xg, q, none⟩ = some (.bool b1) ∧ w6.cell? ⟨wb, q, none⟩ = some (.bool b2) ∧ (kd = 2 → b1 = b2))
    (hn : ∀ (u4 u19 u273 u274 u275 u276 u277 u278 u279 u280 u281 u282 u283 u284 u285 u286 u287 u288 u289 u290 u291 u292 u293 u294 u295 : Value) (w' : World), RowKit.Below w6.heap.size w6 w' → Q (.exit 11) ⟨#[x0, .slice da n dc, x2, x3, u4, x5, x6, x7, .slice (some ⟨wb, 0, none⟩) n n, x9, x10, x11, x12, x13, x14, x15, x16, .slice xa n xc, x18, u19, x20, x21, x22, x23, x24, x25, x26, x27, x28, x29, x30, x31, x32, x33, x34, x35, x36, x37, x38, x39, x40, x41, x42, x43, x44, x45, x46, x47, x48, x49, x50, x51, x52, x53, x54, x55, x56, x57, x58, x59, x60, x61, x62, x63, x64, x65, x66, x67, x68, x69, x70, x71, x72, x73, x74, x75, x76, x77, x78, x79, x80, x81, x82, x83, x84, x85, x86, x87, x88, x89, x90, x91, x92, x93, x94, x95, x96, x97, x98, x99, x100, x101, x102, x103, x104, x105, x106, x107, x108, x109, x110, x111, x112, x113, x114, x115, x116, x117, x118, x119, x120, x121, x122, x123, x124, x125, x126, x127, x128, x129, x130, x131, x132, x133, x134, x135, x136, x137, x138, x139, x140, x141, x142, x143, x144, x145, x146, x147, x148, x149, x150, x151, x152, x153, x154, x155, x156, x157, x158, x159, x160, x161, x162, x163, x164, x165, x166, x167, x168, x169, x170, x171, x172, x173, x174, x175, x176, x177, x178, x179, x180, x181, x182, x183, x184, x185, x186, x187, x188, x189, x190, x191, x192, x193, x194, x195, x196, x197, x198, x199, x200, x201, x202, x203, x204, x205, x206, x207, x208, x209, x210, x211, x212, x213, x214, x215, x216, x217, x218, x219, x220, x221, x222, x223, x224, x225, x226, x227, x228, x229, x230, x231, x232, x233, x234, x235, x236, x237, x238, x239, x240, x241, x242, x243, x244, x245, x246, x247, x248, x249, x250, x251, x252, x253, x254, x255, x256, x257, x258, x259, x260, x261, x262, x263, x264, x265, x266, x267, x268, x269, x270, x271, x272, u273, u274, u275, u276, u277, u278, u279, u280, u281, u282, u283, u284, u285, u286, u287, u288, u289, u290, u291, u292, u293, u294, u295], []⟩ w') :
    Code.wp Tryz.prog ((findL 11 (Tryz.f3.body.getD .skip)).getD .skip) Q ⟨#[x0, .slice da n dc, x2, x3, x4, x5, x6, x7, .slice (some ⟨wb, 0, none⟩) n n, x9, x10, x11, x12, x13, x14, x15, x16, .slice xa n xc, x18, .int .i64 0, x20, x21, x22, x23, x24, x25, x26, x27, x28, x29, x30, x31, x32, x33, x34, x35, x36, x37, x38, x39, x40, x41, x42, x43, x44, x45, x46, x47, x48, x49, x50, x51, x52, x53, x54, x55, x56, x57, x58, x59, x60, x61, x62, x63, x64, x65, x66, x67, x68, x69, x70, x71, x72, x73, x74, x75, x76, x77, x78, x79, x80, x81, x82, x83, x84, x85, x86, x87, x88, x89, x90, x91, x92, x93, x94, x95, x96, x97, x98, x99, x100, x101, x102, x103, x104, x105, x106, x107, x108, x109, x110, x111, x112, x113, x114, x115, x116, x117, x118, x119, x120, x121, x122, x123, x124, x125, x126, x127, x128, x129, x130, x131, x132, x133, x134, x135, x136, x137, x138, x139, x140, x141, x142, x143, x144, x145, x146, x147, x148, x149, x150, x151, x152, x153, x154, x155, x156, x157, x158, x159, x160, x161, x162, x163, x164, x165, x166, x167, x168, x169, x170, x171, x172, x173, x174, x175, x176, x177, x178, x179, x180, x181, x182, x183, x184, x185, x186, x187, x188, x189, x190, x191, x192, x193, x194, x195, x196, x197, x198, x199, x200, x201, x202, x203, x204, x205, x206, x207, x208, x209, x210, x211, x212, x213, x214, x215, x216, x217, x218, x219, x220, x221, x222, x223, x224, x225, x226, x227, x228, x229, x230, x231, x232, x233, x234, x235, x236, x237, x238, x239, x240, x241, x242, x243, x244, x245, x246, x247, x248, x249, x250, x251, x252, x253, x254, x255, x256, x257, x258, x259, x260, x261, x262, x263, x264, x265, x266, x267, x268, x269, x270, x271, x272, x273, x274, x275, x276, x277, x278, x279, x280, x281, x282, x283, x284, x285, x286, x287, x288, x289, x290, x291, x292, x293, x294, x295], []⟩ w6 := by
  simp only [Tryz.f3, Option.getD_some, findL, reduceIte, Nat.reduceEqDiff, Option.none_or, Option.some_or, Option.or_none]
  go_loopw [19] (fun i wy => ∃ q : Nat, q ≤ n ∧ i = .int .i64 (q : Int) ∧ RowKit.Below w6.heap.size w6 wy) (fun i _ => n - (intOf i).toNat)
  case atStart => exact ⟨0, by omega, rfl, RowKit.Below.refl _ _⟩
  case round =>
    obtain ⟨q, hq, rfl, kB⟩ := hrel
    by_cases hql : q < n
    · clear hn
      obtain ⟨g, o, xg, kd, b1, b2, rfl, rfl, hg, hxg, hwl, n0, n1, n2, hb2⟩ := hcell q hql
      clear hcell
      have hd : decide ((q : Int) < (n : Int)) = true := decide_eq_true (by omega)
      have hqx : (q : Int) < (n : Int) := by omega
      replace n0 := (kB.cell (show (⟨g, o + q * 6, none⟩ : Addr).block < w6.heap.size from hg)).trans n0
      replace n1 := (kB.cell (show (⟨xg, q, none⟩ : Addr).block < w6.heap.size from hxg)).trans n1
      replace n2 := (kB.cell (show (⟨wb, q, none⟩ : Addr).block < w6.heap.size from hwl)).trans n2
      go_upto_region 52 with (fail)
      cases hk2 : (kd == 2)
      · clear hb2
        go_quiet (fail)
        go_wp2_with (fail)
        exact ⟨⟨q + 1, by omega, by go_num, kB.trans ⟨rfl, rfl, rfl, Nat.le_refl _, fun _ _ => rfl⟩⟩, by simp [intOf]; omega⟩
      · have hk3 : kd = 2 := by simpa using hk2
        rw [hb2 hk3] at n1
        clear hb2
        have hbb : (b2 != b2) = false := by simp
        go_quiet (fail)
        go_wp2_with (fail)
        exact ⟨⟨q + 1, by omega, by go_num, kB.trans ⟨rfl, rfl, rfl, Nat.le_refl _, fun _ _ => rfl⟩⟩, by simp [intOf]; omega⟩
    · obtain rfl : q = n := by omega
      clear hcell
      have hd : decide ((q : Int) < (q : Int)) = false := decide_eq_false (by omega)
      replace hn := Lib.hid hn
      go_wp2_with (fail)
      exact hn.out _ _ _ _ _ _ _ _ _ _ _ _ _ _ _ _ _ _ _ _ _ _ _ _ _ _ kB
end Go.Proofs.YtpoomblloahahaaGreatDoor
