/- The law FnPoDeeds: whether a deed is a deed: the test and the way out. -/
import Derived.Test.YtpoomblloahahaaGreatDoorPdF
namespace Go.Proofs.YtpoomblloahahaaGreatDoor
open Go.Proofs Go.Shelf Go.Sort Go.Lib Go.ChangeShapes Go.WideShapes Go.ChangeAt Go.RowKit Go.PlainAid
set_option maxHeartbeats 8000000
set_option linter.unusedVariables false
set_option linter.unusedSimpArgs false

def badD (d : Dd) : Bool := decide (d.1 < 1) || decide (3 < d.1) || decide (d.2.2.1 < 0) || decide (63 < d.2.2.1) || decide (d.2.2.2.1 < 0) || decide (63 < d.2.2.2.1) || (d.2.2.2.2.1 != 0 && (decide (d.2.2.2.2.1 < 2) || decide (5 < d.2.2.2.2.1))) || d.2.2.1 == 4 || d.2.2.1 == 60
theorem ok_of_badD {d : Dd} (h : badD d = false) : DdOk d := by
  simp only [badD, Bool.or_eq_false_iff, Bool.and_eq_false_iff, decide_eq_false_iff_not, bne_eq_false_iff_eq, beq_eq_false_iff_ne] at h
  obtain ⟨⟨⟨⟨⟨⟨⟨⟨h1, h2⟩, h3⟩, h4⟩, h5⟩, h6⟩, h7⟩, h8⟩, h9⟩ := h
  exact ⟨by omega, ⟨by omega, by omega⟩, ⟨by omega, by omega⟩, by omega⟩
/-- A block of a text, by its number. -/
def findB (n : Nat) : Code → Option Code
  | .block i b => if i = n then some (.block i b) else findB n b
  | .seq a b => (findB n a).or (findB n b)
  | .cond _ a b => (findB n a).or (findB n b)
  | .loop b => findB n b
  | _ => none
/-- The loop of a block of a text, by the block's number. -/
def findL (n : Nat) : Code → Option Code
  | .block i (.loop b) => if i = n then some (.loop b) else findL n b
  | .block i b => findL n b
  | .seq a b => (findL n a).or (findL n b)
  | .cond _ a b => (findL n a).or (findL n b)
  | .loop b => findL n b
  | _ => none
/-- A region of a text, by its number. -/
def findR (n : Nat) : Code → Option Code
  | .region i ops b => if i = n then some (.region i ops b) else none
  | .seq a b => (findR n a).or (findR n b)
  | .block _ b => findR n b
  | .cond _ a b => (findR n a).or (findR n b)
  | .loop b => findR n b
  | _ => none
set_option maxRecDepth 100000 in
theorem test19 (Q : Exit → Act → World → Prop) (Es : Nat) (kd ky fr tt pr wt : Int) (w4 : World) (x0 x1 x2 x3 x4 x5 x6 x7 x8 x9 x11 x12 x13 x14 x15 x16 x17 x18 x19 x20 x21 x22 x23 x24 x25 x26 x27 x28 x29 x30 x31 x32 x33 x34 x35 x36 x37 x38 x39 x40 x41 x42 x43 x44 x45 x46 x47 x48 x49 x50 x51 x52 x53 x54 x55 x56 x57 x58 x59 x60 x61 x62 x63 x64 x65 x66 x67 x68 x69 x70 x71 x72 x73 x74 x75 x76 x77 x78 x79 x80 x81 x82 x83 x84 x85 x86 x87 x88 x89 x90 x91 x92 x93 x94 x95 x96 x97 x98 x99 x100 x101 x102 x103 x104 x105 x106 x107 x108 x109 x110 x111 x112 x113 x114 x115 x116 x117 x118 x119 x120 x121 x122 x123 x124 x125 x126 x127 x128 x129 x130 x131 x132 x133 x134 x135 x136 x137 x138 x139 x140 x141 x142 x143 x144 x145 x146 x147 x148 x149 x150 x151 x152 x153 x154 x155 x156 x157 x158 x159 x160 x161 x162 x163 x164 x165 x166 x167 x168 x169 x170 x171 x172 x173 x174 x175 x176 x177 x178 x179 x180 x181 x182 x183 x184 x185 x186 x187 x188 x189 x190 x191 x192 x193 x194 x195 x196 x197 x198 x199 x200 x201 x202 x203 x204 x205 x206 x207 x208 x209 x210 x211 x212 x213 x214 x215 x216 x217 x218 x219 x220 x221 x222 x223 x224 x225 x226 x227 x228 x229 x230 x231 x232 x233 x234 x235 x236 x237 x238 x239 x240 x241 x242 x243 x244 x245 x246 x247 x248 x249 x250 x251 x252 x253 x254 x255 x256 x257 x258 x259 x260 x261 x262 x263 x264 x265 x266 x267 x268 x269 x270 x271 x272 x273 x274 x275 x276 x277 x278 x279 x280 x281 x282 x283 x284 x285 x286 x287 x288 x289 x290 x291 x292 x293 x294 x295 : Value)
    (y0 : w4.cell? ⟨Es, 0, none⟩ = some (.int .i64 kd)) (y2 : w4.cell? ⟨Es, 2, none⟩ = some (.int .i64 fr)) (y3 : w4.cell? ⟨Es, 3, none⟩ = some (.int .i64 tt)) (y4 : w4.cell? ⟨Es, 4, none⟩ = some (.int .i64 pr))
    (hn : ∀ u92 u93 u94 u95 u96 u97 u98 u99 u100 u101 u102 u103 u104 u105 u106 u107 u108 u109 u110 u111 u112 u113 u114 u115 u116 u117 u118 u119 u120 u121 u122 u123 u124 u125 u126 u127 u128 u129 u130 u131 u132 u133 u134 u135 u136 u137 u138 u139 u140 u141 u142 u143 u144 u145 u146 u147 u148 u149 u150 u151 u152 : Value, Q .normal ⟨#[x0, x1, x2, x3, x4, x5, x6, x7, x8, x9, .pointer (some ⟨Es, 0, none⟩), x11, x12, x13, x14, x15, x16, x17, x18, x19, x20, x21, x22, x23, x24, x25, x26, x27, x28, x29, x30, x31, x32, x33, x34, x35, x36, x37, x38, x39, x40, x41, x42, x43, x44, x45, x46, x47, x48, x49, x50, x51, x52, x53, x54, x55, x56, x57, x58, x59, x60, x61, x62, x63, x64, x65, x66, x67, x68, x69, x70, x71, x72, x73, x74, x75, x76, x77, x78, x79, x80, x81, x82, x83, x84, x85, x86, x87, x88, x89, x90, x91, u92, u93, u94, u95, u96, u97, u98, u99, u100, u101, u102, u103, u104, u105, u106, u107, u108, u109, u110, u111, u112, u113, u114, u115, u116, u117, u118, u119, u120, u121, u122, u123, u124, u125, u126, u127, u128, u129, u130, u131, u132, u133, u134, u135, u136, u137, u138, u139, u140, u141, u142, u143, u144, u145, u146, u147, u148, u149, u150, u151, u152, .bool (badD (kd, ky, fr, tt, pr, wt)), x154, x155, x156, x157, x158, x159, x160, x161, x162, x163, x164, x165, x166, x167, x168, x169, x170, x171, x172, x173, x174, x175, x176, x177, x178, x179, x180, x181, x182, x183, x184, x185, x186, x187, x188, x189, x190, x191, x192, x193, x194, x195, x196, x197, x198, x199, x200, x201, x202, x203, x204, x205, x206, x207, x208, x209, x210, x211, x212, x213, x214, x215, x216, x217, x218, x219, x220, x221, x222, x223, x224, x225, x226, x227, x228, x229, x230, x231, x232, x233, x234, x235, x236, x237, x238, x239, x240, x241, x242, x243, x244, x245, x246, x247, x248, x249, x250, x251, x252, x253, x254, x255, x256, x257, x258, x259, x260, x261, x262, x263, x264, x265, x266, x267, x268, x269, x270, x271, x272, x273, x274, x275, x276, x277, x278, x279, x280, x281, x282, x283, x284, x285, x286, x287, x288, x289, x290, x291, x292, x293, x294, x295], []⟩ w4) :
    Code.wp Tryz.prog ((findR 19 (Tryz.f3.body.getD .skip)).getD .skip) Q ⟨#[x0, x1, x2, x3, x4, x5, x6, x7, x8, x9, .pointer (some ⟨Es, 0, none⟩), x11, x12, x13, x14, x15, x16, x17, x18, x19, x20, x21, x22, x23, x24, x25, x26, x27, x28, x29, x30, x31, x32, x33, x34, x35, x36, x37, x38, x39, x40, x41, x42, x43, x44, x45, x46, x47, x48, x49, x50, x51, x52, x53, x54, x55, x56, x57, x58, x59, x60, x61, x62, x63, x64, x65, x66, x67, x68, x69, x70, x71, x72, x73, x74, x75, x76, x77, x78, x79, x80, x81, x82, x83, x84, x85, x86, x87, x88, x89, x90, x91, x92, x93, x94, x95, x96, x97, x98, x99, x100, x101, x102, x103, x104, x105, x106, x107, x108, x109, x110, x111, x112, x113, x114, x115, x116, x117, x118, x119, x120, x121, x122, x123, x124, x125, x126, x127, x128, x129, x130, x131, x132, x133, x134, x135, x136, x137, x138, x139, x140, x141, x142, x143, x144, x145, x146, x147, x148, x149, x150, x151, x152, x153, x154, x155, x156, x157, x158, x159, x160, x161, x162, x163, x164, x165, x166, x167, x168, x169, x170, x171, x172, x173, x174, x175, x176, x177, x178, x179, x180, x181, x182, x183, x184, x185, x186, x187, x188, x189, x190, x191, x192, x193, x194, x195, x196, x197, x198, x199, x200, x201, x202, x203, x204, x205, x206, x207, x208, x209, x210, x211, x212, x213, x214, x215, x216, x217, x218, x219, x220, x221, x222, x223, x224, x225, x226, x227, x228, x229, x230, x231, x232, x233, x234, x235, x236, x237, x238, x239, x240, x241, x242, x243, x244, x245, x246, x247, x248, x249, x250, x251, x252, x253, x254, x255, x256, x257, x258, x259, x260, x261, x262, x263, x264, x265, x266, x267, x268, x269, x270, x271, x272, x273, x274, x275, x276, x277, x278, x279, x280, x281, x282, x283, x284, x285, x286, x287, x288, x289, x290, x291, x292, x293, x294, x295], []⟩ w4 := by
  simp only [Tryz.f3, Option.getD_some, findR, reduceIte, Nat.reduceEqDiff, Option.none_or, Option.some_or, Option.or_none]
  cases k1 : decide (kd < 1)
  · cases k2 : decide (3 < kd)
    · cases k3 : decide (fr < 0)
      · cases k4 : decide (63 < fr)
        · cases k5 : decide (tt < 0)
          · cases k6 : decide (63 < tt)
            · cases q0 : (pr != 0)
              · cases k9 : (fr == 4)
                · cases k10 : (fr == 60)
                  · have hb : badD (kd, ky, fr, tt, pr, wt) = false := by simp [badD, *]
                    rw [hb] at hn
                    clear hb
                    go_wp2_with (fail)
                    exact hn _ _ _ _ _ _ _ _ _ _ _ _ _ _ _ _ _ _ _ _ _ _ _ _ _ _ _ _ _ _ _ _ _ _ _ _ _ _ _ _ _ _ _ _ _ _ _ _ _ _ _ _ _ _ _ _ _ _ _ _ _
                  · have hb : badD (kd, ky, fr, tt, pr, wt) = true := by simp [badD, *]
                    rw [hb] at hn
                    clear hb
                    go_wp2_with (fail)
                    exact hn _ _ _ _ _ _ _ _ _ _ _ _ _ _ _ _ _ _ _ _ _ _ _ _ _ _ _ _ _ _ _ _ _ _ _ _ _ _ _ _ _ _ _ _ _ _ _ _ _ _ _ _ _ _ _ _ _ _ _ _ _
                · have hb : badD (kd, ky, fr, tt, pr, wt) = true := by simp [badD, *]
                  rw [hb] at hn
                  clear hb
                  go_wp2_with (fail)
                  exact hn _ _ _ _ _ _ _ _ _ _ _ _ _ _ _ _ _ _ _ _ _ _ _ _ _ _ _ _ _ _ _ _ _ _ _ _ _ _ _ _ _ _ _ _ _ _ _ _ _ _ _ _ _ _ _ _ _ _ _ _ _
              · cases q1 : decide (pr < 2)
                · cases q2 : decide (5 < pr)
                  · cases k9 : (fr == 4)
                    · cases k10 : (fr == 60)
                      · have hb : badD (kd, ky, fr, tt, pr, wt) = false := by simp [badD, *]
                        rw [hb] at hn
                        clear hb
                        go_wp2_with (fail)
                        exact hn _ _ _ _ _ _ _ _ _ _ _ _ _ _ _ _ _ _ _ _ _ _ _ _ _ _ _ _ _ _ _ _ _ _ _ _ _ _ _ _ _ _ _ _ _ _ _ _ _ _ _ _ _ _ _ _ _ _ _ _ _
                      · have hb : badD (kd, ky, fr, tt, pr, wt) = true := by simp [badD, *]
                        rw [hb] at hn
                        clear hb
                        go_wp2_with (fail)
                        exact hn _ _ _ _ _ _ _ _ _ _ _ _ _ _ _ _ _ _ _ _ _ _ _ _ _ _ _ _ _ _ _ _ _ _ _ _ _ _ _ _ _ _ _ _ _ _ _ _ _ _ _ _ _ _ _ _ _ _ _ _ _
                    · have hb : badD (kd, ky, fr, tt, pr, wt) = true := by simp [badD, *]
                      rw [hb] at hn
                      clear hb
                      go_wp2_with (fail)
                      exact hn _ _ _ _ _ _ _ _ _ _ _ _ _ _ _ _ _ _ _ _ _ _ _ _ _ _ _ _ _ _ _ _ _ _ _ _ _ _ _ _ _ _ _ _ _ _ _ _ _ _ _ _ _ _ _ _ _ _ _ _ _
                  · have hb : badD (kd, ky, fr, tt, pr, wt) = true := by simp [badD, *]
                    rw [hb] at hn
                    clear hb
                    go_wp2_with (fail)
                    exact hn _ _ _ _ _ _ _ _ _ _ _ _ _ _ _ _ _ _ _ _ _ _ _ _ _ _ _ _ _ _ _ _ _ _ _ _ _ _ _ _ _ _ _ _ _ _ _ _ _ _ _ _ _ _ _ _ _ _ _ _ _
                · have hb : badD (kd, ky, fr, tt, pr, wt) = true := by simp [badD, *]
                  rw [hb] at hn
                  clear hb
                  go_wp2_with (fail)
                  exact hn _ _ _ _ _ _ _ _ _ _ _ _ _ _ _ _ _ _ _ _ _ _ _ _ _ _ _ _ _ _ _ _ _ _ _ _ _ _ _ _ _ _ _ _ _ _ _ _ _ _ _ _ _ _ _ _ _ _ _ _ _
            · have hb : badD (kd, ky, fr, tt, pr, wt) = true := by simp [badD, *]
              rw [hb] at hn
              clear hb
              go_wp2_with (fail)
              exact hn _ _ _ _ _ _ _ _ _ _ _ _ _ _ _ _ _ _ _ _ _ _ _ _ _ _ _ _ _ _ _ _ _ _ _ _ _ _ _ _ _ _ _ _ _ _ _ _ _ _ _ _ _ _ _ _ _ _ _ _ _
          · have hb : badD (kd, ky, fr, tt, pr, wt) = true := by simp [badD, *]
            rw [hb] at hn
            clear hb
            go_wp2_with (fail)
            exact hn _ _ _ _ _ _ _ _ _ _ _ _ _ _ _ _ _ _ _ _ _ _ _ _ _ _ _ _ _ _ _ _ _ _ _ _ _ _ _ _ _ _ _ _ _ _ _ _ _ _ _ _ _ _ _ _ _ _ _ _ _
        · have hb : badD (kd, ky, fr, tt, pr, wt) = true := by simp [badD, *]
          rw [hb] at hn
          clear hb
          go_wp2_with (fail)
          exact hn _ _ _ _ _ _ _ _ _ _ _ _ _ _ _ _ _ _ _ _ _ _ _ _ _ _ _ _ _ _ _ _ _ _ _ _ _ _ _ _ _ _ _ _ _ _ _ _ _ _ _ _ _ _ _ _ _ _ _ _ _
      · have hb : badD (kd, ky, fr, tt, pr, wt) = true := by simp [badD, *]
        rw [hb] at hn
        clear hb
        go_wp2_with (fail)
        exact hn _ _ _ _ _ _ _ _ _ _ _ _ _ _ _ _ _ _ _ _ _ _ _ _ _ _ _ _ _ _ _ _ _ _ _ _ _ _ _ _ _ _ _ _ _ _ _ _ _ _ _ _ _ _ _ _ _ _ _ _ _
    · have hb : badD (kd, ky, fr, tt, pr, wt) = true := by simp [badD, *]
      rw [hb] at hn
      clear hb
      go_wp2_with (fail)
      exact hn _ _ _ _ _ _ _ _ _ _ _ _ _ _ _ _ _ _ _ _ _ _ _ _ _ _ _ _ _ _ _ _ _ _ _ _ _ _ _ _ _ _ _ _ _ _ _ _ _ _ _ _ _ _ _ _ _ _ _ _ _
  · have hb : badD (kd, ky, fr, tt, pr, wt) = true := by simp [badD, *]
    rw [hb] at hn
    clear hb
    go_wp2_with (fail)
    exact hn _ _ _ _ _ _ _ _ _ _ _ _ _ _ _ _ _ _ _ _ _ _ _ _ _ _ _ _ _ _ _ _ _ _ _ _ _ _ _ _ _ _ _ _ _ _ _ _ _ _ _ _ _ _ _ _ _ _ _ _ _
end Go.Proofs.YtpoomblloahahaaGreatDoor
