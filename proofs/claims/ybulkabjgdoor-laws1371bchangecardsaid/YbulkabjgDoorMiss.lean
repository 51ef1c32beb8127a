/-
  THE LAW BEHIND A CALL OF 'change' THAT ANSWERED NIL AND CHANGED NOTHING.
-/
import Derived.Test.YbulkabjgDoorTail
import Derived.Deep.DeepCutAuto
import Derived.Deep.CutBlock
import Derived.Deep.QuietTactic
import Derived.BigQuiet
import Derived.WalkLawsBesides
namespace Go.Proofs.YbulkabjgDoor
open Go.RowKit

theorem nil_eql_nil (W : World) : (binOp .eql 51 (.slice none 0 0) (.slice none 0 0)).run Ybad.prog W = .ok (.bool true) W := by kernel_rfl
theorem known_1 {ch : ByteArray} (h : ch.toList = [114, 101, 108, 101, 97, 115, 101, 45, 102, 111, 114, 45, 104, 97, 110, 100, 111, 118, 101, 114]) : knownB ch = true := by simp [knownB, h]
theorem known_2 {ch : ByteArray} (h : ch.toList = [100, 108, 45, 100, 97, 116, 97, 45, 97, 102, 116, 101, 114, 45, 104, 97, 110, 100, 111, 118, 101, 114]) : knownB ch = true := by simp [knownB, h]
theorem known_3 {ch : ByteArray} (h : ch.toList = [114, 101, 108, 101, 97, 115, 101]) : knownB ch = true := by simp [knownB, h]
theorem known_no {ch : ByteArray} (h1 : ¬ ch.toList = [114, 101, 108, 101, 97, 115, 101, 45, 102, 111, 114, 45, 104, 97, 110, 100, 111, 118, 101, 114]) (h2 : ¬ ch.toList = [100, 108, 45, 100, 97, 116, 97, 45, 97, 102, 116, 101, 114, 45, 104, 97, 110, 100, 111, 118, 101, 114]) (h3 : ¬ ch.toList = [114, 101, 108, 101, 97, 115, 101]) : knownB ch = false := by simp [knownB, h1, h2, h3]

set_option maxHeartbeats 2000000 in
set_option maxRecDepth 100000 in
theorem law_miss (i : In) (n : Nat) (w wr : World) (ch mc fr : ByteArray) (calling called a1 a2 : Option Addr) (ob tb c1 c2 : Nat) (x13 x17 x18 x19 x20 x21 x22 x23 x24 x25 x26 x27 x28 x29 x30 x31 x32 x33 x34 x35 x36 x37 x38 x39 x40 x41 x42 x43 x44 x45 x46 x47 x48 x49 x50 x51 x52 x53 x54 x55 x56 x57 x58 x59 x60 x61 x62 x63 x64 x65 x66 x67 x68 x69 x70 x71 x72 x73 x74 x75 x76 x77 x78 x79 x80 x81 x82 x83 x84 x85 x86 x87 x88 x89 x90 x91 x92 x93 x94 x95 x96 x97 x98 x99 x100 x101 x102 x103 x104 x105 x106 x107 x108 x109 x110 x111 x112 x113 x114 x115 x116 x117 x118 x119 x120 x121 x122 x123 x124 x125 x126 x127 x128 x129 x130 x131 x132 x133 x134 x135 x136 x137 x138 x139 x140 x141 x142 x143 x144 x145 x146 x147 x148 x149 x150 x151 x152 x153 x154 x155 x156 x157 x158 x159 x160 x161 x162 x163 x164 x165 x166 x167 x168 x169 x170 x171 x172 x173 x174 x175 x176 x177 x178 x179 x180 x181 x182 x183 x184 x185 x186 x187 x188 x189 x190 x191 x192 x193 x194 x195 x196 x197 x198 x199 x200 x201 x202 x203 x204 x205 x206 x207 x208 x209 x210 x211 x212 x213 x214 x215 x216 x217 x218 x219 x220 x221 x222 x223 x224 x225 x226 x227 x228 x229 x230 x231 x232 x233 x234 x235 x236 x237 x238 x239 x240 x241 x242 x243 x244 x245 x246 x247 x248 x249 x250 x251 x252 x253 x254 x255 x256 x257 x258 x259 x260 x261 x262 x263 x264 x265 x266 x267 x268 x269 x270 x271 x272 x273 x274 x275 x276 x277 x278 x279 x280 x281 : Value)
    (hd : Laid w wr i n (.pointer calling) (.pointer called) a1 a2 c1 c2)
    (hmiss : ¬ mc.toList = i.callID.toList ∨ (mc.toList = i.callID.toList ∧ ¬ fr.toList = i.peer.toList) ∨ (mc.toList = i.callID.toList ∧ fr.toList = i.peer.toList ∧ knownB ch = false)) :
    Code.wp Ybad.prog (dropSeq 18 (Ybad.f3.body.getD .skip)) (bodyPost Ybad.prog Ybad.f3 fun e w' => e = .returned (.bool true) ∧ Below w.heap.size w w')
      ⟨#[.agg (inCells i), .pointer (some ⟨w.heap.size, 0, none⟩), .bool false, .pointer (some ⟨w.heap.size + 1, 0, none⟩), .string ch, .int .i64 n, .pointer (some ⟨w.heap.size + 2, 0, none⟩), .pointer (some ⟨w.heap.size + 2 + 1, 0, none⟩), .pointer (some ⟨w.heap.size + 2 + 1 + 1, 0, none⟩), .pointer (some ⟨ob, 0, none⟩), .pointer (some ⟨tb, 0, none⟩), .pointer calling, .pointer called, x13, .string mc, .string fr, .slice none 0 0, x17, x18, x19, x20, x21, x22, x23, x24, x25, x26, x27, x28, x29, x30, x31, x32, x33, x34, x35, x36, x37, x38, x39, x40, x41, x42, x43, x44, x45, x46, x47, x48, x49, x50, x51, x52, x53, x54, x55, x56, x57, x58, x59, x60, x61, x62, x63, x64, x65, x66, x67, x68, x69, x70, x71, x72, x73, x74, x75, x76, x77, x78, x79, x80, x81, x82, x83, x84, x85, x86, x87, x88, x89, x90, x91, x92, x93, x94, x95, x96, x97, x98, x99, x100, x101, x102, x103, x104, x105, x106, x107, x108, x109, x110, x111, x112, x113, x114, x115, x116, x117, x118, x119, x120, x121, x122, x123, x124, x125, x126, x127, x128, x129, x130, x131, x132, x133, x134, x135, x136, x137, x138, x139, x140, x141, x142, x143, x144, x145, x146, x147, x148, x149, x150, x151, x152, x153, x154, x155, x156, x157, x158, x159, x160, x161, x162, x163, x164, x165, x166, x167, x168, x169, x170, x171, x172, x173, x174, x175, x176, x177, x178, x179, x180, x181, x182, x183, x184, x185, x186, x187, x188, x189, x190, x191, x192, x193, x194, x195, x196, x197, x198, x199, x200, x201, x202, x203, x204, x205, x206, x207, x208, x209, x210, x211, x212, x213, x214, x215, x216, x217, x218, x219, x220, x221, x222, x223, x224, x225, x226, x227, x228, x229, x230, x231, x232, x233, x234, x235, x236, x237, x238, x239, x240, x241, x242, x243, x244, x245, x246, x247, x248, x249, x250, x251, x252, x253, x254, x255, x256, x257, x258, x259, x260, x261, x262, x263, x264, x265, x266, x267, x268, x269, x270, x271, x272, x273, x274, x275, x276, x277, x278, x279, x280, x281], []⟩ wr := by
  conv => arg 2; whnf
  have hpn : ∀ (pc : Option Addr) (W : World), (binOp .neq 29 (.pointer pc) (.pointer pc)).run Ybad.prog W = .ok (.bool false) W := ptr_neq_same
  have k3 := hd.call.c3
  have k4 := hd.call.c4
  have k7 := hd.call.c7
  have j1 := hd.arg.c1
  have HD : Hid (Laid w wr i n (.pointer calling) (.pointer called) a1 a2 c1 c2) := hd
  clear hd
  go_wp2_with fail
  go_quiet (fail)
  go_upto_block 1 with fail
  go_cut [17, 18] (fun s17 s18 W => s18 = .bool (knownB ch) ∧ Laid w W i n (.pointer calling) (.pointer called) a1 a2 c1 c2)
  case first =>
    have HD2 : Hid (Laid w (wr.drewN nq) i n (.pointer calling) (.pointer called) a1 a2 c1 c2) := HD.out.on (below_drewN (Below.refl _ _))
    clear HD k3 k4 k7 j1 hpn hmiss
    by_cases e1 : ch.toList = [114, 101, 108, 101, 97, 115, 101, 45, 102, 111, 114, 45, 104, 97, 110, 100, 111, 118, 101, 114]
    · have HK : Hid (knownB ch = true) := known_1 e1
      go_wp2_with fail
      go_meet
      case rel => exact ⟨congrArg Value.bool HK.out.symm, HD2.out⟩
    · have d1 : (ch.toList == [114, 101, 108, 101, 97, 115, 101, 45, 102, 111, 114, 45, 104, 97, 110, 100, 111, 118, 101, 114]) = false := by simpa using e1
      by_cases e2 : ch.toList = [100, 108, 45, 100, 97, 116, 97, 45, 97, 102, 116, 101, 114, 45, 104, 97, 110, 100, 111, 118, 101, 114]
      · have HK : Hid (knownB ch = true) := known_2 e2
        go_wp2_with fail
        go_meet
        case rel => exact ⟨congrArg Value.bool HK.out.symm, HD2.out⟩
      · have d2 : (ch.toList == [100, 108, 45, 100, 97, 116, 97, 45, 97, 102, 116, 101, 114, 45, 104, 97, 110, 100, 111, 118, 101, 114]) = false := by simpa using e2
        by_cases e3 : ch.toList = [114, 101, 108, 101, 97, 115, 101]
        · have HK : Hid (knownB ch = true) := known_3 e3
          go_wp2_with fail
          go_meet
          case rel => exact ⟨congrArg Value.bool HK.out.symm, HD2.out⟩
        · have d3 : (ch.toList == [114, 101, 108, 101, 97, 115, 101]) = false := by simpa using e3
          have HK : Hid (knownB ch = false) := known_no e1 e2 e3
          go_wp2_with fail
          go_meet
          case rel => exact ⟨congrArg Value.bool HK.out.symm, HD2.out⟩
  case rest =>
    obtain ⟨rfl, hd⟩ := hcut
    have j0 := hd.arg.c0
    have j1 := hd.arg.c1
    have j11 := hd.arg.c11
    have k13 := hd.call.c13
    have k14 := hd.call.c14
    have l1 := hd.la.controls
    have l2 := hd.lb.controls
    have HD3 : Hid (Laid w wc i n (.pointer calling) (.pointer called) a1 a2 c1 c2) := hd
    clear hd HD k3 k4 k7 hpn
    have hsn : ∀ W : World, (binOp .eql 51 (.slice none 0 0) (.slice none 0 0)).run Ybad.prog W = .ok (.bool true) W := fun W => nil_eql_nil W
    rcases hmiss with hA | ⟨hA, hB⟩ | ⟨hA, hB, hK⟩
    all_goals
      go_wp2_with fail
      go_quiet (fail)
      go_wp2_with fail
      go_ret
      exact ⟨rfl, below_drewN HD3.out.below⟩

end Go.Proofs.YbulkabjgDoor
