/-
  THE LAW FROM ITS CHOICE OF THE SENDER ON: the call of 'change' by its contracts; then the two texts behind it.
-/
import Derived.Test.YbulkabjgDoorHit
import Derived.Test.YbulkabjgDoorMid0
import Derived.Deep.CutRange
namespace Go.Proofs.YbulkabjgDoor
open Go.RowKit

set_option maxHeartbeats 2000000 in
set_option maxRecDepth 100000 in
theorem law_mid (i : In) (n : Nat) (w wr : World) (ch mc mo bo mt bt : ByteArray) (calling called a1 a2 ao at_ : Option Addr) (ob tb sb mb gb c1 c2 co ct : Nat) (x15 x16 x17 x18 x19 x20 x21 x22 x23 x24 x25 x26 x27 x28 x29 x30 x31 x32 x33 x34 x35 x36 x37 x38 x39 x40 x41 x42 x43 x44 x45 x46 x47 x48 x49 x50 x51 x52 x53 x54 x55 x56 x57 x58 x59 x60 x61 x62 x63 x64 x65 x66 x67 x68 x69 x70 x71 x72 x73 x74 x75 x76 x77 x78 x79 x80 x81 x82 x83 x84 x85 x86 x87 x88 x89 x90 x91 x92 x93 x94 x95 x96 x97 x98 x99 x100 x101 x102 x103 x104 x105 x106 x107 x108 x109 x110 x111 x112 x113 x114 x115 x116 x117 x118 x119 x120 x121 x122 x123 x124 x125 x126 x127 x128 x129 x130 x131 x132 x133 x134 x135 x136 x137 x138 x139 x140 x141 x142 x143 x144 x145 x146 x147 x148 x149 x150 x151 x152 x153 x154 x155 x156 x157 x158 x159 x160 x161 x162 x163 x164 x165 x166 x167 x168 x169 x170 x171 x172 x173 x174 x175 x176 x177 x178 x179 x180 x181 x182 x183 x184 x185 x186 x187 x188 x189 x190 x191 x192 x193 x194 x195 x196 x197 x198 x199 x200 x201 x202 x203 x204 x205 x206 x207 x208 x209 x210 x211 x212 x213 x214 x215 x216 x217 x218 x219 x220 x221 x222 x223 x224 x225 x226 x227 x228 x229 x230 x231 x232 x233 x234 x235 x236 x237 x238 x239 x240 x241 x242 x243 x244 x245 x246 x247 x248 x249 x250 x251 x252 x253 x254 x255 x256 x257 x258 x259 x260 x261 x262 x263 x264 x265 x266 x267 x268 x269 x270 x271 x272 x273 x274 x275 x276 x277 x278 x279 x280 x281 : Value) (hn7 : n ≤ 7)
    (hS : Served w wr i n calling called ob tb sb mb mo bo mt bt a1 a2 ao at_ c1 c2 co ct) (hO : OwnIs calling called ob) (hne : ob ≠ tb) (hobN : w.heap.size ≤ ob) (hob5 : ob < w.heap.size + 5) (hT : TableAt w gb) (hch : ch.size ≤ maxLen) :
    Code.wp Ybad.prog (dropSeq 15 (Ybad.f3.body.getD .skip)) (bodyPost Ybad.prog Ybad.f3 fun e w' => e = .returned (.bool true) ∧ Below w.heap.size w w')
      ⟨#[.agg (inCells i), .pointer (some ⟨w.heap.size, 0, none⟩), .bool false, .pointer (some ⟨w.heap.size + 1, 0, none⟩), .string ch, .int .i64 n, .pointer (some ⟨w.heap.size + 2, 0, none⟩), .pointer (some ⟨w.heap.size + 2 + 1, 0, none⟩), .pointer (some ⟨w.heap.size + 2 + 1 + 1, 0, none⟩), .pointer (some ⟨ob, 0, none⟩), .pointer (some ⟨tb, 0, none⟩), .pointer calling, .pointer called, .pointer (some ⟨sb, 0, none⟩), .string mc, x15, x16, x17, x18, x19, x20, x21, x22, x23, x24, x25, x26, x27, x28, x29, x30, x31, x32, x33, x34, x35, x36, x37, x38, x39, x40, x41, x42, x43, x44, x45, x46, x47, x48, x49, x50, x51, x52, x53, x54, x55, x56, x57, x58, x59, x60, x61, x62, x63, x64, x65, x66, x67, x68, x69, x70, x71, x72, x73, x74, x75, x76, x77, x78, x79, x80, x81, x82, x83, x84, x85, x86, x87, x88, x89, x90, x91, x92, x93, x94, x95, x96, x97, x98, x99, x100, x101, x102, x103, x104, x105, x106, x107, x108, x109, x110, x111, x112, x113, x114, x115, x116, x117, x118, x119, x120, x121, x122, x123, x124, x125, x126, x127, x128, x129, x130, x131, x132, x133, x134, x135, x136, x137, x138, x139, x140, x141, x142, x143, x144, x145, x146, x147, x148, x149, x150, x151, x152, x153, x154, x155, x156, x157, x158, x159, x160, x161, x162, x163, x164, x165, x166, x167, x168, x169, x170, x171, x172, x173, x174, x175, x176, x177, x178, x179, x180, x181, x182, x183, x184, x185, x186, x187, x188, x189, x190, x191, x192, x193, x194, x195, x196, x197, x198, x199, x200, x201, x202, x203, x204, x205, x206, x207, x208, x209, x210, x211, x212, x213, x214, x215, x216, x217, x218, x219, x220, x221, x222, x223, x224, x225, x226, x227, x228, x229, x230, x231, x232, x233, x234, x235, x236, x237, x238, x239, x240, x241, x242, x243, x244, x245, x246, x247, x248, x249, x250, x251, x252, x253, x254, x255, x256, x257, x258, x259, x260, x261, x262, x263, x264, x265, x266, x267, x268, x269, x270, x271, x272, x273, x274, x275, x276, x277, x278, x279, x280, x281], []⟩ wr := by
  conv => arg 2; whnf
  have j1 := hS.laid.arg.c1
  have j2 := hS.laid.arg.c2
  have j10 := hS.laid.arg.c10
  have HS : Hid (Served w wr i n calling called ob tb sb mb mo bo mt bt a1 a2 ao at_ c1 c2 co ct) := hS
  have HT : Hid (TableAt w gb) := hT
  have HO : Hid (OwnIs calling called ob) := hO
  clear hS hT hO
  go_upto_if 116 with fail
  go_cut [15] from 116 to 118 (fun s15 W => (∃ fr, s15 = .string fr) ∧ Served w W i n calling called ob tb sb mb mo bo mt bt a1 a2 ao at_ c1 c2 co ct)
  case first =>
    cases hu : i.useP <;>
      (go_wp2_with fail
       go_meet
       case rel => exact ⟨⟨_, rfl⟩, HS.out⟩)
  case rest =>
    obtain ⟨⟨fr, rfl⟩, hS⟩ := hcut
    have HS2 : Hid (Served w wc i n calling called ob tb sb mb mo bo mt bt a1 a2 ao at_ c1 c2 co ct) := hS
    clear hS HS j1 j2 j10
    go_upto_region 27 with fail
    go_cut [16] from 119 to 124 (fun s16 W => After w W i n calling called ob tb mc ch fr mo bo mt bt s16)
    case first =>
      have hB := HS2.out.laid.below
      have hsz := HS2.out.laid.size
      have g0 : wc.cell? ⟨0, 0, none⟩ = some (.map (some gb)) := (hB.cell (p := ⟨0, 0, none⟩) HT.out.pos).trans HT.out.cell
      have hgl : gb < wc.heap.size := by have := HT.out.lt; omega
      have h0l : 0 < wc.heap.size := by omega
      have hct : ∀ W' : World, W'.heap[gb]? = wc.heap[gb]? → (Instr.lookup 71 (.map (some gb)) (.string ch) true).run Ybad.prog W' = .ok (.tuple #[.int .u8 (ctlOf ch), .bool (knownB ch)]) W' :=
        fun W' h => HT.out.look ch W' hch (h.trans (hB.block gb HT.out.lt))
      have HX : Hid _ := And.intro g0 hct
      clear hB g0 hct
      go_wp2_with fail
      by_cases hA : mc.toList = i.callID.toList
      · by_cases hF : fr.toList = i.peer.toList
        · cases hK : knownB ch with
          | false =>
            have hct2 : ∀ W' : World, W'.heap[gb]? = wc.heap[gb]? → (Instr.lookup 71 (.map (some gb)) (.string ch) true).run Ybad.prog W' = .ok (.tuple #[.int .u8 (ctlOf ch), .bool false]) W' := fun W' h => by rw [HX.out.2 W' h, hK]
            refine (change_unknown sb mb gb (w.heap.size + 2) mc ch fr i.peer (ctlOf ch) _ HS2.out.sb_lt HS2.out.mb_lt hgl HS2.out.laid.call.lt h0l HS2.out.srv HX.out.1 HS2.out.laid.call.c7 hF.symm (HS2.out.look_yes hA) hct2).mono ?_
            rintro e w' ⟨rfl, hb⟩
            have HF : Hid (After w w' i n calling called ob tb mc ch fr mo bo mt bt (.slice none 0 0)) := after_miss (mc := mc) (ch := ch) (fr := fr) HS2.out hb (.inr (.inr ⟨hA, hF, hK⟩))
            clear hb hct2
            go_wp2_with fail
            go_meet
            case rel => exact HF.out
          | true =>
            have hct2 : ∀ W' : World, W'.heap[gb]? = wc.heap[gb]? → (Instr.lookup 71 (.map (some gb)) (.string ch) true).run Ybad.prog W' = .ok (.tuple #[.int .u8 (ctlOf ch), .bool true]) W' := fun W' h => by rw [HX.out.2 W' h, hK]
            by_cases hR : ch.toList = [114, 101, 108, 101, 97, 115, 101]
            · refine (change_release sb mb gb (w.heap.size + 2) ob (w.heap.size + 5) n mc ch fr i.callID i.peer oldS mo bo (.pointer calling) (.pointer called) (.slice ao n co) (reqs n) i.rel (ctlOf ch) _ HS2.out.sb_lt HS2.out.mb_lt hgl h0l hn7 hob5 (by omega) hsz HS2.out.srv HX.out.1 HS2.out.laid.call HS2.out.own HS2.out.row hF.symm hR (own7 HO.out) (HS2.out.look_yes hA) hct2).mono ?_
              rintro e w' ⟨outb, rfl, hp⟩
              have HF : Hid (After w w' i n calling called ob tb mc ch fr mo bo mt bt (.slice (some ⟨outb, 0, none⟩) 1 1)) := after_hit (mc := mc) HS2.out hne hobN hp (.inl ⟨hR, rfl, rfl⟩) hA hF hK
              clear hp hct2
              go_wp2_with fail
              go_meet
              case rel => exact HF.out
            · refine (change_hit sb mb gb (w.heap.size + 2) ob (w.heap.size + 5) n mc ch fr i.callID i.peer oldS mo bo (.pointer calling) (.pointer called) (.slice ao n co) (reqs n) i.rel (ctlOf ch) _ HS2.out.sb_lt HS2.out.mb_lt hgl h0l hn7 hob5 (by omega) hsz HS2.out.srv HX.out.1 HS2.out.laid.call HS2.out.own HS2.out.row hF.symm hR (own7 HO.out) (HS2.out.look_yes hA) hct2).mono ?_
              rintro e w' ⟨outb, rfl, hp⟩
              have HF : Hid (After w w' i n calling called ob tb mc ch fr mo bo mt bt (.slice (some ⟨outb, 0, none⟩) 1 1)) := after_hit (mc := mc) HS2.out hne hobN hp (.inr ⟨hR, rfl, rfl⟩) hA hF hK
              clear hp hct2
              go_wp2_with fail
              go_meet
              case rel => exact HF.out
        · refine (change_peer sb mb gb (w.heap.size + 2) mc ch fr i.peer (ctlOf ch) (knownB ch) _ HS2.out.sb_lt HS2.out.mb_lt hgl HS2.out.laid.call.lt h0l HS2.out.srv HX.out.1 HS2.out.laid.call.c7 (fun e => hF e.symm) (HS2.out.look_yes hA) HX.out.2).mono ?_
          rintro e w' ⟨rfl, hb⟩
          have HF : Hid (After w w' i n calling called ob tb mc ch fr mo bo mt bt (.slice none 0 0)) := after_miss (mc := mc) (ch := ch) (fr := fr) HS2.out hb (.inr (.inl ⟨hA, hF⟩))
          clear hb
          go_wp2_with fail
          go_meet
          case rel => exact HF.out
      · refine (change_nocall sb mb gb mc ch fr (ctlOf ch) (knownB ch) _ HS2.out.sb_lt HS2.out.mb_lt hgl h0l HS2.out.srv HX.out.1 (HS2.out.look_no hA) HX.out.2).mono ?_
        rintro e w' ⟨rfl, hb⟩
        have HF : Hid (After w w' i n calling called ob tb mc ch fr mo bo mt bt (.slice none 0 0)) := after_miss (mc := mc) (ch := ch) (fr := fr) HS2.out hb (.inl hA)
        clear hb
        go_wp2_with fail
        go_meet
        case rel => exact HF.out
    case rest =>
      go_step
      rcases hcut with ⟨b1, b2, d1, d2, rfl, hd, hm⟩ | ⟨rel', relr', at2, outb, ct2, g, cap, rfl, hd, hr, hmc, hfr, hkn⟩
      · exact law_miss i n w _ ch mc fr calling called b1 b2 ob tb d1 d2 _ _ _ _ _ _ _ _ _ _ _ _ _ _ _ _ _ _ _ _ _ _ _ _ _ _ _ _ _ _ _ _ _ _ _ _ _ _ _ _ _ _ _ _ _ _ _ _ _ _ _ _ _ _ _ _ _ _ _ _ _ _ _ _ _ _ _ _ _ _ _ _ _ _ _ _ _ _ _ _ _ _ _ _ _ _ _ _ _ _ _ _ _ _ _ _ _ _ _ _ _ _ _ _ _ _ _ _ _ _ _ _ _ _ _ _ _ _ _ _ _ _ _ _ _ _ _ _ _ _ _ _ _ _ _ _ _ _ _ _ _ _ _ _ _ _ _ _ _ _ _ _ _ _ _ _ _ _ _ _ _ _ _ _ _ _ _ _ _ _ _ _ _ _ _ _ _ _ _ _ _ _ _ _ _ _ _ _ _ _ _ _ _ _ _ _ _ _ _ _ _ _ _ _ _ _ _ _ _ _ _ _ _ _ _ _ _ _ _ _ _ _ _ _ _ _ _ _ _ _ _ _ _ _ _ _ _ _ _ _ _ _ _ _ _ _ _ _ _ _ _ _ _ _ _ _ _ _ _ _ _ _ _ _ _ _ hd hm
      · exact law_hit i n w _ ch mc fr mo bo mt bt relr' rel' calling called at2 ob tb outb ct2 g cap _ _ _ _ _ _ _ _ _ _ _ _ _ _ _ _ _ _ _ _ _ _ _ _ _ _ _ _ _ _ _ _ _ _ _ _ _ _ _ _ _ _ _ _ _ _ _ _ _ _ _ _ _ _ _ _ _ _ _ _ _ _ _ _ _ _ _ _ _ _ _ _ _ _ _ _ _ _ _ _ _ _ _ _ _ _ _ _ _ _ _ _ _ _ _ _ _ _ _ _ _ _ _ _ _ _ _ _ _ _ _ _ _ _ _ _ _ _ _ _ _ _ _ _ _ _ _ _ _ _ _ _ _ _ _ _ _ _ _ _ _ _ _ _ _ _ _ _ _ _ _ _ _ _ _ _ _ _ _ _ _ _ _ _ _ _ _ _ _ _ _ _ _ _ _ _ _ _ _ _ _ _ _ _ _ _ _ _ _ _ _ _ _ _ _ _ _ _ _ _ _ _ _ _ _ _ _ _ _ _ _ _ _ _ _ _ _ _ _ _ _ _ _ _ _ _ _ _ _ _ _ _ _ _ _ _ _ _ _ _ _ _ _ _ _ _ _ _ _ _ _ _ _ _ _ _ _ _ _ _ _ _ _ _ _ _ hn7 hd hr hmc hfr hkn

end Go.Proofs.YbulkabjgDoor
