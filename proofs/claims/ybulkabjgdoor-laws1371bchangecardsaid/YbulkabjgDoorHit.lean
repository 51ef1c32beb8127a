/-
  THE LAW BEHIND A CALL OF 'change' THAT HIT.
-/
import Derived.Test.YbulkabjgDoorMiss
import Derived.Test.YbulkabjgDoorSame
namespace Go.Proofs.YbulkabjgDoor
open Go.RowKit

theorem ctl_1 {ch : ByteArray} (h : ch.toList = [114, 101, 108, 101, 97, 115, 101, 45, 102, 111, 114, 45, 104, 97, 110, 100, 111, 118, 101, 114]) : ctlOf ch = 4 := by simp [ctlOf, h]
theorem ctl_2 {ch : ByteArray} (h1 : ¬ ch.toList = [114, 101, 108, 101, 97, 115, 101, 45, 102, 111, 114, 45, 104, 97, 110, 100, 111, 118, 101, 114]) (h : ch.toList = [100, 108, 45, 100, 97, 116, 97, 45, 97, 102, 116, 101, 114, 45, 104, 97, 110, 100, 111, 118, 101, 114]) : ctlOf ch = 5 := by unfold ctlOf; rw [if_neg h1, if_pos h]
theorem ctl_3 {ch : ByteArray} (h1 : ¬ ch.toList = [114, 101, 108, 101, 97, 115, 101, 45, 102, 111, 114, 45, 104, 97, 110, 100, 111, 118, 101, 114]) (h2 : ¬ ch.toList = [100, 108, 45, 100, 97, 116, 97, 45, 97, 102, 116, 101, 114, 45, 104, 97, 110, 100, 111, 118, 101, 114]) (h : ch.toList = [114, 101, 108, 101, 97, 115, 101]) : ctlOf ch = 3 := by unfold ctlOf; rw [if_neg h1, if_neg h2, if_pos h]

/-- What stands behind a hit. -/
structure Hits (w wr : World) (i : In) (n ob tb outb : Nat) (mo bo mt bt ch fr : ByteArray) (rel' : Bool) (relr' : ByteArray) (calling called : Value) (at_ : Option Addr) (ct g cap : Nat) : Prop where
  arg : InAt wr w.heap.size i
  call : CallAt wr (w.heap.size + 2) i.callID i.peer calling called rel' relr'
  own : LegAt wr ob mo bo (w.heap.size + 2) (.slice (some ⟨g, 0, none⟩) (n + 1) cap)
  oth : LegAt wr tb mt bt (w.heap.size + 2) (.slice at_ n ct)
  row : wr.ownsRow (w.heap.size + 5) 68 2 (.slice (some ⟨g, 0, none⟩) (n + 1) cap) (n + 1) (reqs n ++ [.string ch, .string fr])
  out : wr.heap[outb]? = some (.cells (outCells bo mo (ctlOf ch)) 66 (0, 0))
  below : Below w.heap.size w wr

section
variable {w wr : World} {i : In} {n ob tb outb : Nat} {mo bo mt bt ch fr : ByteArray} {rel' : Bool} {relr' : ByteArray} {calling called : Value} {at_ : Option Addr} {ct g cap : Nat}
theorem Hits.drawn {nq : Nat} (h : Hits w wr i n ob tb outb mo bo mt bt ch fr rel' relr' calling called at_ ct g cap) : Hits w (wr.drewN nq) i n ob tb outb mo bo mt bt ch fr rel' relr' calling called at_ ct g cap :=
  ⟨h.arg, h.call, h.own, h.oth, h.row, h.out, below_drewN h.below⟩
theorem Hits.req0 (h : Hits w wr i n ob tb outb mo bo mt bt ch fr rel' relr' calling called at_ ct g cap) : wr.cell? ⟨g, n * 2, none⟩ = some (.string ch) := by
  rw [h.row.cellAt (n * 2) (by omega), List.getElem?_append_right (by rw [reqs_length]; omega), reqs_length]; simp
theorem Hits.req1 (h : Hits w wr i n ob tb outb mo bo mt bt ch fr rel' relr' calling called at_ ct g cap) : wr.cell? ⟨g, n * 2 + 1, none⟩ = some (.string fr) := by
  rw [h.row.cellAt (n * 2 + 1) (by omega), List.getElem?_append_right (by rw [reqs_length]; omega), reqs_length]; simp
end

/-- A whole struct out of a block that is known whole, in a region that only reads. -/
theorem wpQuiet_load_row {P : Program} {ops : Array Oper} {rest : List Oper} {o : Oper} {a : Act} {w : World} {Q : Act → Prop} (ty : TypeId) (x : Operand) (b : Nat) (c : Array Value) (d : TypeDesc) (fr : Nat × Nat)
    (hgd : o.guard = none) (ho : o.op = .load ty x) (hx : a.eval x = .pointer (some ⟨b, 0, none⟩)) (hw : w.heap[b]? = some (.cells c ty fr))
    (hu : P.underlying ty = some d) (hd : (match d with | .struct _ | .array _ _ => true | _ => false) = true) (hi : (P.info? ty).map (·.size) = some c.size)
    (h : wpQuiet P ops (fun w' => ∃ n, w' = w.drewN n) Q rest (a.put o.dst (.agg c))) : wpQuiet P ops (fun w' => ∃ n, w' = w.drewN n) Q (o :: rest) a := by
  have hwt : Region.wanted o (yielded ops a.tmps) = true := by simp [Region.wanted, hgd]
  unfold wpQuiet
  rw [if_pos hwt]
  refine ⟨.agg c, fun w' hw' => ?_, h⟩
  obtain ⟨n, rfl⟩ := hw'
  unfold Oper.quietAt execOp
  simp only [ho, hx, Instr.loadAt, Instr.sureAddr, Sem.run_bind, Sem.run_pure, Result.andThen_ok, run_loadVar_row (w.drewN n) b ty ty c fr d hw hu hd hi]
  exact ⟨rfl, rfl⟩

set_option maxHeartbeats 2000000 in
set_option maxRecDepth 100000 in
theorem law_hit (i : In) (n : Nat) (w wr : World) (ch mc fr mo bo mt bt relr' : ByteArray) (rel' : Bool) (calling called at_ : Option Addr) (ob tb outb ct g cap : Nat) (x13 x17 x18 x19 x20 x21 x22 x23 x24 x25 x26 x27 x28 x29 x30 x31 x32 x33 x34 x35 x36 x37 x38 x39 x40 x41 x42 x43 x44 x45 x46 x47 x48 x49 x50 x51 x52 x53 x54 x55 x56 x57 x58 x59 x60 x61 x62 x63 x64 x65 x66 x67 x68 x69 x70 x71 x72 x73 x74 x75 x76 x77 x78 x79 x80 x81 x82 x83 x84 x85 x86 x87 x88 x89 x90 x91 x92 x93 x94 x95 x96 x97 x98 x99 x100 x101 x102 x103 x104 x105 x106 x107 x108 x109 x110 x111 x112 x113 x114 x115 x116 x117 x118 x119 x120 x121 x122 x123 x124 x125 x126 x127 x128 x129 x130 x131 x132 x133 x134 x135 x136 x137 x138 x139 x140 x141 x142 x143 x144 x145 x146 x147 x148 x149 x150 x151 x152 x153 x154 x155 x156 x157 x158 x159 x160 x161 x162 x163 x164 x165 x166 x167 x168 x169 x170 x171 x172 x173 x174 x175 x176 x177 x178 x179 x180 x181 x182 x183 x184 x185 x186 x187 x188 x189 x190 x191 x192 x193 x194 x195 x196 x197 x198 x199 x200 x201 x202 x203 x204 x205 x206 x207 x208 x209 x210 x211 x212 x213 x214 x215 x216 x217 x218 x219 x220 x221 x222 x223 x224 x225 x226 x227 x228 x229 x230 x231 x232 x233 x234 x235 x236 x237 x238 x239 x240 x241 x242 x243 x244 x245 x246 x247 x248 x249 x250 x251 x252 x253 x254 x255 x256 x257 x258 x259 x260 x261 x262 x263 x264 x265 x266 x267 x268 x269 x270 x271 x272 x273 x274 x275 x276 x277 x278 x279 x280 x281 : Value) (hn7 : n ≤ 7)
    (hd : Hits w wr i n ob tb outb mo bo mt bt ch fr rel' relr' (.pointer calling) (.pointer called) at_ ct g cap)
    (hr : (ch.toList = [114, 101, 108, 101, 97, 115, 101] ∧ rel' = true ∧ relr' = fr) ∨ (¬ ch.toList = [114, 101, 108, 101, 97, 115, 101] ∧ rel' = i.rel ∧ relr' = oldS))
    (hmc : mc.toList = i.callID.toList) (hfr : fr.toList = i.peer.toList) (hkn : knownB ch = true) :
    Code.wp Ybad.prog (dropSeq 18 (Ybad.f3.body.getD .skip)) (bodyPost Ybad.prog Ybad.f3 fun e w' => e = .returned (.bool true) ∧ Below w.heap.size w w')
      ⟨#[.agg (inCells i), .pointer (some ⟨w.heap.size, 0, none⟩), .bool false, .pointer (some ⟨w.heap.size + 1, 0, none⟩), .string ch, .int .i64 n, .pointer (some ⟨w.heap.size + 2, 0, none⟩), .pointer (some ⟨w.heap.size + 2 + 1, 0, none⟩), .pointer (some ⟨w.heap.size + 2 + 1 + 1, 0, none⟩), .pointer (some ⟨ob, 0, none⟩), .pointer (some ⟨tb, 0, none⟩), .pointer calling, .pointer called, x13, .string mc, .string fr, .slice (some ⟨outb, 0, none⟩) 1 1, x17, x18, x19, x20, x21, x22, x23, x24, x25, x26, x27, x28, x29, x30, x31, x32, x33, x34, x35, x36, x37, x38, x39, x40, x41, x42, x43, x44, x45, x46, x47, x48, x49, x50, x51, x52, x53, x54, x55, x56, x57, x58, x59, x60, x61, x62, x63, x64, x65, x66, x67, x68, x69, x70, x71, x72, x73, x74, x75, x76, x77, x78, x79, x80, x81, x82, x83, x84, x85, x86, x87, x88, x89, x90, x91, x92, x93, x94, x95, x96, x97, x98, x99, x100, x101, x102, x103, x104, x105, x106, x107, x108, x109, x110, x111, x112, x113, x114, x115, x116, x117, x118, x119, x120, x121, x122, x123, x124, x125, x126, x127, x128, x129, x130, x131, x132, x133, x134, x135, x136, x137, x138, x139, x140, x141, x142, x143, x144, x145, x146, x147, x148, x149, x150, x151, x152, x153, x154, x155, x156, x157, x158, x159, x160, x161, x162, x163, x164, x165, x166, x167, x168, x169, x170, x171, x172, x173, x174, x175, x176, x177, x178, x179, x180, x181, x182, x183, x184, x185, x186, x187, x188, x189, x190, x191, x192, x193, x194, x195, x196, x197, x198, x199, x200, x201, x202, x203, x204, x205, x206, x207, x208, x209, x210, x211, x212, x213, x214, x215, x216, x217, x218, x219, x220, x221, x222, x223, x224, x225, x226, x227, x228, x229, x230, x231, x232, x233, x234, x235, x236, x237, x238, x239, x240, x241, x242, x243, x244, x245, x246, x247, x248, x249, x250, x251, x252, x253, x254, x255, x256, x257, x258, x259, x260, x261, x262, x263, x264, x265, x266, x267, x268, x269, x270, x271, x272, x273, x274, x275, x276, x277, x278, x279, x280, x281], []⟩ wr := by
  conv => arg 2; whnf
  have hpn : ∀ (pc : Option Addr) (W : World), (binOp .neq 29 (.pointer pc) (.pointer pc)).run Ybad.prog W = .ok (.bool false) W := ptr_neq_same
  have k3 := hd.call.c3
  have k4 := hd.call.c4
  have k7 := hd.call.c7
  have j1 := hd.arg.c1
  have HD : Hid (Hits w wr i n ob tb outb mo bo mt bt ch fr rel' relr' (.pointer calling) (.pointer called) at_ ct g cap) := hd
  have HR : Hid ((ch.toList = [114, 101, 108, 101, 97, 115, 101] ∧ rel' = true ∧ relr' = fr) ∨ (¬ ch.toList = [114, 101, 108, 101, 97, 115, 101] ∧ rel' = i.rel ∧ relr' = oldS)) := hr
  clear hd hr
  go_wp2_with fail
  go_quiet (fail)
  go_upto_block 1 with fail
  go_cut [17, 18] (fun s17 s18 W => s17 = .int .u8 (ctlOf ch) ∧ s18 = .bool true ∧ Hits w W i n ob tb outb mo bo mt bt ch fr rel' relr' (.pointer calling) (.pointer called) at_ ct g cap)
  case first =>
    have HD2 : Hid (Hits w (wr.drewN nq) i n ob tb outb mo bo mt bt ch fr rel' relr' (.pointer calling) (.pointer called) at_ ct g cap) := HD.out.drawn
    clear HD k3 k4 k7 j1 hpn
    by_cases e1 : ch.toList = [114, 101, 108, 101, 97, 115, 101, 45, 102, 111, 114, 45, 104, 97, 110, 100, 111, 118, 101, 114]
    · have HK : Hid (ctlOf ch = 4) := ctl_1 e1
      go_wp2_with fail
      go_meet
      case rel => exact ⟨congrArg (Value.int .u8) HK.out.symm, rfl, HD2.out⟩
    · have d1 : (ch.toList == [114, 101, 108, 101, 97, 115, 101, 45, 102, 111, 114, 45, 104, 97, 110, 100, 111, 118, 101, 114]) = false := by simpa using e1
      by_cases e2 : ch.toList = [100, 108, 45, 100, 97, 116, 97, 45, 97, 102, 116, 101, 114, 45, 104, 97, 110, 100, 111, 118, 101, 114]
      · have HK : Hid (ctlOf ch = 5) := ctl_2 e1 e2
        go_wp2_with fail
        go_meet
        case rel => exact ⟨congrArg (Value.int .u8) HK.out.symm, rfl, HD2.out⟩
      · have d2 : (ch.toList == [100, 108, 45, 100, 97, 116, 97, 45, 97, 102, 116, 101, 114, 45, 104, 97, 110, 100, 111, 118, 101, 114]) = false := by simpa using e2
        by_cases e3 : ch.toList = [114, 101, 108, 101, 97, 115, 101]
        · have HK : Hid (ctlOf ch = 3) := ctl_3 e1 e2 e3
          go_wp2_with fail
          go_meet
          case rel => exact ⟨congrArg (Value.int .u8) HK.out.symm, rfl, HD2.out⟩
        · have := known_no e1 e2 e3
          rw [hkn] at this
          cases this
  case rest =>
    obtain ⟨rfl, rfl, hd⟩ := hcut
    have j0 := hd.arg.c0
    have j1' := hd.arg.c1
    have j11 := hd.arg.c11
    have k13 := hd.call.c13
    have k14 := hd.call.c14
    have l0 := hd.own.mob
    have l1 := hd.own.bss
    have l5 := hd.own.controls
    have t5 := hd.oth.controls
    have q0 := hd.req0
    have q1 := hd.req1
    have hns : ∀ (W : World) (b m : ByteArray) (c : Int), (binOp .neq 66 (.agg (outCells b m c)) (.agg (outCells b m c))).run Ybad.prog W = .ok (.bool false) W := out_same
    have HD3 : Hid (Hits w wc i n ob tb outb mo bo mt bt ch fr rel' relr' (.pointer calling) (.pointer called) at_ ct g cap) := hd
    clear hd HD k3 k4 k7 j1 hpn
    go_wp2_with fail
    refine wp_region_quiet_lit (by kernel_rfl) (by kernel_rfl) ?_
    iterate 2 (first | go_big_quiet_step (fail) | quiet_step (fail))
    refine wpQuiet_load_row 66 (.tmp 210) outb (outCells bo mo (ctlOf ch)) _ (0, 0) rfl rfl (by go_simp) HD3.out.out Ybad.underlying66 rfl (size66.trans (by simp)) ?_
    repeat (first | go_big_quiet_step (fail) | quiet_step (fail))
    refine wpQuiet_nil ?_
    intro _ hw'
    obtain ⟨nq2, hw''⟩ := hw'
    subst hw''
    have hfin := HD3.out.below
    rcases HR.out with ⟨e, rfl, rfl⟩ | ⟨e, rfl, rfl⟩
    · have HF : Hid _ := hfin
      clear hfin HR HD3
      go_wp2_with fail
      go_ret
      exact ⟨rfl, below_drewN HF.out⟩
    · have HF : Hid _ := hfin
      have d : (ch.toList == [114, 101, 108, 101, 97, 115, 101]) = false := by simpa using e
      clear hfin HR HD3
      go_wp2_with fail
      go_quiet (fail)
      go_wp2_with fail
      go_ret
      exact ⟨rfl, below_drewN (below_drewN HF.out)⟩

end Go.Proofs.YbulkabjgDoor
