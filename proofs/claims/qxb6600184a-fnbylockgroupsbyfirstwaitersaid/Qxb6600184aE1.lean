import Derived.Test.Qxb6600184aD2
import Derived.Deep.RegionHeld3
namespace Go.Proofs.Qxb6600184a
set_option linter.unusedVariables false
set_option linter.unusedSimpArgs false
open Go.RowKit
attribute [local go_sem ↓] Go.wp_at_zero Go.wp_at_succ

/-- region number k of a code -/
def atRegion (k : Nat) : Code → Option Code
  | .region i ops b => if i = k then some (.region i ops b) else none
  | .seq a b => match atRegion k a with
    | some c => some c
    | none => atRegion k b
  | .cond _ a b => match atRegion k a with
    | some c => some c
    | none => atRegion k b
  | .block _ c => atRegion k c
  | .loop c => atRegion k c
  | .scope c => atRegion k c
  | _ => none
/-- 'ls.queues = append(ls.queues, queue{active: ls.active.of(k), waiting: ls.waiting.of(k), ..})' -/
noncomputable def reg64 : Code := ((Try.f26.body.bind (atRegion 64)).getD .skip)

set_option maxRecDepth 1000000 in
set_option maxHeartbeats 16000000 in
theorem region64 {Q : Exit → Act → World → Prop} (wX wr : World) (bl bm gs gs2 K Cw Ca k nA nW : Nat) (D : List ByteArray) (v2 v3 vi vf vi2 vf2 vs : Value) (xs : List Value) (PA PW : Option Addr → Prop)
    (hk : k ≤ 65536) (hL : LS wX bl bm D 1 v2 v3 (.slice (some ⟨gs, 0, none⟩) (K + 1) Cw) vi vf (.slice (some ⟨gs2, 0, none⟩) (K + 1) Ca) vi2 vf2 vs wr) (hown : wr.ownsRow wX.heap.size 57 5 vs k xs)
    (hA : ∀ (wa : World) {R' : Ending → World → Prop}, (LS wX bl bm D 1 v2 v3 (.slice (some ⟨gs, 0, none⟩) (K + 1) Cw) vi vf (.slice (some ⟨gs2, 0, none⟩) (K + 1) Ca) vi2 vf2 vs wa ∧ wa.ownsRow wX.heap.size 57 5 vs k xs) → (∀ ao' C' wb, PA ao' → Hid (LS wX bl bm D 1 v2 v3 (.slice (some ⟨gs, 0, none⟩) (K + 1) Cw) vi vf (.slice (some ⟨gs2, 0, none⟩) (K + 1) Ca) vi2 vf2 vs wb ∧ wb.ownsRow wX.heap.size 57 5 vs k xs) → wb.cell? ⟨bl, 4, none⟩ = some (.slice (some ⟨gs, 0, none⟩) (K + 1) Cw) → wb.cell? ⟨bl, 5, none⟩ = some vi → wb.cell? ⟨bl, 10, none⟩ = some vs → bl < wb.heap.size → R' (.returned (.slice ao' nA C')) wb) → Calls Try.prog 33 #[.agg #[(.slice (some ⟨gs2, 0, none⟩) (K + 1) Ca), vi2], .int .i64 k] wa R')
    (hB : ∀ (wa : World) {R' : Ending → World → Prop}, (LS wX bl bm D 1 v2 v3 (.slice (some ⟨gs, 0, none⟩) (K + 1) Cw) vi vf (.slice (some ⟨gs2, 0, none⟩) (K + 1) Ca) vi2 vf2 vs wa ∧ wa.ownsRow wX.heap.size 57 5 vs k xs) → (∀ ao' C' wb, PW ao' → Hid (LS wX bl bm D 1 v2 v3 (.slice (some ⟨gs, 0, none⟩) (K + 1) Cw) vi vf (.slice (some ⟨gs2, 0, none⟩) (K + 1) Ca) vi2 vf2 vs wb ∧ wb.ownsRow wX.heap.size 57 5 vs k xs) → wb.cell? ⟨bl, 10, none⟩ = some vs → bl < wb.heap.size → R' (.returned (.slice ao' nW C')) wb) → Calls Try.prog 33 #[.agg #[(.slice (some ⟨gs, 0, none⟩) (K + 1) Cw), vi], .int .i64 k] wa R')
    (x1 x2 x3 x4 x5 x6 x7 x8 x9 x10 x11 x12 x13 x14 x15 x16 x17 x18 x19 x20 x21 x22 x23 x24 x25 x26 x27 x28 x29 x30 x32 x33 x34 x35 x36 x37 x38 x39 x40 x41 x42 x43 x44 x45 x46 x47 x48 x49 x50 x51 x52 x53 x54 x55 x56 x57 x58 x59 x60 x61 x62 x63 x64 x65 x66 x67 x68 x69 x70 x71 x72 x73 x74 x75 x76 x77 x78 x79 x80 x81 x82 x83 x84 x85 x86 x87 x88 x89 x90 x91 x92 x93 x94 x95 x96 x97 x98 x99 x100 x101 x102 x103 x104 x105 x106 x107 x108 x109 x110 x111 x112 x113 x114 x115 x116 x117 x118 x119 x120 x121 x122 x123 x124 x125 x126 x127 x128 x129 x130 x131 x132 x133 x134 x135 x136 x137 x138 x139 x140 x141 x142 x143 x144 x145 x146 x147 x148 x149 x150 x151 x152 x153 x154 x155 x156 x157 x158 x159 x160 x161 x162 x163 x164 x165 x166 x167 x168 x169 x170 x171 x172 x173 x174 x175 x176 x177 x178 x179 x180 x181 x182 x183 x184 x185 x186 x187 x188 x189 x190 x191 x192 x193 x194 x195 x196 x197 x198 x199 x200 x201 x202 x203 x204 x205 x206 x207 x208 x209 x210 x211 x212 x213 x214 x215 x216 x217 x218 x219 x220 x221 x222 x223 x224 x225 x226 x227 x228 x229 x230 x231 x232 x233 x234 x235 x236 x237 x238 x239 x240 x241 x242 x243 x244 x245 x246 x247 x248 x249 x250 x251 x252 x253 x254 x255 x256 x257 x258 x259 x260 x261 x262 x263 x264 x265 x266 x267 x268 x269 x270 x271 x272 x273 x274 x275 x276 x277 x278 x279 x280 x281 x282 x283 x284 x285 x286 x287 x288 x289 x290 x291 x292 x293 x294 x295 x296 x297 : Value)
    (hQ : ∀ (ao1 : Option Addr) (C1 : Nat) (ao2 : Option Addr) (C2 g13 cap13 : Nat) (w13 : World) (y269 y270 y271 y272 y273 y274 y275 y276 y277 y278 y279 y280 y281 y282 y283 y284 y285 y286 y287 y288 y289 y290 y291 y292 : Value), PA ao1 → PW ao2 → LS wX bl bm D 1 v2 v3 (.slice (some ⟨gs, 0, none⟩) (K + 1) Cw) vi vf (.slice (some ⟨gs2, 0, none⟩) (K + 1) Ca) vi2 vf2 vs w13 → w13.ownsRow wX.heap.size 57 5 (.slice (some ⟨g13, 0, none⟩) (k + 1) cap13) (k + 1) (xs ++ [.slice ao1 nA C1, (.slice none 0 0), .slice ao2 nW C2, (.slice none 0 0), .int .u8 0]) →
      Q .normal ⟨#[(.pointer (some ⟨bl, 0, none⟩)), x1, x2, x3, x4, x5, x6, x7, x8, x9, x10, x11, x12, x13, x14, x15, x16, x17, x18, x19, x20, x21, x22, x23, x24, x25, x26, x27, x28, x29, x30, (.int .i64 k), x32, x33, x34, x35, x36, x37, x38, x39, x40, x41, x42, x43, x44, x45, x46, x47, x48, x49, x50, x51, x52, x53, x54, x55, x56, x57, x58, x59, x60, x61, x62, x63, x64, x65, x66, x67, x68, x69, x70, x71, x72, x73, x74, x75, x76, x77, x78, x79, x80, x81, x82, x83, x84, x85, x86, x87, x88, x89, x90, x91, x92, x93, x94, x95, x96, x97, x98, x99, x100, x101, x102, x103, x104, x105, x106, x107, x108, x109, x110, x111, x112, x113, x114, x115, x116, x117, x118, x119, x120, x121, x122, x123, x124, x125, x126, x127, x128, x129, x130, x131, x132, x133, x134, x135, x136, x137, x138, x139, x140, x141, x142, x143, x144, x145, x146, x147, x148, x149, x150, x151, x152, x153, x154, x155, x156, x157, x158, x159, x160, x161, x162, x163, x164, x165, x166, x167, x168, x169, x170, x171, x172, x173, x174, x175, x176, x177, x178, x179, x180, x181, x182, x183, x184, x185, x186, x187, x188, x189, x190, x191, x192, x193, x194, x195, x196, x197, x198, x199, x200, x201, x202, x203, x204, x205, x206, x207, x208, x209, x210, x211, x212, x213, x214, x215, x216, x217, x218, x219, x220, x221, x222, x223, x224, x225, x226, x227, x228, x229, x230, x231, x232, x233, x234, x235, x236, x237, x238, x239, x240, x241, x242, x243, x244, x245, x246, x247, x248, x249, x250, x251, x252, x253, x254, x255, x256, x257, x258, x259, x260, x261, x262, x263, x264, x265, x266, x267, x268, y269, y270, y271, y272, y273, y274, y275, y276, y277, y278, y279, y280, y281, y282, y283, y284, y285, y286, y287, y288, y289, y290, y291, y292, x293, x294, x295, x296, x297], []⟩ (w13.setCell ⟨bl, 10, none⟩ (.slice (some ⟨g13, 0, none⟩) (k + 1) cap13))) :
    Code.wp Try.prog reg64 Q ⟨#[(.pointer (some ⟨bl, 0, none⟩)), x1, x2, x3, x4, x5, x6, x7, x8, x9, x10, x11, x12, x13, x14, x15, x16, x17, x18, x19, x20, x21, x22, x23, x24, x25, x26, x27, x28, x29, x30, (.int .i64 k), x32, x33, x34, x35, x36, x37, x38, x39, x40, x41, x42, x43, x44, x45, x46, x47, x48, x49, x50, x51, x52, x53, x54, x55, x56, x57, x58, x59, x60, x61, x62, x63, x64, x65, x66, x67, x68, x69, x70, x71, x72, x73, x74, x75, x76, x77, x78, x79, x80, x81, x82, x83, x84, x85, x86, x87, x88, x89, x90, x91, x92, x93, x94, x95, x96, x97, x98, x99, x100, x101, x102, x103, x104, x105, x106, x107, x108, x109, x110, x111, x112, x113, x114, x115, x116, x117, x118, x119, x120, x121, x122, x123, x124, x125, x126, x127, x128, x129, x130, x131, x132, x133, x134, x135, x136, x137, x138, x139, x140, x141, x142, x143, x144, x145, x146, x147, x148, x149, x150, x151, x152, x153, x154, x155, x156, x157, x158, x159, x160, x161, x162, x163, x164, x165, x166, x167, x168, x169, x170, x171, x172, x173, x174, x175, x176, x177, x178, x179, x180, x181, x182, x183, x184, x185, x186, x187, x188, x189, x190, x191, x192, x193, x194, x195, x196, x197, x198, x199, x200, x201, x202, x203, x204, x205, x206, x207, x208, x209, x210, x211, x212, x213, x214, x215, x216, x217, x218, x219, x220, x221, x222, x223, x224, x225, x226, x227, x228, x229, x230, x231, x232, x233, x234, x235, x236, x237, x238, x239, x240, x241, x242, x243, x244, x245, x246, x247, x248, x249, x250, x251, x252, x253, x254, x255, x256, x257, x258, x259, x260, x261, x262, x263, x264, x265, x266, x267, x268, x269, x270, x271, x272, x273, x274, x275, x276, x277, x278, x279, x280, x281, x282, x283, x284, x285, x286, x287, x288, x289, x290, x291, x292, x293, x294, x295, x296, x297], []⟩ wr := by
  have HQ : Hid _ := hQ
  clear hQ
  have HA : Hid _ := @hA
  have HB : Hid _ := @hB
  clear hA hB
  have POST : Hid (∀ (wa wb : World) (o : Obj), Hid (LS wX bl bm D 1 v2 v3 (.slice (some ⟨gs, 0, none⟩) (K + 1) Cw) vi vf (.slice (some ⟨gs2, 0, none⟩) (K + 1) Ca) vi2 vf2 vs wa ∧ wa.ownsRow wX.heap.size 57 5 vs k xs) → (wa.alloc o).grownBy wb vs.ownBlock → (wb.cell? ⟨bl, 10, none⟩ = some vs ∧ wb.frozen? ⟨bl, 10, none⟩ = false ∧ Hid (LS wX bl bm D 1 v2 v3 (.slice (some ⟨gs, 0, none⟩) (K + 1) Cw) vi vf (.slice (some ⟨gs2, 0, none⟩) (K + 1) Ca) vi2 vf2 vs wb))) := by
    intro wa wb o hS hg
    have hL13 := (hS.out.1.alloc o).grown hg (fun x hx => (ownsRow_own hS.out.2 x hx).1)
    exact ⟨hL13.c10, hL13.fz 10, hL13⟩
  have OWN : Hid (∀ (wa : World) (o : Obj), Hid (LS wX bl bm D 1 v2 v3 (.slice (some ⟨gs, 0, none⟩) (K + 1) Cw) vi vf (.slice (some ⟨gs2, 0, none⟩) (K + 1) Ca) vi2 vf2 vs wa ∧ wa.ownsRow wX.heap.size 57 5 vs k xs) → (wa.alloc o).ownsRow wX.heap.size 57 5 vs k xs ∧ wX.heap.size ≤ (wa.alloc o).heap.size) := by
    intro wa o hS
    exact ⟨hS.out.2.alloc _, by have := hS.out.1.fr.size; simp; omega⟩
  have hLd := hL.drew
  have u4 := hLd.c4
  have u5 := hLd.c5
  have u7 := hLd.c7
  have u8 := hLd.c8
  have u10 := hLd.c10
  have hownd : wr.drew.ownsRow wX.heap.size 57 5 vs k xs := hown
  obtain ⟨i0, hi0, hz0, hz1, hz2⟩ := info_parts Try.info57
  have HS0 : Hid _ := And.intro hLd hownd
  clear hLd hownd hL hown
  conv => arg 2; whnf
  refine wp_region_noPanic ?_
  go_region_law ((first
    | (refine step_append_lies _ rfl _ _ 35 rfl wX.heap.size 57 i0 (.agg #[(.slice none 0 0), (.slice none 0 0), (.slice none 0 0), (.slice none 0 0), .int .u8 0]) 5 104 Try.underlying35 hi0 hz0 hz1 hz2 rfl (by decide) vs k xs (by simp [Act.eval, Act.put]) (OWN.out w12 _ HS2).1 ⟨w12.heap.size, 0, none⟩ 1 1 [.slice ao1 nA C1, (.slice none 0 0), .slice ao2 nW C2, (.slice none 0 0), .int .u8 0] (by simp [Act.eval, Act.put]) rfl (World.news_of_block (Go.Deep.blk_alloc_new w12 (.cells #[.slice ao1 nA C1, (.slice none 0 0), .slice ao2 nW C2, (.slice none 0 0), .int .u8 0] 57))) (by intro u hu; simp only [List.mem_cons, List.mem_nil_iff, or_false] at hu; rcases hu with rfl | rfl | rfl | rfl | rfl <;> rfl) (by decide) (by unfold maxLen; omega) (by omega) (OWN.out w12 _ HS2).2 _ rfl ?_; intro g13 cap13 w13 hown13 hgrow13 hat13 hlt13; have P13 := POST.out w12 w13 _ HS2 hgrow13; have r1 := P13.1; have r2 := P13.2.1; have HL13 := P13.2.2; have HO13 : Hid _ := hown13; clear hown13 hgrow13 hat13 hlt13 P13)
    | (go_simp; with_reducible refine HA.out _ HS0.out ?_; intro ao1 C1 w11 hA1 HS1 t4 t5 t10 tl)
    | (go_simp; with_reducible refine HB.out _ HS1.out ?_; intro ao2 C2 w12 hB1 HS2 s10 sl)))
  all_goals
    exact NoPanic.normal (HQ.out ao1 C1 ao2 C2 g13 cap13 w13 _ _ _ _ _ _ _ _ _ _ _ _ _ _ _ _ _ _ _ _ _ _ _ _ hA1 hB1 HL13.out HO13.out)
end Go.Proofs.Qxb6600184a
