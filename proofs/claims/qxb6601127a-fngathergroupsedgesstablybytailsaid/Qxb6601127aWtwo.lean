/-
  gather (34), loops 8 to 11: the second pass.
-/
import Derived.Test.Qxb6601127aPtwo
import Derived.Test.Qxb6601127aGdef
import Derived.Deep.DeepCutAuto
import Derived.Deep.CutBlock
import Derived.Deep.RegionLaw
namespace Go.Proofs.Qxb6601127a.Base
open Go.ChangeShapes Go.WideShapes Go.ChangeAt Go.RowKit
open Cnt (Ed psum cum at' ofR lefts Rngs rg byR frees Pl Pre)
/-- the block of that number -/
def blockOf (n : Nat) : Code → Option Code
  | .block m c => if m = n then some (.block m c) else blockOf n c
  | .seq a b => match blockOf n a with
    | some c => some c
    | none => blockOf n b
  | .loop c => blockOf n c
  | .scope c => blockOf n c
  | .cond _ a b => match blockOf n a with
    | some c => some c
    | none => blockOf n b
  | _ => none
def lenOf (v : Value) : Nat := match v with | .slice _ n _ => n | _ => 0
/-- what does not turn in the second pass -/
structure C2 where
  E : List Ed
  s : Nat
  nR : Nat
  N : Nat
  gr : Nat
  gs : Nat
  gf : Nat
  R : List (List Ck)
  W : World
  ow0 : Ow
/-- at a range's edges: S is laid -/
def In2 (C : C2) (rv : List Value) (r c : Nat) (S : List Ed) (low : Nat) (pv : Value) (w : World) : Prop :=
  ∃ (ow : Ow) (sp pl : List Ck), P2 C.E C.s C.nR C.N C.gr C.gs C.gf r c rv C.R sp (frees C.E C.N S) S pv pl w ow ∧ Step Q2 C.W C.ow0 w ow ∧ low ≤ 512 * pl.length
def At2 (C : C2) (r : Nat) (pv : Value) (w : World) : Prop := ∃ rv : List Value, In2 C rv r 0 (byR C.E C.s r) 0 pv w
/-- the edge is laid, its tail's place not yet moved on -/
def Mid3 (C : C2) (rv : List Value) (r c : Nat) (S : List Ed) (e : Ed) (low be : Nat) (ev : Array Value) (pv : Value) (w : World) : Prop :=
  ∃ (ow : Ow) (sp pl : List Ck), P2 C.E C.s C.nR C.N C.gr C.gs C.gf r c rv C.R sp (frees C.E C.N S) (S ++ [e]) pv pl w ow ∧ Step Q2 C.W C.ow0 w ow ∧ low ≤ 512 * pl.length ∧ At w ow (9, 0, 0) be 70 ev
theorem In2.op {C : C2} {E : List Ed} {s nR N gr gs gf : Nat} {R : List (List Ck)} {W : World} {ow0 : Ow} (hC : C = ⟨E, s, nR, N, gr, gs, gf, R, W, ow0⟩) {rv : List Value} {r c : Nat} {S : List Ed} {low : Nat} {pv : Value} {w : World} (h : In2 C rv r c S low pv w) :
    ∃ (ow : Ow) (sp pl : List Ck), P2 E s nR N gr gs gf r c rv R sp (frees E N S) S pv pl w ow ∧ Step Q2 W ow0 w ow ∧ low ≤ 512 * pl.length := by subst hC; exact h
theorem In2.cl {C : C2} {E : List Ed} {s nR N gr gs gf : Nat} {R : List (List Ck)} {W : World} {ow0 : Ow} (hC : C = ⟨E, s, nR, N, gr, gs, gf, R, W, ow0⟩) {rv : List Value} {r c : Nat} {S : List Ed} {low : Nat} {pv : Value} {w : World}
    (h : ∃ (ow : Ow) (sp pl : List Ck), P2 E s nR N gr gs gf r c rv R sp (frees E N S) S pv pl w ow ∧ Step Q2 W ow0 w ow ∧ low ≤ 512 * pl.length) : In2 C rv r c S low pv w := by subst hC; exact h
theorem In2.go {C : C2} {rv : List Value} {r c : Nat} {S : List Ed} {low : Nat} {pv : Value} {w w' : World} (h : In2 C rv r c S low pv w) (st : ∀ (Q : Pos → Prop) (ow : Ow), Step Q w ow w' ow) : In2 C rv r c S low pv w' := by
  obtain ⟨ow, sp, pl, p2, hs, hl⟩ := h
  exact ⟨ow, sp, pl, p2.step (st (fun _ => False) ow) (fun _ _ h => h), hs.trans (st Q2 ow), hl⟩
theorem Mid3.op {C : C2} {E : List Ed} {s nR N gr gs gf : Nat} {R : List (List Ck)} {W : World} {ow0 : Ow} (hC : C = ⟨E, s, nR, N, gr, gs, gf, R, W, ow0⟩) {rv : List Value} {r c : Nat} {S : List Ed} {e : Ed} {low be : Nat} {ev : Array Value} {pv : Value} {w : World} (h : Mid3 C rv r c S e low be ev pv w) :
    ∃ (ow : Ow) (sp pl : List Ck), P2 E s nR N gr gs gf r c rv R sp (frees E N S) (S ++ [e]) pv pl w ow ∧ Step Q2 W ow0 w ow ∧ low ≤ 512 * pl.length ∧ At w ow (9, 0, 0) be 70 ev := by subst hC; exact h
theorem Mid3.cl {C : C2} {E : List Ed} {s nR N gr gs gf : Nat} {R : List (List Ck)} {W : World} {ow0 : Ow} (hC : C = ⟨E, s, nR, N, gr, gs, gf, R, W, ow0⟩) {rv : List Value} {r c : Nat} {S : List Ed} {e : Ed} {low be : Nat} {ev : Array Value} {pv : Value} {w : World}
    (h : ∃ (ow : Ow) (sp pl : List Ck), P2 E s nR N gr gs gf r c rv R sp (frees E N S) (S ++ [e]) pv pl w ow ∧ Step Q2 W ow0 w ow ∧ low ≤ 512 * pl.length ∧ At w ow (9, 0, 0) be 70 ev) : Mid3 C rv r c S e low be ev pv w := by subst hC; exact h
theorem pre_here {E : List Ed} {s nR N r c q : Nat} {cks : List Ck} {x : Ck} {e : Ed} (hR : Rngs N s nR) (hr : r < nR) (hg : gots cks = ofR E s r) (hx : cks[c]? = some x) (he : x.got[q]? = some e) : Pre E (byR E s r ++ upto cks c q ++ [e]) N := by
  obtain ⟨tl, ht⟩ := upto_split hx he
  obtain ⟨tl2, ht2⟩ := Cnt.byR_split E s (show r + 1 ≤ nR from hr)
  refine Cnt.pre_byR (s := s) (n := nR) (S' := tl ++ tl2) ?_ hR.lt
  rw [ht2, Cnt.byR_succ, ← hg, ht]; simp
theorem tail_in {s N r f : Nat} {e : Ed} (he : e.f = (f : Int)) (hrg : rg s e = r) (hf : f < N) : f + 1 ≤ fst' s N (r + 1) := by
  have hp : 0 < 2 ^ s := Nat.pow_pos (by omega)
  have h1 : f / 2 ^ s < r + 1 := by unfold rg at hrg; rw [he, Int.toNat_natCast] at hrg; omega
  have h2 := (Nat.div_lt_iff_lt_mul hp).1 h1
  unfold fst'; omega
/-- what set leaves -/
def SetP (C : C2) (rv : List Value) (r c : Nat) (S : List Ed) (e : Ed) (low be : Nat) (ev : Array Value) (pv : Value) (z : Ending) (w : World) : Prop := z = .returned (.tuple #[]) ∧ Hid (Mid3 C rv r c S e low be ev pv w)
theorem set_here {C : C2} {E : List Ed} {s nR N gr gs gf : Nat} {R : List (List Ck)} {W : World} {ow0 : Ow} (hC : C = ⟨E, s, nR, N, gr, gs, gf, R, W, ow0⟩) {rv : List Value} {r c : Nat} {S : List Ed} {e : Ed} {low f p gp capp : Nat} {w : World} {ow : Ow} {sp pl : List Ck}
    (p2 : P2 E s nR N gr gs gf r c rv R sp (frees E N S) S (.slice (some ⟨gp, 0, none⟩) pl.length capp) pl w ow) (st : Step Q2 W ow0 w ow) (hlow : low ≤ 512 * pl.length) (hl : Laid w ow (12, 0, 0) (.slice (some ⟨gp, 0, none⟩) pl.length capp) pl gp capp)
    (hf : e.f = (f : Int)) (hfN : f < N) (hpre : Pre E (S ++ [e]) N) (hp : p = cum E f + (at' S f).length) (hp2 : p < low) (hp3 : p < cum E N) (hpb : p ≤ 65536) :
    Calls Try.prog 39 #[.slice (some ⟨gp, 0, none⟩) pl.length capp, .int .i64 (p : Int), .agg #[.int .i32 f, .int .i32 e.t, .int .u32 e.k]] (w.alloc (.cells #[.int .i32 f, .int .i32 e.t, .int .u32 e.k] 70)).drew (SetP C rv r c S e low w.heap.size #[.int .i32 f, .int .i32 e.t, .int .u32 e.k] (.slice (some ⟨gp, 0, none⟩) pl.length capp)) := by
  obtain ⟨y, hy⟩ : ∃ y, pl[p / 512]? = some y := ⟨_, List.getElem?_eq_getElem (by omega)⟩
  have hst : ∀ Q : Pos → Prop, Step Q w ow (w.alloc (.cells #[.int .i32 f, .int .i32 e.t, .int .u32 e.k] 70)).drew (upd ow w.heap.size (9, 0, 0)) := fun Q => (((Step.refl Q w ow).alloc _).drewN 1).own (.inl (Nat.le_refl _)) _
  have sf := hst fun _ => False
  have p2' := p2.step sf (fun _ _ h => h)
  have hl' := hl.step sf (fun h => h)
  have hyc := p2'.placed.ck _ _ hy
  obtain ⟨n1, n2, n3⟩ := p2.full.n _ _ hy
  have hlen := p2.full.all
  have hbox : At (w.alloc (.cells #[.int .i32 f, .int .i32 e.t, .int .u32 e.k] 70)).drew (upd ow w.heap.size (9, 0, 0)) (9, 0, 0) w.heap.size 70 #[.int .i32 f, .int .i32 e.t, .int .u32 e.k] := ⟨upd_self _ _ _, (has_new w 70 _).drewN 1⟩
  have h := set_any gp pl.length capp y.g y.n y.c p e y.es (w.alloc (.cells #[.int .i32 f, .int .i32 e.t, .int .u32 e.k] 70)).drew (by omega) (by omega) (by omega) (by omega) hl'.lt (hl'.cell _ _ hy) hyc.at'.2
  rw [hf] at h
  refine h.mono ?_
  rintro z w' ⟨hz, hb, hfr⟩
  refine ⟨hz, ?_⟩
  obtain ⟨q1, q2⟩ := p2'.place hp hpre hfN hf (by omega) hy hb hfr
  exact Mid3.cl hC ⟨_, sp, _, q1, (st.trans (hst Q2)).trans q2, by simpa using hlow, hbox.step q2 (by simp [Q2])⟩
/-- what is known of the ranges -/
structure Rs (C : C2) : Prop where
  len : C.R.length = C.nR
  got : ∀ (r : Nat) cks, C.R[r]? = some cks → gots cks = ofR C.E C.s r ∧ cks.length ≤ (gots cks).length
set_option maxRecDepth 1000000 in
set_option maxHeartbeats 8000000 in
theorem pass2 (post : Ending → World → Prop) (K : Act → World → Prop) (edges : Value) (gb bg N gst gsh s nR gr gs gf cf : Nat) (r5 : Array Value) (E : List Ed) (R : List (List Ck)) (W : World) (ow0 : Ow)
    (HG : Hid (Gr W ow0 gb bg N edges (.slice none 0 0) r5)) (HSH : Hid (At W ow0 (4, 0, 0) gsh 3 #[.int .i64 s])) (HST : Hid (At W ow0 (3, 0, 0) gst 3 (ints (psum E N N)))) (HRN : Hid (Rngs N s nR)) (hs : s ≤ 6) (hnR : nR ≤ 1024)
    (HT : Hid (∀ e ∈ E, 0 ≤ e.f ∧ e.f < (N : Int))) (_hN : N ≤ 65536) (HE : Hid (E.length ≤ 65536)) (HRS : Hid (Rs ⟨E, s, nR, N, gr, gs, gf, R, W, ow0⟩))
    (HI : Hid (At2 ⟨E, s, nR, N, gr, gs, gf, R, W, ow0⟩ 0 (.slice none 0 0) W))
    (x0 x3 x4 x5 x6 x7 x11 x12 x14 x15 x16 x17 x18 x19 x20 x23 x24 x25 x26 x27 x28 x29 x30 x31 x32 x33 x34 x35 x36 x37 x38 x39 x40 x41 x42 x43 x44 x45 x46 x47 x48 x49 x50 x51 x52 x53 x54 x55 x56 x57 x58 x59 x60 x61 x62 x63 x64 x65 x66 x67 x68 x69 x70 x71 x72 x73 x74 x75 x76 x77 x78 x79 x80 x81 x82 x83 x84 x85 x86 x87 x88 x89 x90 x91 x92 x93 x94 x95 x96 x97 x98 x99 x100 x101 x102 x103 x104 x105 x106 x107 x108 x109 x110 x111 x112 x113 x114 x115 x116 x117 x118 x119 x120 x121 x122 x123 x124 x125 x126 x127 x128 x129 x130 x131 x132 x133 x134 x135 x136 x137 x138 x139 x140 x141 x142 x143 x144 x145 x146 x147 x148 x149 x150 x151 x152 x153 x154 x155 x156 x157 x158 x159 x160 x161 x162 x163 x164 x165 x166 x167 x168 x169 x170 x171 x172 x173 x174 x175 x176 x177 x178 x179 x180 x181 x182 x183 x184 x185 x186 x187 x188 x189 x190 x191 x192 x193 x194 x195 x196 x197 x198 x199 x200 x201 x202 x203 x204 x205 x206 x207 x208 x209 x210 x211 x212 x213 x214 x215 x216 x217 x218 x219 x220 x221 x222 x223 x224 x225 x226 x227 x228 x229 x230 x231 x232 x233 x234 x235 x236 x237 x238 x242 x243 x244 x245 x246 x247 x248 x249 x250 x251 x252 x253 x254 x255 x256 x257 x258 x259 x260 x261 x262 x263 x264 x265 x266 x267 x268 x269 x270 x271 x272 x273 x274 x275 x276 x277 x278 x279 x280 x281 x282 x283 x284 x285 x286 x287 x288 x289 x290 x291 x292 x293 x294 x295 x296 x297 x298 x299 x300 x301 x302 x303 x304 x305 x306 x307 x308 x309 x310 x311 x312 x313 x314 x315 x316 x317 x318 x319 : Value)
    (hK : ∀ (u21 u23 u24 u25 u26 u28 u30 u241 u242 u243 u244 u245 u246 u247 u248 u249 u250 u251 u252 u253 u254 u255 u256 u257 u258 u259 u260 u261 u262 u263 u264 u265 u266 u267 u268 u269 u270 u271 u272 u273 u274 u275 u276 u277 u278 u279 u280 u281 u282 u283 u284 u285 u286 u287 u288 u289 u290 u291 u292 u293 u294 u295 u296 u297 u298 u299 u300 u301 u302 u303 u304 u305 u306 u307 u308 u309 u310 u311 : Value) (w5 : World), Hid (At2 ⟨E, s, nR, N, gr, gs, gf, R, W, ow0⟩ nR u21 w5) → K ⟨#[x0, .pointer (some ⟨gb, 0, none⟩), .slice (some ⟨gst, 0, none⟩) (N + 1) (N + 1), x3, x4, x5, x6, x7, .pointer (some ⟨gsh, 0, none⟩), .slice (some ⟨gr, 0, none⟩) nR nR, .func (.func 36) #[] #[.pointer (some ⟨gsh, 0, none⟩), .pointer (some ⟨gb, 0, none⟩)], x11, x12, .pointer (some ⟨gs, 0, none⟩), x14, x15, x16, x17, x18, x19, x20, u21, .slice (some ⟨gf, 0, none⟩) N cf, u23, u24, u25, u26, x27, u28, x29, u30, x31, x32, x33, x34, x35, x36, x37, x38, x39, x40, x41, x42, x43, x44, x45, x46, x47, x48, x49, x50, x51, x52, x53, x54, x55, x56, x57, x58, x59, x60, x61, x62, x63, x64, x65, x66, x67, x68, x69, x70, x71, x72, x73, x74, x75, x76, x77, x78, x79, x80, x81, x82, x83, x84, x85, x86, x87, x88, x89, x90, x91, x92, x93, x94, x95, x96, x97, x98, x99, x100, x101, x102, x103, x104, x105, x106, x107, x108, x109, x110, x111, x112, x113, x114, x115, x116, x117, x118, x119, x120, x121, x122, x123, x124, x125, x126, x127, x128, x129, x130, x131, x132, x133, x134, x135, x136, x137, x138, x139, x140, x141, x142, x143, x144, x145, x146, x147, x148, x149, x150, x151, x152, x153, x154, x155, x156, x157, x158, x159, x160, x161, x162, x163, x164, x165, x166, x167, x168, x169, x170, x171, x172, x173, x174, x175, x176, x177, x178, x179, x180, x181, x182, x183, x184, x185, x186, x187, x188, x189, x190, x191, x192, x193, x194, x195, x196, x197, x198, x199, x200, x201, x202, x203, x204, x205, x206, x207, x208, x209, x210, x211, x212, x213, x214, x215, x216, x217, x218, x219, x220, x221, x222, x223, x224, x225, x226, x227, x228, x229, x230, x231, x232, x233, x234, x235, x236, x237, x238, .slice (some ⟨gr, 0, none⟩) nR nR, .int .i64 nR, u241, u242, u243, u244, u245, u246, u247, u248, u249, u250, u251, u252, u253, u254, u255, u256, u257, u258, u259, u260, u261, u262, u263, u264, u265, u266, u267, u268, u269, u270, u271, u272, u273, u274, u275, u276, u277, u278, u279, u280, u281, u282, u283, u284, u285, u286, u287, u288, u289, u290, u291, u292, u293, u294, u295, u296, u297, u298, u299, u300, u301, u302, u303, u304, u305, u306, u307, u308, u309, u310, u311, x312, x313, x314, x315, x316, x317, x318, x319], []⟩ w5) :
    Code.wp Try.prog ((Try.f34.body.bind (blockOf 14)).getD .skip) (Exit.then K (bodyPost Try.prog Try.f34 post)) ⟨#[x0, .pointer (some ⟨gb, 0, none⟩), .slice (some ⟨gst, 0, none⟩) (N + 1) (N + 1), x3, x4, x5, x6, x7, .pointer (some ⟨gsh, 0, none⟩), .slice (some ⟨gr, 0, none⟩) nR nR, .func (.func 36) #[] #[.pointer (some ⟨gsh, 0, none⟩), .pointer (some ⟨gb, 0, none⟩)], x11, x12, .pointer (some ⟨gs, 0, none⟩), x14, x15, x16, x17, x18, x19, x20, .slice none 0 0, .slice (some ⟨gf, 0, none⟩) N cf, x23, x24, x25, x26, x27, x28, x29, x30, x31, x32, x33, x34, x35, x36, x37, x38, x39, x40, x41, x42, x43, x44, x45, x46, x47, x48, x49, x50, x51, x52, x53, x54, x55, x56, x57, x58, x59, x60, x61, x62, x63, x64, x65, x66, x67, x68, x69, x70, x71, x72, x73, x74, x75, x76, x77, x78, x79, x80, x81, x82, x83, x84, x85, x86, x87, x88, x89, x90, x91, x92, x93, x94, x95, x96, x97, x98, x99, x100, x101, x102, x103, x104, x105, x106, x107, x108, x109, x110, x111, x112, x113, x114, x115, x116, x117, x118, x119, x120, x121, x122, x123, x124, x125, x126, x127, x128, x129, x130, x131, x132, x133, x134, x135, x136, x137, x138, x139, x140, x141, x142, x143, x144, x145, x146, x147, x148, x149, x150, x151, x152, x153, x154, x155, x156, x157, x158, x159, x160, x161, x162, x163, x164, x165, x166, x167, x168, x169, x170, x171, x172, x173, x174, x175, x176, x177, x178, x179, x180, x181, x182, x183, x184, x185, x186, x187, x188, x189, x190, x191, x192, x193, x194, x195, x196, x197, x198, x199, x200, x201, x202, x203, x204, x205, x206, x207, x208, x209, x210, x211, x212, x213, x214, x215, x216, x217, x218, x219, x220, x221, x222, x223, x224, x225, x226, x227, x228, x229, x230, x231, x232, x233, x234, x235, x236, x237, x238, .slice (some ⟨gr, 0, none⟩) nR nR, .int .i64 nR, .int .i64 0, x242, x243, x244, x245, x246, x247, x248, x249, x250, x251, x252, x253, x254, x255, x256, x257, x258, x259, x260, x261, x262, x263, x264, x265, x266, x267, x268, x269, x270, x271, x272, x273, x274, x275, x276, x277, x278, x279, x280, x281, x282, x283, x284, x285, x286, x287, x288, x289, x290, x291, x292, x293, x294, x295, x296, x297, x298, x299, x300, x301, x302, x303, x304, x305, x306, x307, x308, x309, x310, x311, x312, x313, x314, x315, x316, x317, x318, x319], []⟩ W := by
  conv => arg 2; whnf
  have HF : Hid (∀ (W : World) (z : Int), (0 ≤ z ∧ z ≤ 1025 ∧ W.cell? ⟨gsh, 0, none⟩ = some (.int .i64 s) ∧ W.cell? ⟨gb, 0, none⟩ = some (.pointer (some ⟨bg, 0, none⟩)) ∧ W.cell? ⟨bg, 1, none⟩ = some (.int .i64 N)) → Calls Try.prog 36 #[.int .i64 z, .pointer (some ⟨gsh, 0, none⟩), .pointer (some ⟨gb, 0, none⟩)] W (FI (firstI s N z) W)) :=
    fun W z => firstI_any s N gsh gb bg (by omega) W z
  obtain ⟨C, hC⟩ : ∃ C : C2, C = ⟨E, s, nR, N, gr, gs, gf, R, W, ow0⟩ := ⟨_, rfl⟩
  have HC : Hid (C = ⟨E, s, nR, N, gr, gs, gf, R, W, ow0⟩) := hC
  rw [← hC] at HRS HI
  simp only [← hC] at hK
  clear hC
  go_wp2
  go_loopw [21, 241] (fun pvv i wr => ∃ r : Nat, r ≤ nR ∧ i = .int .i64 r ∧ Hid (At2 C r pvv wr)) (fun _ i _ => nR - (intOf i).toNat)
  case atStart => exact ⟨0, by omega, rfl, HI⟩
  case round =>
    obtain ⟨r, hr, rfl, hi⟩ := hrel
    by_cases hlt : r < nR
    · obtain ⟨rv, hi1⟩ : ∃ rv, Hid (In2 C rv r 0 (byR E s r) 0 u21 wr) := by
        obtain ⟨rv, h⟩ := hi.out
        refine ⟨rv, ?_⟩
        rw [HC.out] at h ⊢; exact h
      obtain ⟨cks, hc⟩ : ∃ cks, R[r]? = some cks := ⟨_, List.getElem?_eq_getElem (by have := HRS.out.len; rw [HC.out] at this; dsimp only at this; omega)⟩
      have HCK : Hid (R[r]? = some cks ∧ gots cks = ofR E s r ∧ cks.length ≤ (gots cks).length) := by
        have h := HRS.out.got
        rw [HC.out] at h
        exact ⟨hc, h r cks hc⟩
      obtain ⟨v, hv⟩ : ∃ v, rv[r]? = some v := by
        obtain ⟨ow, sp, pl, p2, _⟩ := hi1.out.op HC.out
        exact ⟨_, List.getElem?_eq_getElem (by rw [p2.lenv]; exact hlt)⟩
      have HV : Hid (rv[r]? = some v) := hv
      obtain ⟨pp, cc, hvs⟩ : ∃ p cap, v = .slice p cks.length cap := by
        obtain ⟨ow, sp, pl, p2, _⟩ := hi1.out.op HC.out
        exact (p2.cur v cks hv hc).2.1
      subst hvs
      have hckl : cks.length ≤ 65536 := by
        have h1 : (ofR E s r).length ≤ E.length := List.length_filter_le _ _
        have h2 := HCK.out.2
        rw [h2.1] at h2
        have := HE.out
        omega
      obtain ⟨en, hen⟩ : ∃ en, en = cum E (fst' s N (r + 1)) := ⟨_, rfl⟩
      have HEN : Hid (en = cum E (fst' s N (r + 1))) := hen
      have hen2 : en ≤ 65536 := by rw [hen]; exact Nat.le_trans (Cnt.cum_le _ _) HE.out
      obtain ⟨f1, hf1⟩ : ∃ f1, f1 = fst' s N (r + 1) := ⟨_, rfl⟩
      have hf1N : f1 ≤ N := by rw [hf1]; exact Cnt.fst_le _ _ _
      -- the cells read
      have HRD : Hid (∀ w' : World, (∃ ow', Step Q2 W ow0 w' ow') → w'.cell? ⟨gsh, 0, none⟩ = some (.int .i64 s) ∧ w'.cell? ⟨gb, 0, none⟩ = some (.pointer (some ⟨bg, 0, none⟩)) ∧ w'.cell? ⟨bg, 1, none⟩ = some (.int .i64 N) ∧ w'.cell? ⟨gst, f1, none⟩ = some (.int .i64 en) ∧ w'.cell? ⟨gst, N, none⟩ = some (.int .i64 (cum E N))) := by
        rintro w' ⟨ow', st⟩
        have g := HG.out.step st (by simp [Q2]) (by simp [Q2])
        have b := HST.out.step st (by simp [Q2])
        refine ⟨(HSH.out.step st (by simp [Q2])).2.cell 0, g.c0, g.c1, ?_, ?_⟩
        · rw [b.2.cell, ints_at (Cnt.psum_at _ _ _ _ hf1N), if_pos hf1N, hen, hf1]
        · rw [b.2.cell, ints_at (Cnt.psum_at _ _ _ _ (Nat.le_refl _)), if_pos (Nat.le_refl _)]
      obtain ⟨c0, d1, d2, d3, d4⟩ : wr.cell? ⟨gr, r, none⟩ = some (.slice pp cks.length cc) ∧ wr.cell? ⟨gsh, 0, none⟩ = some (.int .i64 s) ∧ wr.cell? ⟨gb, 0, none⟩ = some (.pointer (some ⟨bg, 0, none⟩)) ∧ wr.cell? ⟨bg, 1, none⟩ = some (.int .i64 N) ∧ wr.cell? ⟨gst, f1, none⟩ = some (.int .i64 en) := by
        obtain ⟨ow, sp, pl, p2, st, _⟩ := hi1.out.op HC.out
        have hh := HRD.out wr ⟨ow, st⟩
        refine ⟨?_, hh.1, hh.2.1, hh.2.2.1, hh.2.2.2.1⟩
        rw [p2.ranges.2.cell r]; simpa using hv
      have HFC : Hid (Calls Try.prog 36 #[.int .i64 ((r : Int) + 1), .pointer (some ⟨gsh, 0, none⟩), .pointer (some ⟨gb, 0, none⟩)] wr (FI (f1 : Int) wr)) := by
        have h := HF.out wr ((r : Int) + 1) ⟨by omega, by omega, d1, d2, d3⟩
        have e : firstI s N ((r : Int) + 1) = (f1 : Int) := by rw [hf1]; rfl
        rw [e] at h; exact h
      have hw1 : IntKind.i64.wrap ((r : Int) + 1) = (r : Int) + 1 := by rw [IntKind.wrap_i64]; omega
      have hrl : (r : Int) < (nR : Int) := by omega
      have hfl : (f1 : Int) < (N : Int) + 1 := by omega
      have d4' : ∀ q, (wr.drewN q).cell? ⟨gst, f1, none⟩ = some (.int .i64 en) := fun q => d4
      clear hv hc hi hen hf1
      go_wp2_with fail
      refine HFC.out.mono ?_
      rintro ee w' ⟨rfl, qd, rfl⟩
      go_upto_block 16 with fail
      go_cut [21] (fun pw wc => Hid (In2 C rv r 0 (byR E s r) en pw wc))
      case first =>
        have hi2 : Hid (In2 C rv r 0 (byR E s r) 0 u21 (wr.drewN qd)) := hi1.out.go (fun Q ow => (Step.refl Q wr ow).drewN qd)
        clear hi1 c0 d1 d2 d3 d4 d4' HFC
        generalize wr.drewN qd = wq at hi2 ⊢
        go_wp2
        go_loopw [21] (fun pw w2 => Hid (In2 C rv r 0 (byR E s r) 0 pw w2)) (fun pw _ => 1000 - lenOf pw)
        case atStart => exact hi2
        case round =>
          clear hi2
          obtain ⟨ow, sp, pl, p2, st, hlow⟩ := hrel.out.op HC.out
          obtain ⟨pq, cq, hps⟩ := p2.placed.shape
          subst hps
          have hml : pl.length ≤ 129 := by
            rcases Nat.eq_zero_or_pos pl.length with h0 | h0
            · omega
            · have h1 := p2.full.lt (pl.length - 1) (by omega)
              have := Nat.le_trans (Cnt.cum_le E N) HE.out
              omega
          have hsh : IntKind.i64.wrap ((pl.length : Int) * 2 ^ 9) = (pl.length : Int) * 512 := by rw [IntKind.wrap_i64]; omega
          by_cases h9 : pl.length * 512 < en
          · have h9i : (pl.length : Int) * 512 < (en : Int) := by omega
            obtain ⟨M, hM⟩ : ∃ M, M = cum E N := ⟨_, rfl⟩
            have hM2 : M ≤ 65536 := by rw [hM]; exact Nat.le_trans (Cnt.cum_le _ _) HE.out
            have hMe : en ≤ M := by
              have h1 := HEN.out
              rw [hM, h1]; exact Cnt.cum_mono E (Cnt.fst_le _ _ _)
            obtain ⟨n, hn⟩ : ∃ n, n = min 512 (M - 512 * pl.length) := ⟨_, rfl⟩
            have hn1 : 1 ≤ n := by omega
            have hn2 : n ≤ 512 := by omega
            have HN : Hid (n = min 512 (M - 512 * pl.length)) := hn
            have HMM : Hid (M = cum E N) := hM
            obtain ⟨_, d2, d3, _, d5⟩ := HRD.out wr ⟨ow, st⟩
            rw [← hM] at d5
            have HTK : Hid (Calls Try.prog 37 #[.pointer (some ⟨gs, 0, none⟩), .int .i64 (n : Int)] wr (TK wr ow gs sp n (22, 0, pl.length))) := by
              obtain ⟨sv, hsv⟩ := p2.spare
              refine take_any gs n sv sp (22, 0, pl.length) wr ow hsv hn2 ?_
              have h1 := p2.spk
              have h2 := Cnt.byR_len (s := s) (fun e he => (HT.out e he).1) r
              have h3 := Nat.le_trans (Cnt.cum_le E (r * 2 ^ s)) HE.out
              omega
            have HP2 : Hid (P2 E s nR N gr gs gf r 0 rv R sp (frees E N (byR E s r)) (byR E s r) (.slice pq pl.length cq) pl wr ow ∧ Step Q2 W ow0 wr ow) := ⟨p2, st⟩
            have hNi : (N : Int) < (N : Int) + 1 := by omega
            have hsb : IntKind.i64.wrap ((M : Int) - (pl.length : Int) * 512) = (M : Int) - (pl.length : Int) * 512 := by rw [IntKind.wrap_i64]; omega
            clear hn hM p2 st hlow
            go_upto_region 53 with fail
            go_cut [26] (fun v wc => v = .int .i64 (n : Int) ∧ wc = wr)
            case first =>
              go_wp2
              all_goals
                go_meet
                case rel =>
                  have hn := HN.out
                  exact ⟨by simp only [Value.int.injEq, true_and]; omega, rfl⟩
            case rest =>
              obtain ⟨hv26, hwc⟩ := hcut
              subst hv26
              subst hwc
              obtain ⟨i0, hi0, hz0, hz1, hz2⟩ := info_parts info68
              have HB : Hid (∀ e' w', TK wc ow gs sp n (22, 0, pl.length) e' w' → ∀ o, (w'.alloc o).ownsRow 0 68 1 (.slice pq pl.length cq) pl.length (pl.map Ck.val)) := by
                rintro e' w' ⟨y, ow', sv', sp', _, _, _, _, _, _, stt⟩ o
                have h1 := HP2.out.1.placed.step stt (by simp [Sq]) (fun j _ => by simp [Sq])
                exact owns_has h1.own fun g hg => Below.heap_alloc w' o g (h1.own.lt g hg).2
              have HGW : Hid (∀ (y : Ck) w' o g1 cap1 w1, TK wc ow gs sp n (22, 0, pl.length) (.returned y.val) w' → w1.ownsRow 0 68 1 (.slice (some ⟨g1, 0, none⟩) (pl.length + 1) cap1) (pl.length + 1) (pl.map Ck.val ++ [.slice (some ⟨y.g, 0, none⟩) n n]) → (w'.alloc o).grownBy w1 (Value.slice pq pl.length cq).ownBlock → ((Value.slice pq pl.length cq).ownBlock = some g1 ∨ g1 = w'.heap.size + 1) → In2 C rv r 0 (byR E s r) 0 (.slice (some ⟨g1, 0, none⟩) (pl.length + 1) cap1) w1) := by
                rintro y w' o g1 cap1 w1 ⟨x, ow', sv', sp', he, h0, h1, h2, h3, h4, h5⟩ hown hgrow hat
                have ex : y.g = x.g := by injection he with he; simp only [Ck.val, Value.slice.injEq] at he; simpa using he.1
                rw [ex] at hown
                obtain ⟨ow1, b1, b2⟩ := HP2.out.1.grow h1 h2 h3 h4 h5 (W'' := w'.alloc o) (fun Q => (Step.refl Q _ _).alloc o) (by have := HMM.out; omega) (by have := HMM.out; have := HN.out; omega) hown hgrow (by simpa using hat)
                exact In2.cl HC.out ⟨ow1, sp', _, b1, HP2.out.2.trans b2, Nat.zero_le _⟩
              clear HP2 d2 d3 d5
              go_wp2_with fail
              with_reducible refine HTK.out.mono ?_
              intro ee w' htk
              obtain ⟨y, hy, hyn, hyc⟩ : ∃ y : Ck, ee = .returned y.val ∧ y.n = 0 ∧ y.c = n := by obtain ⟨y, _, _, _, h, h1, h2, _⟩ := htk; exact ⟨y, h, h1, h2⟩
              subst hy
              simp only [Ck.val, hyn, hyc]
              have hB2 := HB.out _ _ htk
              have HB2 : Hid (∀ o, (w'.alloc o).ownsRow 0 68 1 (.slice pq pl.length cq) pl.length (pl.map Ck.val)) := hB2
              clear hB2
              go_wp2_with (
                refine wpList_append_lies _ (by rfl) _ _ _ (by rfl) 0 68 i0 _ 1 24 Try.underlying64 hi0 hz0 hz1 hz2 rfl (by omega) (.slice pq pl.length cq) pl.length (pl.map Ck.val) (by rfl) (HB2.out _)
                  ⟨w'.heap.size, 0, none⟩ 1 1 [.slice (some ⟨y.g, 0, none⟩) n n] (by rfl) (by rfl) (World.news_of_block (cs := #[.slice (some ⟨y.g, 0, none⟩) n n]) (t := 68) (fr := (0, 0)) (heap_alloc_new w' _)) (by simp [Value.oneCell'])
                  (by omega) (by unfold maxLen; omega) (by omega) (by omega) (w'.heap.size + 1) (by simp) ?_
                intro g1 cap1 w1 hown1 hgrow hat hlt1)
              exact ⟨HGW.out _ _ _ _ _ _ htk hown1 hgrow hat, by simp only [lenOf]; omega⟩
          · have h9i : ¬ (pl.length : Int) * 512 < (en : Int) := by omega
            have HM : Hid (In2 C rv r 0 (byR E s r) en (.slice pq pl.length cq) wr) := In2.cl HC.out ⟨ow, sp, pl, p2, st, by omega⟩
            clear p2 st hlow
            go_wp2
            go_meet
            case rel => exact HM
      case rest =>
        clear hi1 c0 d1 d2 d3 d4 d4' HFC HI hw1 hfl
        have hi3 : Hid (In2 C rv r 0 (byR E s r ++ upto cks 0 0) en u21 wc) := by
          have h := hcut.out
          rw [upto_zero, List.append_nil]; exact h
        clear hcut
        go_upto_block 18 with fail
        go_cut [] (fun wd => Hid (In2 C rv r cks.length (byR E s (r + 1)) en u21 wd))
        case first =>
          go_wp2
          go_loopw [279] (fun i w2 => ∃ c : Nat, c ≤ cks.length ∧ i = .int .i64 c ∧ Hid (In2 C rv r c (byR E s r ++ upto cks c 0) en u21 w2)) (fun i _ => cks.length - (intOf i).toNat)
          case atStart => exact ⟨0, by omega, rfl, hi3⟩
          case round =>
            obtain ⟨c, hc, rfl, hi4⟩ := hrel
            clear hi3
            by_cases hltc : c < cks.length
            · obtain ⟨x, hx⟩ : ∃ x, cks[c]? = some x := ⟨_, List.getElem?_eq_getElem hltc⟩
              have HX : Hid (cks[c]? = some x) := hx
              obtain ⟨g, hpp, hcell, HL⟩ : ∃ g, pp = some ⟨g, 0, none⟩ ∧ wr.cell? ⟨g, c, none⟩ = some (.slice (some ⟨x.g, 0, none⟩) x.n x.c) ∧ Hid (x.got.length = x.n ∧ x.es.length = x.c) := by
                obtain ⟨ow, sp, pl, p2, st, _⟩ := hi4.out.op HC.out
                obtain ⟨a1, a2, a3⟩ := p2.cur _ _ HV.out HCK.out.1
                obtain ⟨g, cap, hl⟩ := a1 (by omega)
                have h1 := hl.v
                simp only [Value.slice.injEq] at h1
                have h2 := a3 c x (Nat.le_refl _) hx
                exact ⟨g, h1.1, hl.cell c x hx, got_len h2.len h2.le, h2.len⟩
              subst hpp
              have hxn : x.n ≤ 65536 := by
                have h2 : x.got.length ≤ (gots cks).length := by
                  obtain ⟨tl, ht⟩ := upto_pre cks (c + 1) 0
                  rw [ht, ← upto_next hx]; unfold upto; rw [hx]; simp; omega
                have h3 : (ofR E s r).length ≤ E.length := List.length_filter_le _ _
                have := HE.out; have := HL.out.1; rw [HCK.out.2.1] at h2; omega
              have hcl : (c : Int) < (cks.length : Int) := by omega
              clear hx
              go_upto_block 20 with fail
              go_cut [] (fun wd => Hid (In2 C rv r c (byR E s r ++ upto cks c x.n) en u21 wd))
              case first =>
                go_wp2
                go_loopw [285] (fun i w2 => ∃ q : Nat, q ≤ x.n ∧ i = .int .i64 q ∧ Hid (In2 C rv r c (byR E s r ++ upto cks c q) en u21 w2)) (fun i _ => x.n - (intOf i).toNat)
                case atStart => exact ⟨0, by omega, rfl, hi4⟩
                case round =>
                  obtain ⟨q, hq, rfl, hi5⟩ := hrel
                  clear hi4 hcell
                  by_cases hltq : q < x.n
                  · obtain ⟨e, he⟩ : ∃ e, x.got[q]? = some e := ⟨_, List.getElem?_eq_getElem (by rw [HL.out.1]; exact hltq)⟩
                    have hes : x.es[q]? = some e := by rw [← got_at hltq]; exact he
                    have hmem : e ∈ ofR E s r := by rw [← HCK.out.2.1]; exact got_mem HX.out he
                    have hmE : e ∈ E ∧ rg s e = r := by
                      unfold ofR at hmem; rw [List.mem_filter] at hmem
                      exact ⟨hmem.1, by simpa [Cnt.inR] using hmem.2⟩
                    obtain ⟨t0, t1⟩ := HT.out e hmE.1
                    obtain ⟨f, hf⟩ := Int.eq_ofNat_of_zero_le t0
                    rw [hf] at t1
                    have hfN : f < N := by omega
                    have hpre := pre_here HRN.out hlt HCK.out.2.1 HX.out he
                    obtain ⟨S, hS⟩ : ∃ S, S = byR E s r ++ upto cks c q := ⟨_, rfl⟩
                    rw [← hS] at hpre hi5
                    have HSN : Hid (byR E s r ++ upto cks c (q + 1) = S ++ [e]) := by
                      show _ = _
                      rw [upto_more HX.out he, hS, List.append_assoc]
                    obtain ⟨p, hp⟩ : ∃ p, p = cum E f + (at' S f).length := ⟨_, rfl⟩
                    have hp1 : p < cum E (f + 1) := by rw [hp]; exact Cnt.place_lt hpre hfN hf
                    have hp2 : p < en := by
                      have h1 := Cnt.cum_mono E (tail_in hf hmE.2 hfN)
                      have h2 := HEN.out
                      rw [h2]; omega
                    have hp3 : p < cum E N := Nat.lt_of_lt_of_le hp1 (Cnt.cum_mono E hfN)
                    obtain ⟨ow, sp, pl, p2, st, hlow⟩ := hi5.out.op HC.out
                    obtain ⟨gp, capp, hlp⟩ := p2.placed.laid (by omega)
                    have hu := hlp.v
                    subst hu
                    have HSET : Hid (Calls Try.prog 39 #[.slice (some ⟨gp, 0, none⟩) pl.length capp, .int .i64 (p : Int), .agg #[.int .i32 f, .int .i32 e.t, .int .u32 e.k]] (wr.alloc (.cells #[.int .i32 f, .int .i32 e.t, .int .u32 e.k] 70)).drew (SetP C rv r c S e en wr.heap.size #[.int .i32 f, .int .i32 e.t, .int .u32 e.k] (.slice (some ⟨gp, 0, none⟩) pl.length capp))) :=
                      set_here HC.out p2 st hlow hlp hf hfN hpre hp hp2 hp3 (by omega)
                    obtain ⟨d0, d1, d2⟩ := ((p2.cur _ _ HV.out HCK.out.1).2.2 c x (Nat.le_refl _) HX.out).edge hes
                    rw [hf] at d0
                    obtain ⟨X, hX⟩ := p2.free
                    have cfa : ∀ o, (wr.alloc o).cell? ⟨gf, f, none⟩ = some (.int .i64 p) := fun o => by rw [(hX.2.alloc o).cell, intsX_at (Cnt.frees_at _ _ _ _ hfN), ← hp]
                    have HPF : Hid (p = cum E f + (at' S f).length ∧ e.f = (f : Int)) := ⟨hp, hf⟩
                    have hfi : (f : Int) < (N : Int) := by omega
                    have hqi : (q : Int) < (x.n : Int) := by omega
                    have hpb : p ≤ 65536 := by omega
                    clear hes hmem hmE hf hpre hS hp hp1 hp2 hp3 p2 st hlow hlp hX hi5 he
                    go_upto_region 61 with fail
                    go_cut [] (fun wd => Hid (Mid3 C rv r c S e en wr.heap.size #[.int .i32 f, .int .i32 e.t, .int .u32 e.k] (.slice (some ⟨gp, 0, none⟩) pl.length capp) wd))
                    case first =>
                      go_region_law
                        (first
                          | (go_simp
                             with_reducible refine HSET.out.mono ?_
                             rintro ee w' ⟨rfl, hm⟩))
                      all_goals go_wp2
                      all_goals go_meet
                      all_goals exact hm
                    case rest =>
                      clear HSET d0 d1 d2 cfa
                      obtain ⟨ow, sp, pl2, p2, st, hlow, pe⟩ := hcut.out.op HC.out
                      obtain ⟨X, hX⟩ := p2.free
                      have e0 : wc.cell? ⟨wr.heap.size, 0, none⟩ = some (.int .i32 f) := pe.2.cell 0
                      have cf0 : wc.cell? ⟨gf, f, none⟩ = some (.int .i64 p) := by rw [hX.2.cell, intsX_at (Cnt.frees_at _ _ _ _ hfN), ← HPF.out.1]
                      have ff : wc.frozen? ⟨gf, f, none⟩ = false := hX.2.free f
                      have HN2 : Hid (In2 C rv r c (byR E s r ++ upto cks c (q + 1)) en (.slice (some ⟨gp, 0, none⟩) pl.length capp) (wc.setCell ⟨gf, f, none⟩ (.int .i64 ((p : Int) + 1)))) := by
                        obtain ⟨b1, b2⟩ := p2.bump f (p + 1) (by rw [Cnt.frees_len]; exact hfN)
                        rw [show ((p + 1 : Nat) : Int) = (p : Int) + 1 from by omega] at b1 b2
                        rw [HSN.out]
                        refine In2.cl HC.out ⟨ow, sp, pl2, ?_, st.trans b2, hlow⟩
                        have h := HPF.out.1
                        rw [← Cnt.frees_set E N S e f hfN HPF.out.2, ← h]; exact b1
                      clear p2 st pe hX hcut hlow
                      go_wp2
                      go_roundw
                      case rel => exact ⟨q + 1, by omega, by go_num, HN2⟩
                      case measure => simp only [intOf]; omega
                  · have hqe : q = x.n := by omega
                    have HS : Hid (In2 C rv r c (byR E s r ++ upto cks c x.n) en u21 wr) := by
                      have h := hi5.out
                      rw [hqe] at h; exact h
                    clear hqe
                    go_wp2
                    go_meet
                    case rel => exact HS
              case rest =>
                clear hi4 hcell
                obtain ⟨ow, sp, pl, p2, st, hlow⟩ := hcut.out.op HC.out
                obtain ⟨sv, hsv⟩ := p2.spare
                have hxc := (p2.cur _ _ HV.out HCK.out.1).2.2 c x (Nat.le_refl _) HX.out
                have HGV : Hid (Calls Try.prog 38 #[.pointer (some ⟨gs, 0, none⟩), .slice (some ⟨x.g, 0, none⟩) x.n x.c] wc (GV wc ow gs sp (23, r, c))) := by
                  refine give_any gs sv sp x (23, r, c) _ ow hsv hxc (by simp [Sq]) ?_
                  have h1 := p2.spk
                  have h2 := Cnt.byR_len (s := s) (fun e he => (HT.out e he).1) r
                  have h3 := Nat.le_trans (Cnt.cum_le E (r * 2 ^ s)) HE.out
                  omega
                have HEN2 : Hid (∀ (w' : World), GV wc ow gs sp (23, r, c) (.returned (.tuple #[])) w' → In2 C rv r (c + 1) (byR E s r ++ upto cks (c + 1) 0) en u21 w') := by
                  rintro w' ⟨ow', sv', sp', _, g1, g2, g3⟩
                  obtain ⟨q1, q2⟩ := p2.give g1 g2 g3
                  refine In2.cl HC.out ⟨ow', sp', pl, ?_, st.trans q2, hlow⟩
                  rw [← upto_next HX.out, HL.out.1]; exact q1
                clear p2 st hsv hxc hcut
                go_wp2_with fail
                with_reducible refine HGV.out.mono ?_
                intro ee w' hgv
                have hee : ee = .returned (.tuple #[]) := by obtain ⟨_, _, _, h, _⟩ := hgv; exact h
                subst hee
                have HN2 : Hid (In2 C rv r (c + 1) (byR E s r ++ upto cks (c + 1) 0) en u21 w') := HEN2.out w' hgv
                clear hgv HGV HEN2
                go_wp2
                go_roundw
                case rel => exact ⟨c + 1, by omega, by go_num, HN2⟩
                case measure => simp only [intOf]; omega
            · have hce : c = cks.length := by omega
              have HS : Hid (In2 C rv r cks.length (byR E s (r + 1)) en u21 wr) := by
                have h := hi4.out
                rw [hce, upto_all, HCK.out.2.1, ← Cnt.byR_succ] at h; exact h
              clear hce
              go_wp2
              go_meet
              case rel => exact HS
        case rest =>
          clear hi3
          obtain ⟨ow, sp, pl, p2, st, hlow⟩ := hcut.out.op HC.out
          have c0 := (p2.ranges.2.cell r).trans (by simpa using HV.out)
          have f0 := p2.ranges.2.free r
          have HN2 : Hid (At2 C (r + 1) u21 (wc.setCell ⟨gr, r, none⟩ (.slice none 0 0))) := by
            obtain ⟨q1, q2⟩ := p2.next (by have h := HCK.out.2; rw [h.1] at h; exact h.2)
            have h : In2 C _ (r + 1) 0 (byR E s (r + 1)) 0 u21 _ := In2.cl HC.out ⟨ow, sp, pl, q1, st.trans q2, Nat.zero_le _⟩
            refine ⟨rv.set r (.slice none 0 0), ?_⟩
            rw [HC.out] at h ⊢; exact h
          clear p2 st hcut
          go_wp2
          go_roundw
          case rel => exact ⟨r + 1, by omega, by go_num, HN2⟩
          case measure => simp only [intOf]; omega
    · have hre : r = nR := by omega
      subst hre
      go_wp2
      exact hi
end Go.Proofs.Qxb6601127a.Base

