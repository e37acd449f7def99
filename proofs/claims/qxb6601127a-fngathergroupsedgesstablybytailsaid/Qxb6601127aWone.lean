/-
  gather (34), loops 6 and 7: the first pass.
-/
import Derived.Test.Qxb6601127aPone
import Derived.Deep.DeepCutAuto
import Derived.Deep.CutBlock
import Derived.Deep.RegionLaw
import Derived.Deep.RegionHeld3
namespace Go.Proofs.Qxb6601127a.Base
open Go.ChangeShapes Go.WideShapes Go.ChangeAt Go.RowKit
open Cnt (Ed psum cum at' ofR lefts Rngs rg)
/-- the block of that number -/
def blockAt (n : Nat) : Code → Option Code
  | .block m c => if m = n then some (.block m c) else blockAt n c
  | .seq a b => match blockAt n a with
    | some c => some c
    | none => blockAt n b
  | .loop c => blockAt n c
  | .scope c => blockAt n c
  | .cond _ a b => match blockAt n a with
    | some c => some c
    | none => blockAt n b
  | _ => none
/-- the first pass at part k, i edges of it read -/
def In1 (edges : Value) (parts : List Ck) (s nR gr gl gs k i : Nat) (W : World) (ow0 : Ow) (w : World) : Prop :=
  ∃ (ow : Ow) (rv : List Value) (R : List (List Ck)) (sp : List Ck), P1 edges parts s nR gr gl gs k (upto parts k i) rv R sp (leftD (gots parts) (upto parts k i) s nR) (fun _ => 0) w ow ∧ Step Q1 W ow0 w ow
/-- behind the 'if': range r's last chunk has room -/
def Mid1 (edges : Value) (parts : List Ck) (s nR gr gl gs k q r be : Nat) (ev : Array Value) (W : World) (ow0 : Ow) (w : World) : Prop :=
  ∃ (ow : Ow) (rv : List Value) (R : List (List Ck)) (sp : List Ck) (v : Value) (init : List Ck) (y : Ck), P1 edges parts s nR gr gl gs k (upto parts k q) rv R sp (leftD (gots parts) (upto parts k q) s nR) (fun i => if i = r then 1 else 0) w ow ∧ rv[r]? = some v ∧ R[r]? = some (init ++ [y]) ∧ y.n < y.c ∧ At w ow (9, 0, 0) be 70 ev ∧ Step Q1 W ow0 w ow
/-- is a chunk wanted? -/
def needs (cks : List Ck) : Bool := match cks.getLast? with | none => true | some y => y.n == y.c
theorem needs_snoc (init : List Ck) (y : Ck) : needs (init ++ [y]) = (y.n == y.c) := by unfold needs; simp
theorem mid_grow {edges : Value} {parts : List Ck} {s nR gr gl gs k q r be nn : Nat} {ev : Array Value} {W wc w' w1 : World} {ow0 owv : Ow} {rv : List Value} {R : List (List Ck)} {sp cks : List Ck} {pv : Option Addr} {cv : Nat} {Lf : List Nat}
    (hp : P1 edges parts s nR gr gl gs k (upto parts k q) rv R sp Lf (fun _ => 0) wc owv ∧ At wc owv (9, 0, 0) be 70 ev ∧ Step Q1 W ow0 wc owv) (hLf : Lf = leftD (gots parts) (upto parts k q) s nR) (hv : rv[r]? = some (.slice pv cks.length cv) ∧ R[r]? = some cks) (hnn : 1 ≤ nn) {y : Ck}
    (htk : TK wc.drew owv gs sp nn (23, r, cks.length) (.returned y.val) w') (o : Obj) {g1 cap1 : Nat} (hown : w1.ownsRow 0 68 1 (.slice (some ⟨g1, 0, none⟩) (cks.length + 1) cap1) (cks.length + 1) (cks.map Ck.val ++ [y.val]))
    (hgrow : (w'.alloc o).grownBy w1 (Value.slice pv cks.length cv).ownBlock) (hat : (Value.slice pv cks.length cv).ownBlock = some g1 ∨ g1 = w'.heap.size + 1) :
    Mid1 edges parts s nR gr gl gs k q r be ev W ow0 (w1.setCell ⟨gr, r, none⟩ (.slice (some ⟨g1, 0, none⟩) (cks.length + 1) cap1)) := by
  obtain ⟨x, ow', sv', sp', he, hn, hc, hspl, hck, hsp, st⟩ := htk
  have ex : y.val = x.val := by injection he
  rw [ex] at hown
  have st' : Step Sq wc owv w' ow' := ((Step.refl Sq wc owv).drewN 1).trans st
  obtain ⟨a1, a2⟩ := hv
  obtain ⟨ow1, b1, b2⟩ := hp.1.grow a1 a2 hn hspl hck hsp st' (W'' := w'.alloc o) (fun Q => (Step.refl Q _ _).alloc o) hown hgrow (by simpa using hat) rfl
  have ho9 : At (w1.setCell ⟨gr, r, none⟩ (.slice (some ⟨g1, 0, none⟩) (cks.length + 1) cap1)) ow1 (9, 0, 0) be 70 ev := hp.2.1.step b2 (by simp [Q1])
  subst hLf
  exact ⟨ow1, _, _, sp', _, cks, x, b1, List.getElem?_set_self (List.getElem?_eq_some_iff.1 a1).1, List.getElem?_set_self (List.getElem?_eq_some_iff.1 a2).1, by omega, ho9, hp.2.2.trans b2⟩
/-- the edge is laid; what is left is not yet reckoned -/
def Mid2 (edges : Value) (parts : List Ck) (s nR gr gl gs k q : Nat) (W : World) (ow0 : Ow) (w : World) : Prop :=
  ∃ (ow : Ow) (rv : List Value) (R : List (List Ck)) (sp : List Ck), P1 edges parts s nR gr gl gs k (upto parts k (q + 1)) rv R sp (leftD (gots parts) (upto parts k q) s nR) (fun _ => 0) w ow ∧ Step Q1 W ow0 w ow
theorem spare3 {w : World} {g n : Nat} {es : List Ed} (h : Has w g 70 (ecells es)) (hn : n < es.length) (L : Nat) (hL : L = 3) : ∀ j, j < L → (w.cell? ⟨g, 0 + n * 3 + j, none⟩).isSome = true ∧ w.frozen? ⟨g, 0 + n * 3 + j, none⟩ = false := by
  intro j hj
  refine ⟨?_, h.free _⟩
  rw [h.cell, Array.getElem?_eq_getElem (by rw [ecells_size]; omega)]; rfl
theorem put40 {edges : Value} {parts : List Ck} {s nR gr gl gs k q r f g cap : Nat} {W wc : World} {ow0 ow1 : Ow} {rv : List Value} {R : List (List Ck)} {sp init : List Ck} {x y : Ck} {e : Ed} {v : Value}
    (hX : parts[k]? = some x) (he : x.got[q]? = some e) (hf : e.f = (f : Int)) (hrg : rg s e = r) (p1 : P1 edges parts s nR gr gl gs k (upto parts k q) rv R sp (leftD (gots parts) (upto parts k q) s nR) (fun i => if i = r then 1 else 0) wc ow1)
    (hv : rv[r]? = some v) (hc : R[r]? = some (init ++ [y])) (hroom : y.n < y.c) (hl : Laid wc ow1 (13, r, 0) v (init ++ [y]) g cap) (pst : Step Q1 W ow0 wc ow1) {be : Nat} (pe : At wc ow1 (9, 0, 0) be 70 #[.int .i32 f, .int .i32 e.t, .int .u32 e.k]) (o : Obj) (w1 : World)
    (hw : (wc.drew.alloc o).setCells y.g (0 + y.n * 3) [.int .i32 f, .int .i32 e.t, .int .u32 e.k] = w1) :
    (w1.cell? ⟨gr, r, none⟩ = some v ∧ w1.cell? ⟨be, 0, none⟩ = some (.int .i32 f) ∧ w1.cell? ⟨be, 1, none⟩ = some (.int .i32 e.t) ∧ w1.cell? ⟨be, 2, none⟩ = some (.int .u32 e.k)) ∧
    ((w1.setCell ⟨g, init.length, none⟩ (.slice (some ⟨y.g, 0, none⟩) (y.n + 1) y.c)).cell? ⟨gr, r, none⟩ = some v ∧ (w1.setCell ⟨g, init.length, none⟩ (.slice (some ⟨y.g, 0, none⟩) (y.n + 1) y.c)).cell? ⟨be, 0, none⟩ = some (.int .i32 f) ∧ (w1.setCell ⟨g, init.length, none⟩ (.slice (some ⟨y.g, 0, none⟩) (y.n + 1) y.c)).cell? ⟨be, 1, none⟩ = some (.int .i32 e.t) ∧ (w1.setCell ⟨g, init.length, none⟩ (.slice (some ⟨y.g, 0, none⟩) (y.n + 1) y.c)).cell? ⟨be, 2, none⟩ = some (.int .u32 e.k)) ∧
    w1.cell? ⟨g, init.length, none⟩ = some (.slice (some ⟨y.g, 0, none⟩) y.n y.c) ∧ w1.frozen? ⟨g, init.length, none⟩ = false ∧ Mid2 edges parts s nR gr gl gs k q W ow0 (w1.setCell ⟨g, init.length, none⟩ (.slice (some ⟨y.g, 0, none⟩) (y.n + 1) y.c)) := by
  have st : ∀ Q : Pos → Prop, Step Q wc ow1 (wc.drew.alloc o) ow1 := fun Q => ((Step.refl Q _ _).drewN 1).alloc o
  have p2 := p1.step (st fun _ => False) (fun _ _ h => h)
  obtain ⟨g', cap', hl2⟩ := (p2.rows r v _ hv hc).laid (by simp)
  have h2 := hl.v.symm.trans hl2.v
  simp at h2
  obtain ⟨rfl, rfl⟩ := h2
  obtain ⟨b1, b2⟩ := p2.put hv hc hroom hl2 (e := e) hrg (by simp)
  have hyc := (p2.rows r v _ hv hc).ck init.length y (by simp)
  have e1 : w1 = setE (wc.drew.alloc o) y.g y.n e := by
    rw [← hw, Nat.zero_add, ← setCells_three]; unfold ecell; rw [hf]
  subst e1
  have h64 : Has (setE (wc.drew.alloc o) y.g y.n e) gr 64 rv.toArray := p2.ranges.2.setE_other (p2.ranges.ne hyc.at' (by simp)) y.n e
  obtain ⟨cs, h68, _, _, htake⟩ := hl2.has
  have h68' : Has (setE (wc.drew.alloc o) y.g y.n e) g 68 cs := h68.setE_other (by rintro rfl; have := hl2.ow.symm.trans hyc.at'.1; simp at this) y.n e
  rw [← upto_more hX he] at b1
  have b3 := b1.slack (sl' := fun _ => 0) (fun i => by by_cases h : i = r <;> simp [h])
  have pe2 := pe.step (st fun _ => False) (fun h => h)
  have h70 : Has (setE (wc.drew.alloc o) y.g y.n e) be 70 #[.int .i32 f, .int .i32 e.t, .int .u32 e.k] := pe2.2.setE_other (pe2.ne hyc.at' (by simp)) y.n e
  have n1 : gr ≠ g := by rintro rfl; have := hl2.ow.symm.trans p2.ranges.1; simp at this
  have n2 : be ≠ g := by rintro rfl; have := hl2.ow.symm.trans pe2.1; simp at this
  have h64' := h64.other n1 init.length (.slice (some ⟨y.g, 0, none⟩) (y.n + 1) y.c)
  have h70' := h70.other n2 init.length (.slice (some ⟨y.g, 0, none⟩) (y.n + 1) y.c)
  refine ⟨⟨by rw [h64.cell r]; simpa using hv, h70.cell 0, h70.cell 1, h70.cell 2⟩, ⟨by rw [h64'.cell r]; simpa using hv, h70'.cell 0, h70'.cell 1, h70'.cell 2⟩, ?_, h68'.free _, ow1, _, _, sp, b3, (pst.trans (st Q1)).trans b2⟩
  rw [h68'.cell, ← h68.cell]; exact hl2.cell init.length y (by simp)
theorem at0 {a0 : Oper} {t : List Oper} : (List.toArray (a0 :: t))[0]? = some a0 := rfl
theorem at1 {a0 a1 : Oper} {t : List Oper} : (List.toArray (a0 :: a1 :: t))[1]? = some a1 := rfl
theorem at2 {a0 a1 a2 : Oper} {t : List Oper} : (List.toArray (a0 :: a1 :: a2 :: t))[2]? = some a2 := rfl
theorem at3 {a0 a1 a2 a3 : Oper} {t : List Oper} : (List.toArray (a0 :: a1 :: a2 :: a3 :: t))[3]? = some a3 := rfl
theorem at4 {a0 a1 a2 a3 a4 : Oper} {t : List Oper} : (List.toArray (a0 :: a1 :: a2 :: a3 :: a4 :: t))[4]? = some a4 := rfl
theorem at5 {a0 a1 a2 a3 a4 a5 : Oper} {t : List Oper} : (List.toArray (a0 :: a1 :: a2 :: a3 :: a4 :: a5 :: t))[5]? = some a5 := rfl
theorem at6 {a0 a1 a2 a3 a4 a5 a6 : Oper} {t : List Oper} : (List.toArray (a0 :: a1 :: a2 :: a3 :: a4 :: a5 :: a6 :: t))[6]? = some a6 := rfl
theorem at7 {a0 a1 a2 a3 a4 a5 a6 a7 : Oper} {t : List Oper} : (List.toArray (a0 :: a1 :: a2 :: a3 :: a4 :: a5 :: a6 :: a7 :: t))[7]? = some a7 := rfl
theorem at8 {a0 a1 a2 a3 a4 a5 a6 a7 a8 : Oper} {t : List Oper} : (List.toArray (a0 :: a1 :: a2 :: a3 :: a4 :: a5 :: a6 :: a7 :: a8 :: t))[8]? = some a8 := rfl
theorem at9 {a0 a1 a2 a3 a4 a5 a6 a7 a8 a9 : Oper} {t : List Oper} : (List.toArray (a0 :: a1 :: a2 :: a3 :: a4 :: a5 :: a6 :: a7 :: a8 :: a9 :: t))[9]? = some a9 := rfl
theorem at10 {a0 a1 a2 a3 a4 a5 a6 a7 a8 a9 a10 : Oper} {t : List Oper} : (List.toArray (a0 :: a1 :: a2 :: a3 :: a4 :: a5 :: a6 :: a7 :: a8 :: a9 :: a10 :: t))[10]? = some a10 := rfl
theorem at11 {a0 a1 a2 a3 a4 a5 a6 a7 a8 a9 a10 a11 : Oper} {t : List Oper} : (List.toArray (a0 :: a1 :: a2 :: a3 :: a4 :: a5 :: a6 :: a7 :: a8 :: a9 :: a10 :: a11 :: t))[11]? = some a11 := rfl
theorem at12 {a0 a1 a2 a3 a4 a5 a6 a7 a8 a9 a10 a11 a12 : Oper} {t : List Oper} : (List.toArray (a0 :: a1 :: a2 :: a3 :: a4 :: a5 :: a6 :: a7 :: a8 :: a9 :: a10 :: a11 :: a12 :: t))[12]? = some a12 := rfl
theorem at13 {a0 a1 a2 a3 a4 a5 a6 a7 a8 a9 a10 a11 a12 a13 : Oper} {t : List Oper} : (List.toArray (a0 :: a1 :: a2 :: a3 :: a4 :: a5 :: a6 :: a7 :: a8 :: a9 :: a10 :: a11 :: a12 :: a13 :: t))[13]? = some a13 := rfl
theorem at14 {a0 a1 a2 a3 a4 a5 a6 a7 a8 a9 a10 a11 a12 a13 a14 : Oper} {t : List Oper} : (List.toArray (a0 :: a1 :: a2 :: a3 :: a4 :: a5 :: a6 :: a7 :: a8 :: a9 :: a10 :: a11 :: a12 :: a13 :: a14 :: t))[14]? = some a14 := rfl
theorem at15 {a0 a1 a2 a3 a4 a5 a6 a7 a8 a9 a10 a11 a12 a13 a14 a15 : Oper} {t : List Oper} : (List.toArray (a0 :: a1 :: a2 :: a3 :: a4 :: a5 :: a6 :: a7 :: a8 :: a9 :: a10 :: a11 :: a12 :: a13 :: a14 :: a15 :: t))[15]? = some a15 := rfl
theorem at16 {a0 a1 a2 a3 a4 a5 a6 a7 a8 a9 a10 a11 a12 a13 a14 a15 a16 : Oper} {t : List Oper} : (List.toArray (a0 :: a1 :: a2 :: a3 :: a4 :: a5 :: a6 :: a7 :: a8 :: a9 :: a10 :: a11 :: a12 :: a13 :: a14 :: a15 :: a16 :: t))[16]? = some a16 := rfl
theorem at17 {a0 a1 a2 a3 a4 a5 a6 a7 a8 a9 a10 a11 a12 a13 a14 a15 a16 a17 : Oper} {t : List Oper} : (List.toArray (a0 :: a1 :: a2 :: a3 :: a4 :: a5 :: a6 :: a7 :: a8 :: a9 :: a10 :: a11 :: a12 :: a13 :: a14 :: a15 :: a16 :: a17 :: t))[17]? = some a17 := rfl
theorem at18 {a0 a1 a2 a3 a4 a5 a6 a7 a8 a9 a10 a11 a12 a13 a14 a15 a16 a17 a18 : Oper} {t : List Oper} : (List.toArray (a0 :: a1 :: a2 :: a3 :: a4 :: a5 :: a6 :: a7 :: a8 :: a9 :: a10 :: a11 :: a12 :: a13 :: a14 :: a15 :: a16 :: a17 :: a18 :: t))[18]? = some a18 := rfl
theorem at19 {a0 a1 a2 a3 a4 a5 a6 a7 a8 a9 a10 a11 a12 a13 a14 a15 a16 a17 a18 a19 : Oper} {t : List Oper} : (List.toArray (a0 :: a1 :: a2 :: a3 :: a4 :: a5 :: a6 :: a7 :: a8 :: a9 :: a10 :: a11 :: a12 :: a13 :: a14 :: a15 :: a16 :: a17 :: a18 :: a19 :: t))[19]? = some a19 := rfl
theorem at20 {a0 a1 a2 a3 a4 a5 a6 a7 a8 a9 a10 a11 a12 a13 a14 a15 a16 a17 a18 a19 a20 : Oper} {t : List Oper} : (List.toArray (a0 :: a1 :: a2 :: a3 :: a4 :: a5 :: a6 :: a7 :: a8 :: a9 :: a10 :: a11 :: a12 :: a13 :: a14 :: a15 :: a16 :: a17 :: a18 :: a19 :: a20 :: t))[20]? = some a20 := rfl
theorem at21 {a0 a1 a2 a3 a4 a5 a6 a7 a8 a9 a10 a11 a12 a13 a14 a15 a16 a17 a18 a19 a20 a21 : Oper} {t : List Oper} : (List.toArray (a0 :: a1 :: a2 :: a3 :: a4 :: a5 :: a6 :: a7 :: a8 :: a9 :: a10 :: a11 :: a12 :: a13 :: a14 :: a15 :: a16 :: a17 :: a18 :: a19 :: a20 :: a21 :: t))[21]? = some a21 := rfl
theorem at22 {a0 a1 a2 a3 a4 a5 a6 a7 a8 a9 a10 a11 a12 a13 a14 a15 a16 a17 a18 a19 a20 a21 a22 : Oper} {t : List Oper} : (List.toArray (a0 :: a1 :: a2 :: a3 :: a4 :: a5 :: a6 :: a7 :: a8 :: a9 :: a10 :: a11 :: a12 :: a13 :: a14 :: a15 :: a16 :: a17 :: a18 :: a19 :: a20 :: a21 :: a22 :: t))[22]? = some a22 := rfl
set_option maxRecDepth 1000000 in
set_option maxHeartbeats 8000000 in
theorem pass1 (post : Ending → World → Prop) (K : Act → World → Prop) (parts : List Ck) (ps : Option Addr) (ce gb bg N gst gsh s nR gr gl gs : Nat) (r5 : Array Value) (W : World) (ow0 : Ow)
    (HG : Hid (Gr W ow0 gb bg N (.slice ps parts.length ce) (.slice none 0 0) r5)) (HSH : Hid (At W ow0 (4, 0, 0) gsh 3 #[.int .i64 s])) (HRN : Hid (Rngs N s nR)) (hs : s ≤ 6) (_hnR : nR ≤ 1024)
    (HT : Hid (∀ e ∈ gots parts, 0 ≤ e.f ∧ e.f < (N : Int))) (hN : N ≤ 65536) (HE : Hid ((gots parts).length ≤ 65536)) (hP : parts.length ≤ 65536)
    (HPS : Hid (0 < parts.length → ∃ ge, ps = some ⟨ge, 0, none⟩)) (HI : Hid (In1 (.slice ps parts.length ce) parts s nR gr gl gs 0 0 W ow0 W))
    (x0 x3 x4 x5 x6 x7 x10 x12 x14 x15 x16 x17 x18 x19 x20 x21 x22 x23 x24 x25 x26 x27 x28 x29 x30 x31 x32 x33 x34 x35 x36 x37 x38 x39 x40 x41 x42 x43 x44 x45 x46 x47 x48 x49 x50 x51 x52 x53 x54 x55 x56 x57 x58 x59 x60 x61 x62 x63 x64 x65 x66 x67 x68 x69 x70 x71 x72 x73 x74 x75 x76 x77 x78 x79 x80 x81 x82 x83 x84 x85 x86 x87 x88 x89 x90 x91 x92 x93 x94 x95 x96 x97 x98 x99 x100 x101 x102 x103 x104 x105 x106 x107 x108 x109 x110 x111 x112 x113 x114 x115 x116 x117 x118 x119 x120 x121 x122 x123 x124 x125 x126 x127 x128 x129 x130 x131 x132 x133 x134 x138 x139 x140 x141 x142 x143 x144 x145 x146 x147 x148 x149 x150 x151 x152 x153 x154 x155 x156 x157 x158 x159 x160 x161 x162 x163 x164 x165 x166 x167 x168 x169 x170 x171 x172 x173 x174 x175 x176 x177 x178 x179 x180 x181 x182 x183 x184 x185 x186 x187 x188 x189 x190 x191 x192 x193 x194 x195 x196 x197 x198 x199 x200 x201 x202 x203 x204 x205 x206 x207 x208 x209 x210 x211 x212 x213 x214 x215 x216 x217 x218 x219 x220 x221 x222 x223 x224 x225 x226 x227 x228 x229 x230 x231 x232 x233 x234 x235 x236 x237 x238 x239 x240 x241 x242 x243 x244 x245 x246 x247 x248 x249 x250 x251 x252 x253 x254 x255 x256 x257 x258 x259 x260 x261 x262 x263 x264 x265 x266 x267 x268 x269 x270 x271 x272 x273 x274 x275 x276 x277 x278 x279 x280 x281 x282 x283 x284 x285 x286 x287 x288 x289 x290 x291 x292 x293 x294 x295 x296 x297 x298 x299 x300 x301 x302 x303 x304 x305 x306 x307 x308 x309 x310 x311 x312 x313 x314 x315 x316 x317 x318 x319 : Value)
    (hK : ∀ (u14 u15 u17 u18 u19 u20 u137 u138 u139 u140 u141 u142 u143 u144 u145 u146 u147 u148 u149 u150 u151 u152 u153 u154 u155 u156 u157 u158 u159 u160 u161 u162 u163 u164 u165 u166 u167 u168 u169 u170 u171 u172 u173 u174 u175 u176 u177 u178 u179 u180 u181 u182 u183 u184 u185 u186 u187 u188 u189 u190 u191 u192 u193 u194 u195 u196 u197 u198 u199 u200 u201 u202 u203 u204 u205 u206 u207 u208 u209 u210 u211 u212 u213 u214 u215 u216 u217 u218 u219 u220 u221 u222 u223 u224 u225 u226 u227 u228 u229 u230 u231 : Value) (w5 : World), Hid (In1 (.slice ps parts.length ce) parts s nR gr gl gs parts.length 0 W ow0 w5) → K ⟨#[x0, .pointer (some ⟨gb, 0, none⟩), .slice (some ⟨gst, 0, none⟩) (N + 1) (N + 1), x3, x4, x5, x6, x7, .pointer (some ⟨gsh, 0, none⟩), .slice (some ⟨gr, 0, none⟩) nR nR, x10, .slice (some ⟨gl, 0, none⟩) nR nR, x12, .pointer (some ⟨gs, 0, none⟩), u14, u15, x16, u17, u18, u19, u20, x21, x22, x23, x24, x25, x26, x27, x28, x29, x30, x31, x32, x33, x34, x35, x36, x37, x38, x39, x40, x41, x42, x43, x44, x45, x46, x47, x48, x49, x50, x51, x52, x53, x54, x55, x56, x57, x58, x59, x60, x61, x62, x63, x64, x65, x66, x67, x68, x69, x70, x71, x72, x73, x74, x75, x76, x77, x78, x79, x80, x81, x82, x83, x84, x85, x86, x87, x88, x89, x90, x91, x92, x93, x94, x95, x96, x97, x98, x99, x100, x101, x102, x103, x104, x105, x106, x107, x108, x109, x110, x111, x112, x113, x114, x115, x116, x117, x118, x119, x120, x121, x122, x123, x124, x125, x126, x127, x128, x129, x130, x131, x132, x133, x134, .slice ps parts.length ce, .int .i64 parts.length, u137, u138, u139, u140, u141, u142, u143, u144, u145, u146, u147, u148, u149, u150, u151, u152, u153, u154, u155, u156, u157, u158, u159, u160, u161, u162, u163, u164, u165, u166, u167, u168, u169, u170, u171, u172, u173, u174, u175, u176, u177, u178, u179, u180, u181, u182, u183, u184, u185, u186, u187, u188, u189, u190, u191, u192, u193, u194, u195, u196, u197, u198, u199, u200, u201, u202, u203, u204, u205, u206, u207, u208, u209, u210, u211, u212, u213, u214, u215, u216, u217, u218, u219, u220, u221, u222, u223, u224, u225, u226, u227, u228, u229, u230, u231, x232, x233, x234, x235, x236, x237, x238, x239, x240, x241, x242, x243, x244, x245, x246, x247, x248, x249, x250, x251, x252, x253, x254, x255, x256, x257, x258, x259, x260, x261, x262, x263, x264, x265, x266, x267, x268, x269, x270, x271, x272, x273, x274, x275, x276, x277, x278, x279, x280, x281, x282, x283, x284, x285, x286, x287, x288, x289, x290, x291, x292, x293, x294, x295, x296, x297, x298, x299, x300, x301, x302, x303, x304, x305, x306, x307, x308, x309, x310, x311, x312, x313, x314, x315, x316, x317, x318, x319], []⟩ w5) :
    Code.wp Try.prog ((Try.f34.body.bind (blockAt 10)).getD .skip) (Exit.then K (bodyPost Try.prog Try.f34 post)) ⟨#[x0, .pointer (some ⟨gb, 0, none⟩), .slice (some ⟨gst, 0, none⟩) (N + 1) (N + 1), x3, x4, x5, x6, x7, .pointer (some ⟨gsh, 0, none⟩), .slice (some ⟨gr, 0, none⟩) nR nR, x10, .slice (some ⟨gl, 0, none⟩) nR nR, x12, .pointer (some ⟨gs, 0, none⟩), x14, x15, x16, x17, x18, x19, x20, x21, x22, x23, x24, x25, x26, x27, x28, x29, x30, x31, x32, x33, x34, x35, x36, x37, x38, x39, x40, x41, x42, x43, x44, x45, x46, x47, x48, x49, x50, x51, x52, x53, x54, x55, x56, x57, x58, x59, x60, x61, x62, x63, x64, x65, x66, x67, x68, x69, x70, x71, x72, x73, x74, x75, x76, x77, x78, x79, x80, x81, x82, x83, x84, x85, x86, x87, x88, x89, x90, x91, x92, x93, x94, x95, x96, x97, x98, x99, x100, x101, x102, x103, x104, x105, x106, x107, x108, x109, x110, x111, x112, x113, x114, x115, x116, x117, x118, x119, x120, x121, x122, x123, x124, x125, x126, x127, x128, x129, x130, x131, x132, x133, x134, .slice ps parts.length ce, .int .i64 parts.length, .int .i64 0, x138, x139, x140, x141, x142, x143, x144, x145, x146, x147, x148, x149, x150, x151, x152, x153, x154, x155, x156, x157, x158, x159, x160, x161, x162, x163, x164, x165, x166, x167, x168, x169, x170, x171, x172, x173, x174, x175, x176, x177, x178, x179, x180, x181, x182, x183, x184, x185, x186, x187, x188, x189, x190, x191, x192, x193, x194, x195, x196, x197, x198, x199, x200, x201, x202, x203, x204, x205, x206, x207, x208, x209, x210, x211, x212, x213, x214, x215, x216, x217, x218, x219, x220, x221, x222, x223, x224, x225, x226, x227, x228, x229, x230, x231, x232, x233, x234, x235, x236, x237, x238, x239, x240, x241, x242, x243, x244, x245, x246, x247, x248, x249, x250, x251, x252, x253, x254, x255, x256, x257, x258, x259, x260, x261, x262, x263, x264, x265, x266, x267, x268, x269, x270, x271, x272, x273, x274, x275, x276, x277, x278, x279, x280, x281, x282, x283, x284, x285, x286, x287, x288, x289, x290, x291, x292, x293, x294, x295, x296, x297, x298, x299, x300, x301, x302, x303, x304, x305, x306, x307, x308, x309, x310, x311, x312, x313, x314, x315, x316, x317, x318, x319], []⟩ W := by
  conv => arg 2; whnf
  go_wp2
  go_loopw [137] (fun i wr => ∃ k : Nat, k ≤ parts.length ∧ i = .int .i64 k ∧ Hid (In1 (.slice ps parts.length ce) parts s nR gr gl gs k 0 W ow0 wr)) (fun i _ => parts.length - (intOf i).toNat)
  case atStart => exact ⟨0, by omega, rfl, HI⟩
  case round =>
    obtain ⟨k, hk, rfl, hi⟩ := hrel
    by_cases hlt : k < parts.length
    · obtain ⟨x, hx⟩ : ∃ x, parts[k]? = some x := ⟨_, List.getElem?_eq_getElem hlt⟩
      have HX : Hid (parts[k]? = some x) := hx
      obtain ⟨ge, hge⟩ := HPS.out (by omega)
      subst hge
      have hl2 : wr.cell? ⟨ge, k, none⟩ = some (.slice (some ⟨x.g, 0, none⟩) x.n x.c) := by
        obtain ⟨ow, rv, R, sp, h1, h2⟩ := hi.out
        obtain ⟨cs, a1, a2, a3⟩ := h1.erow ge ce rfl
        exact (a1.2.cell k).trans (a3 k x (Nat.le_refl _) hx)
      have HL : Hid (x.got.length = x.n ∧ x.es.length = x.c) := by
        obtain ⟨ow, rv, R, sp, h1, h2⟩ := hi.out
        have hck := h1.pck k x (Nat.le_refl _) hx
        exact ⟨got_len hck.len hck.le, hck.len⟩
      have hxn : x.n ≤ 65536 := by
        have h2 : x.got.length ≤ (gots parts).length := by
          obtain ⟨tl, ht⟩ := upto_pre parts (k + 1) 0
          rw [ht, ← upto_next hx]; unfold upto; rw [hx]; simp; omega
        have := HE.out; have := HL.out.1; omega
      have hklt : (k : Int) < (parts.length : Int) := by omega
      clear hx
      go_upto_block 12 with fail
      go_cut [] (fun wc => Hid (In1 (.slice (some ⟨ge, 0, none⟩) parts.length ce) parts s nR gr gl gs k x.n W ow0 wc))
      case first =>
        go_wp2
        go_loopw [144] (fun i wr2 => ∃ q : Nat, q ≤ x.n ∧ i = .int .i64 q ∧ Hid (In1 (.slice (some ⟨ge, 0, none⟩) parts.length ce) parts s nR gr gl gs k q W ow0 wr2)) (fun i _ => x.n - (intOf i).toNat)
        case atStart => exact ⟨0, by omega, rfl, hi⟩
        case round =>
          obtain ⟨q, hq, rfl, hi2⟩ := hrel
          clear hi hl2
          by_cases hlt2 : q < x.n
          · obtain ⟨e, he⟩ : ∃ e, x.got[q]? = some e := ⟨_, List.getElem?_eq_getElem (by rw [HL.out.1]; exact hlt2)⟩
            have hes : x.es[q]? = some e := by rw [← got_at hlt2]; exact he
            obtain ⟨t0, t1⟩ := HT.out e (got_mem HX.out he)
            obtain ⟨f, hf⟩ := Int.eq_ofNat_of_zero_le t0
            rw [hf] at t1
            have hfN : f < N := by omega
            obtain ⟨r, hr⟩ : ∃ r, r = f / 2 ^ s := ⟨_, rfl⟩
            have hrn : r < nR := by rw [hr]; exact HRN.out.lt f hfN
            have hrg : rg s e = r := by unfold rg; rw [hf, hr]; rfl
            have hdiv : (f : Int) / 2 ^ s = (r : Int) := by rw [hr, Int.natCast_ediv, Int.natCast_pow]; rfl
            obtain ⟨ow, rv, R, sp, h1, h2⟩ := hi2.out
            obtain ⟨d0, d1, d2⟩ := (h1.pck k x (Nat.le_refl _) HX.out).edge hes
            rw [hf] at d0
            -- the edge's own variable
            obtain ⟨o, ho⟩ : ∃ o : Obj, o = .cells #[.int .i32 f, .int .i32 e.t, .int .u32 e.k] 70 := ⟨_, rfl⟩
            have stv : ∀ Q : Pos → Prop, Step Q wr ow (wr.alloc o) (upd ow wr.heap.size (9, 0, 0)) := fun Q => ((Step.refl Q wr ow).alloc o).own (.inl (Nat.le_refl _)) _
            have h1v := h1.step (stv fun _ => False) (fun _ _ h => h)
            have hev : At (wr.alloc o) (upd ow wr.heap.size (9, 0, 0)) (9, 0, 0) wr.heap.size 70 #[.int .i32 f, .int .i32 e.t, .int .u32 e.k] := ⟨upd_self _ _ _, by rw [ho]; exact has_new _ _ _⟩
            have h2v : Step Q1 W ow0 (wr.alloc o) (upd ow wr.heap.size (9, 0, 0)) := h2.trans (stv Q1)
            generalize upd ow wr.heap.size (9, 0, 0) = owv at h1v hev h2v
            generalize hWv : wr.alloc o = Wv at h1v hev h2v
            have hsh : Wv.cell? ⟨gsh, 0, none⟩ = some (.int .i64 s) := (HSH.out.step h2v (by simp [Q1])).2.cell 0
            obtain ⟨v, hv⟩ : ∃ v, rv[r]? = some v := ⟨_, List.getElem?_eq_getElem (by rw [h1v.lenv]; exact hrn)⟩
            obtain ⟨cks, hc⟩ : ∃ cks, R[r]? = some cks := ⟨_, List.getElem?_eq_getElem (by rw [h1v.lenR]; exact hrn)⟩
            have hcv : Wv.cell? ⟨gr, r, none⟩ = some v := by rw [h1v.ranges.2.cell r]; simpa using hv
            obtain ⟨pv, cv, hvs⟩ := (h1v.rows r v cks hv hc).shape
            have HWV : Hid (wr.alloc (.cells #[.int .i32 f, .int .i32 e.t, .int .u32 e.k] 70) = Wv) := by rw [← hWv, ho]; exact rfl
            have k1 : ∀ o' : Obj, (wr.alloc o').cell? ⟨gsh, 0, none⟩ = some (.int .i64 s) := fun o' => ((HSH.out.step h2 (by simp [Q1])).2.alloc o').cell 0
            have k2 : ∀ o' : Obj, (wr.alloc o').cell? ⟨gr, r, none⟩ = some v := fun o' => by rw [(h1.ranges.2.alloc o').cell r]; simpa using hv
            have HP : Hid (P1 (.slice (some ⟨ge, 0, none⟩) parts.length ce) parts s nR gr gl gs k (upto parts k q) rv R sp (leftD (gots parts) (upto parts k q) s nR) (fun _ => 0) Wv owv) := h1v
            have HEV : Hid (At Wv owv (9, 0, 0) wr.heap.size 70 #[.int .i32 f, .int .i32 e.t, .int .u32 e.k]) := hev
            have HST : Hid (Step Q1 W ow0 Wv owv) := h2v
            have HV : Hid (rv[r]? = some v ∧ R[r]? = some cks) := ⟨hv, hc⟩
            have HF : Hid (x.got[q]? = some e ∧ e.f = (f : Int) ∧ rg s e = r) := ⟨he, hf, hrg⟩
            have hckl : cks.length ≤ 65536 := by
              have a1 := h1.cnt r cks hc
              have a2 := h1.got r cks hc
              have a3 : (ofR (upto parts k q) s r).length ≤ (upto parts k q).length := List.length_filter_le _ _
              obtain ⟨tl, ht⟩ := upto_pre parts k q
              have a4 := HE.out
              rw [ht, List.length_append] at a4
              rw [a2] at a1; omega
            clear h1v hev h2v hWv ho stv h1 h2 hi2 hsh hcv he hes hf hrg hr hv hc
            have hi1 : (q : Int) < (x.n : Int) := by omega
            have hi2 : (r : Int) < (nR : Int) := by omega
            subst hvs
            go_upto_region 38 with fail
            go_cut [180] (fun b wc => b = .bool (needs cks) ∧ Hid (∃ m, wc = Wv.drewN m))
            case first =>
              rcases List.eq_nil_or_concat cks with hnil | ⟨init, y, hcat⟩
              · subst hnil
                go_quiet (fail)
                go_wp2
                go_meet
                case rel => exact ⟨rfl, _, by rw [← HWV.out]⟩
              · rw [List.concat_eq_append] at hcat
                subst hcat
                obtain ⟨g, cap, hl⟩ := (HP.out.rows r _ _ HV.out.1 HV.out.2).laid (by simp)
                have hlv := hl.v
                simp only [Value.slice.injEq] at hlv
                obtain ⟨rfl, _, rfl⟩ := hlv
                have k3 : (wr.alloc (.cells #[.int .i32 f, .int .i32 e.t, .int .u32 e.k] 70)).cell? ⟨g, init.length, none⟩ = some (.slice (some ⟨y.g, 0, none⟩) y.n y.c) := by rw [HWV.out]; exact hl.cell init.length y (by simp)
                have hlen : (init ++ [y]).length = init.length + 1 := by simp
                have hz : ¬ ((init.length : Int) + 1 = 0) := by omega
                have hzb : (((init.length : Int) + 1) == 0) = false := by simp; omega
                have hii : (init.length : Int) < (init.length : Int) + 1 := by omega
                clear hl
                by_cases hyc : y.n = y.c
                · have hyb : ((y.n : Int) == (y.c : Int)) = true := by simp [hyc]
                  have HYC : Hid (y.n = y.c) := hyc
                  clear hyc
                  go_quiet (fail)
                  go_wp2
                  go_meet
                  case rel => exact ⟨by rw [needs_snoc]; simp [HYC.out], _, by rw [← HWV.out]⟩
                · have hyb : ((y.n : Int) == (y.c : Int)) = false := by simp; omega
                  have HYC : Hid (¬ y.n = y.c) := hyc
                  clear hyc
                  go_quiet (fail)
                  go_wp2
                  go_meet
                  case rel => exact ⟨by rw [needs_snoc]; simp [HYC.out], _, by rw [← HWV.out]⟩
            case rest =>
              obtain ⟨hb, hm⟩ := hcut
              subst hb
              have HP2 : Hid (P1 (.slice (some ⟨ge, 0, none⟩) parts.length ce) parts s nR gr gl gs k (upto parts k q) rv R sp (leftD (gots parts) (upto parts k q) s nR) (fun _ => 0) wc owv ∧ At wc owv (9, 0, 0) wr.heap.size 70 #[.int .i32 f, .int .i32 e.t, .int .u32 e.k] ∧ Step Q1 W ow0 wc owv) := by
                obtain ⟨m, rfl⟩ := hm.out
                have st : ∀ Q : Pos → Prop, Step Q Wv owv (Wv.drewN m) owv := fun Q => (Step.refl Q _ _).drewN m
                exact ⟨HP.out.step (st fun _ => False) (fun _ _ h => h), HEV.out.step (st fun _ => False) (fun h => h), HST.out.trans (st Q1)⟩
              clear HP HEV HST hm k1 k2 HWV d0 d1 d2
              go_upto_if 180 with fail
              go_cut [] (fun w2 => Hid (Mid1 (.slice (some ⟨ge, 0, none⟩) parts.length ce) parts s nR gr gl gs k q r wr.heap.size #[.int .i32 f, .int .i32 e.t, .int .u32 e.k] W ow0 w2))
              case first =>
                cases hnd : needs cks
                · rcases List.eq_nil_or_concat cks with hnil | ⟨init, y, hcat⟩
                  · subst hnil; simp [needs] at hnd
                  · rw [List.concat_eq_append] at hcat
                    subst hcat
                    rw [needs_snoc] at hnd
                    have HM : Hid (Mid1 (.slice (some ⟨ge, 0, none⟩) parts.length ce) parts s nR gr gl gs k q r wr.heap.size #[.int .i32 f, .int .i32 e.t, .int .u32 e.k] W ow0 wc) := by
                      obtain ⟨p1, p2, p3⟩ := HP2.out
                      refine ⟨owv, rv, R, sp, _, init, y, p1.slack (fun i => Nat.zero_le _), HV.out.1, HV.out.2, ?_, p2, p3⟩
                      have h1 := ((p1.rows r _ _ HV.out.1 HV.out.2).ck init.length y (by simp)).le
                      simp at hnd; omega
                    clear hnd
                    go_wp2
                    go_meet
                    case rel => exact HM
                · obtain ⟨i0, hi0, hz0, hz1, hz2⟩ := info_parts info68
                  obtain ⟨lv, hlv⟩ : ∃ lv, lv = (ofR (gots parts) s r).length - (ofR (upto parts k q) s r).length := ⟨_, rfl⟩
                  have hlv1 : 1 ≤ lv := by
                    obtain ⟨tl, ht⟩ := upto_split HX.out HF.out.1
                    have := left_pos (s := s) ht
                    rw [HF.out.2.2] at this; omega
                  have hlv2 : lv ≤ 65536 := by
                    have h1 : (ofR (gots parts) s r).length ≤ (gots parts).length := List.length_filter_le _ _
                    have := HE.out; omega
                  have c0 : wc.cell? ⟨gr, r, none⟩ = some (.slice pv cks.length cv) := by
                    rw [HP2.out.1.ranges.2.cell r]; simpa using HV.out.1
                  have cl : wc.cell? ⟨gl, r, none⟩ = some (.int .i64 lv) := by
                    rw [HP2.out.1.left.2.cell r, ints_at (leftD_at _ _ _ _ _ hrn), hlv]
                  -- what take leaves of it
                  have HB0 : Hid (∀ n e' w', TK wc.drew owv gs sp n (23, r, cks.length) e' w' → ∃ ow', Row w' ow' (13, r, 0) (fun j => (23, r, j)) (.slice pv cks.length cv) cks ∧ At w' ow' (5, 0, 0) gr 64 rv.toArray) := by
                    rintro n e' w' ⟨y, ow', sv', sp', _, _, _, _, _, _, st⟩
                    obtain ⟨p1, p2, p3⟩ := HP2.out
                    have st' : Step Sq wc owv w' ow' := ((Step.refl Sq wc owv).drewN 1).trans st
                    exact ⟨ow', (p1.rows r _ _ HV.out.1 HV.out.2).step st' (by simp [Sq]) (fun j _ => by simp [Sq]), p1.ranges.step st' (by simp [Sq])⟩
                  have HB : Hid (∀ n e' w', TK wc.drew owv gs sp n (23, r, cks.length) e' w' → ∀ o, (w'.alloc o).ownsRow 0 68 1 (.slice pv cks.length cv) cks.length (cks.map Ck.val)) := by
                    intro n e' w' htk o
                    obtain ⟨ow', h1, h2⟩ := HB0.out n e' w' htk
                    exact owns_has h1.own fun g hg => Below.heap_alloc w' o g (h1.own.lt g hg).2
                  have HB2 : Hid (∀ n e' w', TK wc.drew owv gs sp n (23, r, cks.length) e' w' → ∀ o w1, (w'.alloc o).grownBy w1 (Value.slice pv cks.length cv).ownBlock → w1.cell? ⟨gr, r, none⟩ = some (.slice pv cks.length cv) ∧ w1.frozen? ⟨gr, r, none⟩ = false) := by
                    intro n e' w' htk o w1 hg
                    obtain ⟨ow', h1, h2⟩ := HB0.out n e' w' htk
                    have hne : some gr ≠ (Value.slice pv cks.length cv).ownBlock := fun e => absurd ((h1.hd gr e.symm).symm.trans h2.1) (by simp)
                    have hh := h2.2.alloc o
                    have hlt' : gr < (w'.alloc o).heap.size := hh.lt
                    refine ⟨(hg.cell_far ⟨gr, r, none⟩ hlt' hne).trans ?_, (hg.frozen_far ⟨gr, r, none⟩ hlt' hne).trans (hh.free r)⟩
                    rw [hh.cell r]; simpa using HV.out.1
                  have HB3 : Hid (∀ n e' w', TK wc.drew owv gs sp n (23, r, cks.length) e' w' → w'.cell? ⟨gr, r, none⟩ = some (.slice pv cks.length cv) ∧ ∀ o, (w'.alloc o).cell? ⟨gr, r, none⟩ = some (.slice pv cks.length cv)) := by
                    intro n e' w' htk
                    obtain ⟨ow', h1, h2⟩ := HB0.out n e' w' htk
                    refine ⟨?_, fun o => ?_⟩
                    · rw [h2.2.cell r]; simpa using HV.out.1
                    · rw [(h2.2.alloc o).cell r]; simpa using HV.out.1
                  clear hlv hnd
                  obtain ⟨nn, hnn⟩ : ∃ nn, nn = min 512 lv := ⟨_, rfl⟩
                  have HNN : Hid (1 ≤ nn) := by show 1 ≤ nn; omega
                  have HTK : Hid (Calls Try.prog 37 #[.pointer (some ⟨gs, 0, none⟩), .int .i64 (if (lv : Int) < 512 then (lv : Int) else 512)] wc.drew (TK wc.drew owv gs sp nn (23, r, cks.length))) := by
                    obtain ⟨p1, p2, p3⟩ := HP2.out
                    obtain ⟨sv, hsv⟩ := (p1.step ((Step.refl (fun _ => False) wc owv).drewN 1) (fun _ _ h => h)).spare
                    have e : (if (lv : Int) < 512 then (lv : Int) else 512) = (nn : Int) := by split <;> omega
                    rw [e]
                    exact take_any gs nn sv sp (23, r, cks.length) wc.drew owv hsv (by omega) (by have := p1.spk; omega)
                  clear hnn
                  go_wp2
                  go_region_law
                    (first
                      | (refine step_append_lies _ (by rfl) _ _ _ (by rfl) 0 68 i0 _ 1 24 Try.underlying64 hi0 hz0 hz1 hz2 rfl (by omega) (.slice pv cks.length cv) cks.length (cks.map Ck.val) (by rfl) (HB.out _ _ _ htk _)
                          ⟨w'.heap.size, 0, none⟩ 1 1 [.slice (some ⟨y.g, 0, none⟩) y.n y.c] (by rfl) (by rfl) (World.news_of_block (cs := #[.slice (some ⟨y.g, 0, none⟩) y.n y.c]) (t := 68) (fr := (0, 0)) (heap_alloc_new w' _)) (by simp [Value.oneCell'])
                          (by omega) (by unfold maxLen; omega) (by omega) (by omega) (w'.heap.size + 1) (by simp) ?_
                         intro g1 cap1 w1 hown1 hgrow hat hlt1
                         have c1 : w1.cell? ⟨gr, r, none⟩ = some (.slice pv cks.length cv) := (HB2.out _ _ _ htk _ _ hgrow).1
                         have f1 : w1.frozen? ⟨gr, r, none⟩ = false := (HB2.out _ _ _ htk _ _ hgrow).2)
                      | (go_simp
                         with_reducible refine HTK.out.mono ?_
                         intro ee w' htk
                         obtain ⟨y, hy⟩ : ∃ y : Ck, ee = .returned y.val := by obtain ⟨y, _, _, _, h, _⟩ := htk; exact ⟨y, h⟩
                         subst hy
                         have c2 : w'.cell? ⟨gr, r, none⟩ = some (.slice pv cks.length cv) := (HB3.out _ _ _ htk).1
                         have c3 : ∀ o, (w'.alloc o).cell? ⟨gr, r, none⟩ = some (.slice pv cks.length cv) := (HB3.out _ _ _ htk).2
                         simp only [Ck.val]))
                  all_goals
                    have HM : Hid (Mid1 (.slice (some ⟨ge, 0, none⟩) parts.length ce) parts s nR gr gl gs k q r wr.heap.size #[.int .i32 f, .int .i32 e.t, .int .u32 e.k] W ow0 (w1.setCell ⟨gr, r, none⟩ (.slice (some ⟨g1, 0, none⟩) (cks.length + 1) cap1))) := mid_grow HP2.out rfl HV.out HNN.out htk _ hown1 hgrow hat
                    clear HP2 HV HNN htk hown1 hgrow hat HB HB0 HB2 HB3 HTK c1 f1 c2 c3
                    generalize (if (lv : Int) < 512 then (lv : Int) else 512) = zz
                    go_wp2
                    go_meet
                    case rel => exact HM
              case rest =>
                obtain ⟨ow1, rv1, R1, sp1, v1, init, y, p1, hv1, hc1, hroom, pe, pst⟩ := hcut.out
                obtain ⟨g, cap, hl⟩ := (p1.rows r _ _ hv1 hc1).laid (by simp)
                have hyc := (p1.rows r _ _ hv1 hc1).ck init.length y (by simp)
                have hlv := hl.v
                subst hlv
                have hlen : (init ++ [y]).length = init.length + 1 := by simp
                have HPUT : Hid (∀ (o : Obj) (w1 : World), (wc.drew.alloc o).setCells y.g (0 + y.n * 3) [.int .i32 f, .int .i32 e.t, .int .u32 e.k] = w1 → (w1.cell? ⟨gr, r, none⟩ = some (.slice (some ⟨g, 0, none⟩) (init.length + 1) cap) ∧ w1.cell? ⟨wr.heap.size, 0, none⟩ = some (.int .i32 f) ∧ w1.cell? ⟨wr.heap.size, 1, none⟩ = some (.int .i32 e.t) ∧ w1.cell? ⟨wr.heap.size, 2, none⟩ = some (.int .u32 e.k)) ∧ ((w1.setCell ⟨g, init.length, none⟩ (.slice (some ⟨y.g, 0, none⟩) (y.n + 1) y.c)).cell? ⟨gr, r, none⟩ = some (.slice (some ⟨g, 0, none⟩) (init.length + 1) cap) ∧ (w1.setCell ⟨g, init.length, none⟩ (.slice (some ⟨y.g, 0, none⟩) (y.n + 1) y.c)).cell? ⟨wr.heap.size, 0, none⟩ = some (.int .i32 f) ∧ (w1.setCell ⟨g, init.length, none⟩ (.slice (some ⟨y.g, 0, none⟩) (y.n + 1) y.c)).cell? ⟨wr.heap.size, 1, none⟩ = some (.int .i32 e.t) ∧ (w1.setCell ⟨g, init.length, none⟩ (.slice (some ⟨y.g, 0, none⟩) (y.n + 1) y.c)).cell? ⟨wr.heap.size, 2, none⟩ = some (.int .u32 e.k)) ∧ w1.cell? ⟨g, init.length, none⟩ = some (.slice (some ⟨y.g, 0, none⟩) y.n y.c) ∧ w1.frozen? ⟨g, init.length, none⟩ = false ∧ Mid2 (.slice (some ⟨ge, 0, none⟩) parts.length ce) parts s nR gr gl gs k q W ow0 (w1.setCell ⟨g, init.length, none⟩ (.slice (some ⟨y.g, 0, none⟩) (y.n + 1) y.c))) := by
                  intro o w1 hw
                  rw [← hlen]
                  exact put40 HX.out HF.out.1 HF.out.2.1 HF.out.2.2 p1 hv1 hc1 hroom hl pst pe o w1 hw
                have HSP : Hid (∀ (o : Obj) (L : Nat), L = 3 → ∀ j, j < L → ((wc.drew.alloc o).cell? ⟨y.g, 0 + y.n * 3 + j, none⟩).isSome = true ∧ (wc.drew.alloc o).frozen? ⟨y.g, 0 + y.n * 3 + j, none⟩ = false) := by
                  intro o L hL
                  exact spare3 ((hyc.at'.2.drewN 1).alloc o) (by rw [hyc.len]; exact hroom) L hL
                have c0 : wc.cell? ⟨gr, r, none⟩ = some (.slice (some ⟨g, 0, none⟩) (init.length + 1) cap) := by rw [p1.ranges.2.cell r, ← hlen]; simpa using hv1
                have c0a : ∀ o, (wc.alloc o).cell? ⟨gr, r, none⟩ = some (.slice (some ⟨g, 0, none⟩) (init.length + 1) cap) := fun o => by rw [(p1.ranges.2.alloc o).cell r, ← hlen]; simpa using hv1
                have c1 : wc.cell? ⟨g, init.length, none⟩ = some (.slice (some ⟨y.g, 0, none⟩) y.n y.c) := hl.cell init.length y (by simp)
                have c1a : ∀ o, (wc.alloc o).cell? ⟨g, init.length, none⟩ = some (.slice (some ⟨y.g, 0, none⟩) y.n y.c) := fun o => (World.cell?_alloc_lt _ _ _ hl.lt).trans c1
                have ea0 : ∀ o, (wc.alloc o).cell? ⟨wr.heap.size, 0, none⟩ = some (.int .i32 f) := fun o => (pe.2.alloc o).cell 0
                have ea1 : ∀ o, (wc.alloc o).cell? ⟨wr.heap.size, 1, none⟩ = some (.int .i32 e.t) := fun o => (pe.2.alloc o).cell 1
                have ea2 : ∀ o, (wc.alloc o).cell? ⟨wr.heap.size, 2, none⟩ = some (.int .u32 e.k) := fun o => (pe.2.alloc o).cell 2
                have e0 : wc.cell? ⟨wr.heap.size, 0, none⟩ = some (.int .i32 f) := pe.2.cell 0
                have e1 : wc.cell? ⟨wr.heap.size, 1, none⟩ = some (.int .i32 e.t) := pe.2.cell 1
                have e2 : wc.cell? ⟨wr.heap.size, 2, none⟩ = some (.int .u32 e.k) := pe.2.cell 2
                obtain ⟨j0, hj0, hk0, hk1, hk2⟩ := info_parts info70
                have hroom' : y.n + 1 ≤ y.c := hroom
                have hil : (init.length : Int) < (init.length : Int) + 1 := by omega
                have hib : init.length ≤ 70000 := by
                  have a1 := p1.cnt r _ hc1
                  have a2 := p1.got r _ hc1
                  have a3 : (ofR (upto parts k q) s r).length ≤ (upto parts k q).length := List.length_filter_le _ _
                  obtain ⟨tl, ht⟩ := upto_pre parts k q
                  have a4 := HE.out
                  rw [ht, List.length_append] at a4
                  rw [a2, hlen] at a1; simp at a1; omega
                have hwr : IntKind.i64.wrap (init.length : Int) = (init.length : Int) := by rw [IntKind.wrap_i64]; omega
                clear hl hyc p1 hv1 hc1 pe pst hcut
                go_upto_region 40 with fail
                go_cut [] (fun wd => Hid (Mid2 (.slice (some ⟨ge, 0, none⟩) parts.length ce) parts s nR gr gl gs k q W ow0 wd))
                case first =>
                  refine wp_region_held_drew (S := fun w' => (w'.cell? ⟨gr, r, none⟩ = some (.slice (some ⟨g, 0, none⟩) (init.length + 1) cap) ∧ w'.cell? ⟨wr.heap.size, 0, none⟩ = some (.int .i32 f) ∧ w'.cell? ⟨wr.heap.size, 1, none⟩ = some (.int .i32 e.t) ∧ w'.cell? ⟨wr.heap.size, 2, none⟩ = some (.int .u32 e.k))) (by kernel_rfl) ?_ (fun hHeld => ?_)
                  · go_keep
                  refine wpAnyH_take (i := 0) (v := ?_) at0 (by kernel_rfl) (by kernel_rfl) (by kernel_rfl) (fun _ _ _ h => h) (Or.inl ⟨by rfl, ?_⟩) (by assumption) ?_
                  rotate_left
                  · intro ww hSw
                    try dsimp only at hSw
                    go_simp
                    try with_reducible rfl
                  simp only [Act.put, List.setIfInBounds_toArray, List.set_cons_zero, List.set_cons_succ]
                  refine wpAnyH_take (i := 1) (v := ?_) at1 (by kernel_rfl) (by kernel_rfl) (by kernel_rfl) (fun _ _ _ h => h) (Or.inl ⟨by rfl, ?_⟩) (by assumption) ?_
                  rotate_left
                  · intro ww hSw
                    try dsimp only at hSw
                    go_simp
                    try with_reducible rfl
                  simp only [Act.put, List.setIfInBounds_toArray, List.set_cons_zero, List.set_cons_succ]
                  refine wpAnyH_take (i := 2) (v := ?_) at2 (by kernel_rfl) (by kernel_rfl) (by kernel_rfl) (fun _ _ _ h => h) (Or.inl ⟨by rfl, ?_⟩) (by assumption) ?_
                  rotate_left
                  · intro ww hSw
                    try dsimp only at hSw
                    go_simp
                    try with_reducible rfl
                  simp only [Act.put, List.setIfInBounds_toArray, List.set_cons_zero, List.set_cons_succ]
                  refine wpAnyH_take (i := 3) (v := ?_) at3 (by kernel_rfl) (by kernel_rfl) (by kernel_rfl) (fun _ _ _ h => h) (Or.inl ⟨by rfl, ?_⟩) (by assumption) ?_
                  rotate_left
                  · intro ww hSw
                    try dsimp only at hSw
                    go_simp
                    try with_reducible rfl
                  simp only [Act.put, List.setIfInBounds_toArray, List.set_cons_zero, List.set_cons_succ]
                  refine wpAnyH_take (i := 4) (v := ?_) at4 (by kernel_rfl) (by kernel_rfl) (by kernel_rfl) (fun _ _ _ h => h) (Or.inl ⟨by rfl, ?_⟩) (by assumption) ?_
                  rotate_left
                  · intro ww hSw
                    try dsimp only at hSw
                    go_simp
                    try with_reducible rfl
                  simp only [Act.put, List.setIfInBounds_toArray, List.set_cons_zero, List.set_cons_succ]
                  refine wpAnyH_take (i := 5) (v := ?_) at5 (by kernel_rfl) (by kernel_rfl) (by kernel_rfl) (fun _ _ _ h => h) (Or.inl ⟨by rfl, ?_⟩) (by assumption) ?_
                  rotate_left
                  · intro ww hSw
                    try dsimp only at hSw
                    go_simp
                    try with_reducible rfl
                  simp only [Act.put, List.setIfInBounds_toArray, List.set_cons_zero, List.set_cons_succ]
                  refine wpAnyH_take (i := 6) (v := ?_) at6 (by kernel_rfl) (by kernel_rfl) (by kernel_rfl) (fun _ _ _ h => h) (Or.inl ⟨by rfl, ?_⟩) (by assumption) ?_
                  rotate_left
                  · intro ww hSw
                    try dsimp only at hSw
                    go_simp
                    try with_reducible rfl
                  simp only [Act.put, List.setIfInBounds_toArray, List.set_cons_zero, List.set_cons_succ]
                  refine wpAnyH_take (i := 7) (v := ?_) at7 (by kernel_rfl) (by kernel_rfl) (by kernel_rfl) (fun _ _ _ h => h) (Or.inl ⟨by rfl, ?_⟩) (by assumption) ?_
                  rotate_left
                  · intro ww hSw
                    try dsimp only at hSw
                    go_simp
                    try with_reducible rfl
                  simp only [Act.put, List.setIfInBounds_toArray, List.set_cons_zero, List.set_cons_succ]
                  refine wpAnyH_take (i := 8) (v := ?_) at8 (by kernel_rfl) (by kernel_rfl) (by kernel_rfl) (fun _ _ _ h => h) (Or.inl ⟨by rfl, ?_⟩) (by assumption) ?_
                  rotate_left
                  · intro ww hSw
                    try dsimp only at hSw
                    go_simp
                    try with_reducible rfl
                  simp only [Act.put, List.setIfInBounds_toArray, List.set_cons_zero, List.set_cons_succ]
                  refine wpAnyH_take (i := 9) (v := ?_) at9 (by kernel_rfl) (by kernel_rfl) (by kernel_rfl) (fun _ _ _ h => h) (Or.inl ⟨by rfl, ?_⟩) (by assumption) ?_
                  rotate_left
                  · intro ww hSw
                    try dsimp only at hSw
                    go_simp
                    try with_reducible rfl
                  simp only [Act.put, List.setIfInBounds_toArray, List.set_cons_zero, List.set_cons_succ]
                  refine wpAnyH_take (i := 10) (v := ?_) at10 (by kernel_rfl) (by kernel_rfl) (by kernel_rfl) (fun _ _ _ h => h) (Or.inl ⟨by rfl, ?_⟩) (by assumption) ?_
                  rotate_left
                  · intro ww hSw
                    try dsimp only at hSw
                    go_simp
                    try with_reducible rfl
                  simp only [Act.put, List.setIfInBounds_toArray, List.set_cons_zero, List.set_cons_succ]
                  refine wpAnyH_take (i := 11) (v := ?_) at11 (by kernel_rfl) (by kernel_rfl) (by kernel_rfl) (fun _ _ _ h => h) (Or.inl ⟨by rfl, ?_⟩) (by assumption) ?_
                  rotate_left
                  · intro ww hSw
                    try dsimp only at hSw
                    go_simp
                    try with_reducible rfl
                  simp only [Act.put, List.setIfInBounds_toArray, List.set_cons_zero, List.set_cons_succ]
                  refine wpAnyH_take (i := 12) (v := ?_) at12 (by kernel_rfl) (by kernel_rfl) (by kernel_rfl) (fun _ _ _ h => h) (Or.inl ⟨by rfl, ?_⟩) (by assumption) ?_
                  rotate_left
                  · intro ww hSw
                    try dsimp only at hSw
                    go_simp
                    try with_reducible rfl
                  simp only [Act.put, List.setIfInBounds_toArray, List.set_cons_zero, List.set_cons_succ]
                  refine wpAnyH_take (i := 13) (v := ?_) at13 (by kernel_rfl) (by kernel_rfl) (by kernel_rfl) (fun _ _ _ h => h) (Or.inl ⟨by rfl, ?_⟩) (by assumption) ?_
                  rotate_left
                  · intro ww hSw
                    try dsimp only at hSw
                    go_simp
                    try with_reducible rfl
                  simp only [Act.put, List.setIfInBounds_toArray, List.set_cons_zero, List.set_cons_succ]
                  refine wpAnyH_take (i := 14) (v := ?_) at14 (by kernel_rfl) (by kernel_rfl) (by kernel_rfl) (fun _ _ _ h => h) (Or.inl ⟨by rfl, ?_⟩) (by assumption) ?_
                  rotate_left
                  · intro ww hSw
                    try dsimp only at hSw
                    go_simp
                    try with_reducible rfl
                  simp only [Act.put, List.setIfInBounds_toArray, List.set_cons_zero, List.set_cons_succ]
                  refine wpAnyH_take (i := 15) (v := ?_) at15 (by kernel_rfl) (by kernel_rfl) (by kernel_rfl) (fun _ _ _ h => h) (Or.inl ⟨by rfl, ?_⟩) (by assumption) ?_
                  rotate_left
                  · intro ww hSw
                    try dsimp only at hSw
                    go_simp
                    try with_reducible rfl
                  simp only [Act.put, List.setIfInBounds_toArray, List.set_cons_zero, List.set_cons_succ]
                  refine wpAnyH_take (i := 16) (v := ?_) at16 (by kernel_rfl) (by kernel_rfl) (by kernel_rfl) (fun _ _ _ h => h) (Or.inl ⟨by rfl, ?_⟩) (by assumption) ?_
                  rotate_left
                  · intro ww hSw
                    try dsimp only at hSw
                    go_simp
                    try with_reducible rfl
                  simp only [Act.put, List.setIfInBounds_toArray, List.set_cons_zero, List.set_cons_succ]
                  refine wpAnyH_take (i := 18) (v := ?_) at18 (by kernel_rfl) (by kernel_rfl) (by kernel_rfl) (fun _ _ _ h => h) (Or.inl ⟨by rfl, ?_⟩) (by assumption) ?_
                  rotate_left
                  · intro ww hSw
                    try dsimp only at hSw
                    go_simp
                    try with_reducible rfl
                  simp only [Act.put, List.setIfInBounds_toArray, List.set_cons_zero, List.set_cons_succ]
                  refine wpAnyH_ready (rs := [17, 19]) (by kernel_rfl) (by simp) ?_
                  refine AllReadyH.cons at17 (fun K' hK => ?_) ?_
                  · skip
                    go_simp
                    refine hK.out _ _ ?_ (fun hHeld => ?_)
                    · (first | assumption | go_keep)
                    clear hK K'
                    try simp only [Act.put, List.setIfInBounds_toArray, List.set_cons_zero, List.set_cons_succ]
                    refine wpAnyH_ready (rs := [19]) (by kernel_rfl) (by simp) ?_
                    refine AllReadyH.cons at19 (fun K' hK => ?_) AllReadyH.nil
                    go_simp
                    refine hK.out _ _ ?_ (fun hHeld => ?_)
                    · (first | assumption | go_keep)
                    clear hK K'
                    try simp only [Act.put, List.setIfInBounds_toArray, List.set_cons_zero, List.set_cons_succ]
                    refine wpAnyH_ready (rs := [20]) (by kernel_rfl) (by simp) ?_
                    refine AllReadyH.cons at20 (fun K' hK => ?_) AllReadyH.nil
                    refine step_append_room (by rfl) _ _ _ (by rfl) 70 j0 3 Try.underlying68 hj0 hk1 y.g 0 y.n y.c (by rfl) ⟨wc.heap.size, 0, none⟩ 1 1 [.int .i32 f, .int .i32 e.t, .int .u32 e.k] (by rfl) (by rfl)
                      (World.news_of_block (cs := #[.int .i32 f, .int .i32 e.t, .int .u32 e.k]) (t := 70) (fr := (0, 0)) (heap_alloc_new wc _)) (by simp [Value.oneCell']) (by omega) (HSP.out _ _ rfl) ?_
                    generalize hw1 : World.setCells _ y.g (0 + y.n * 3) _ = w1
                    obtain ⟨q1, q0, q2, q3, q4⟩ := HPUT.out _ _ hw1
                    have HM2 : Hid (Mid2 (.slice (some ⟨ge, 0, none⟩) parts.length ce) parts s nR gr gl gs k q W ow0 (w1.setCell ⟨g, init.length, none⟩ (.slice (some ⟨y.g, 0, none⟩) (y.n + 1) y.c))) := q4
                    clear hw1 q4
                    refine hK.out _ _ ?_ (fun hHeld => ?_)
                    · exact q1
                    clear hK K'
                    try simp only [Act.put, List.setIfInBounds_toArray, List.set_cons_zero, List.set_cons_succ]
                    refine wpAnyH_take (i := 21) (v := ?_) at21 (by kernel_rfl) (by kernel_rfl) (by kernel_rfl) (fun _ _ _ h => h) (Or.inl ⟨by rfl, ?_⟩) (by assumption) ?_
                    rotate_left
                    · intro ww hSw
                      try dsimp only at hSw
                      go_simp
                      try with_reducible rfl
                    simp only [Act.put, List.setIfInBounds_toArray, List.set_cons_zero, List.set_cons_succ]
                    refine wpAnyH_ready (rs := [22]) (by kernel_rfl) (by simp) ?_
                    refine AllReadyH.cons at22 (fun K' hK => ?_) AllReadyH.nil
                    go_simp
                    refine hK.out _ _ ?_ (fun hHeld => ?_)
                    · exact q0
                    clear hK K'
                    refine wpAnyH_done (by kernel_rfl) ?_ _
                    go_wp2
                    go_meet
                    exact HM2
                  · skip
                    refine AllReadyH.cons at19 (fun K' hK => ?_) AllReadyH.nil
                    go_simp
                    refine hK.out _ _ ?_ (fun hHeld => ?_)
                    · (first | assumption | go_keep)
                    clear hK K'
                    try simp only [Act.put, List.setIfInBounds_toArray, List.set_cons_zero, List.set_cons_succ]
                    refine wpAnyH_ready (rs := [17]) (by kernel_rfl) (by simp) ?_
                    refine AllReadyH.cons at17 (fun K' hK => ?_) AllReadyH.nil
                    go_simp
                    refine hK.out _ _ ?_ (fun hHeld => ?_)
                    · (first | assumption | go_keep)
                    clear hK K'
                    try simp only [Act.put, List.setIfInBounds_toArray, List.set_cons_zero, List.set_cons_succ]
                    refine wpAnyH_ready (rs := [20]) (by kernel_rfl) (by simp) ?_
                    refine AllReadyH.cons at20 (fun K' hK => ?_) AllReadyH.nil
                    refine step_append_room (by rfl) _ _ _ (by rfl) 70 j0 3 Try.underlying68 hj0 hk1 y.g 0 y.n y.c (by rfl) ⟨wc.heap.size, 0, none⟩ 1 1 [.int .i32 f, .int .i32 e.t, .int .u32 e.k] (by rfl) (by rfl)
                      (World.news_of_block (cs := #[.int .i32 f, .int .i32 e.t, .int .u32 e.k]) (t := 70) (fr := (0, 0)) (heap_alloc_new wc _)) (by simp [Value.oneCell']) (by omega) (HSP.out _ _ rfl) ?_
                    generalize hw1 : World.setCells _ y.g (0 + y.n * 3) _ = w1
                    obtain ⟨q1, q0, q2, q3, q4⟩ := HPUT.out _ _ hw1
                    have HM2 : Hid (Mid2 (.slice (some ⟨ge, 0, none⟩) parts.length ce) parts s nR gr gl gs k q W ow0 (w1.setCell ⟨g, init.length, none⟩ (.slice (some ⟨y.g, 0, none⟩) (y.n + 1) y.c))) := q4
                    clear hw1 q4
                    refine hK.out _ _ ?_ (fun hHeld => ?_)
                    · exact q1
                    clear hK K'
                    try simp only [Act.put, List.setIfInBounds_toArray, List.set_cons_zero, List.set_cons_succ]
                    refine wpAnyH_take (i := 21) (v := ?_) at21 (by kernel_rfl) (by kernel_rfl) (by kernel_rfl) (fun _ _ _ h => h) (Or.inl ⟨by rfl, ?_⟩) (by assumption) ?_
                    rotate_left
                    · intro ww hSw
                      try dsimp only at hSw
                      go_simp
                      try with_reducible rfl
                    simp only [Act.put, List.setIfInBounds_toArray, List.set_cons_zero, List.set_cons_succ]
                    refine wpAnyH_ready (rs := [22]) (by kernel_rfl) (by simp) ?_
                    refine AllReadyH.cons at22 (fun K' hK => ?_) AllReadyH.nil
                    go_simp
                    refine hK.out _ _ ?_ (fun hHeld => ?_)
                    · exact q0
                    clear hK K'
                    refine wpAnyH_done (by kernel_rfl) ?_ _
                    go_wp2
                    go_meet
                    exact HM2
                case rest =>
                  clear HPUT HSP c0 c0a c1 c1a e0 e1 e2 ea0 ea1 ea2 hj0 hk0 hk1 hk2 hroom hroom'
                  obtain ⟨lv, hlv⟩ : ∃ lv, lv = (ofR (gots parts) s r).length - (ofR (upto parts k q) s r).length := ⟨_, rfl⟩
                  have hlv1 : 1 ≤ lv := by
                    obtain ⟨tl, ht⟩ := upto_split HX.out HF.out.1
                    have := left_pos (s := s) ht
                    rw [HF.out.2.2] at this; omega
                  have hlv2 : lv ≤ 65536 := by
                    have h1 : (ofR (gots parts) s r).length ≤ (gots parts).length := List.length_filter_le _ _
                    have := HE.out; omega
                  obtain ⟨ow2, rv2, R2, sp2, p2, pst2⟩ := hcut.out
                  have cl : wc.cell? ⟨gl, r, none⟩ = some (.int .i64 lv) := by
                    rw [p2.left.2.cell r, ints_at (leftD_at _ _ _ _ _ hrn), hlv]
                  have fl : wc.frozen? ⟨gl, r, none⟩ = false := p2.left.2.free r
                  have HN2 : Hid (In1 (.slice (some ⟨ge, 0, none⟩) parts.length ce) parts s nR gr gl gs k (q + 1) W ow0 (wc.setCell ⟨gl, r, none⟩ (.int .i64 ((lv : Int) - 1)))) := by
                    obtain ⟨d1, d2⟩ := p2.dec r (lv - 1)
                    have ei : ((lv - 1 : Nat) : Int) = (lv : Int) - 1 := by omega
                    rw [ei] at d1 d2
                    have e5 : leftD (gots parts) (upto parts k (q + 1)) s nR = (leftD (gots parts) (upto parts k q) s nR).set r (lv - 1) := by
                      rw [upto_more HX.out HF.out.1, hlv, leftD_set _ _ _ _ _ _ hrn HF.out.2.2]
                    refine ⟨ow2, rv2, R2, sp2, ?_, pst2.trans d2⟩
                    rw [e5]; exact d1
                  clear p2 pst2 hcut hlv
                  go_wp2
                  go_roundw
                  case rel => exact ⟨q + 1, by omega, by go_num, HN2⟩
                  case measure => simp only [intOf]; omega
          · have hqe : q = x.n := by omega
            have HS : Hid (In1 (.slice (some ⟨ge, 0, none⟩) parts.length ce) parts s nR gr gl gs k x.n W ow0 wr) := by
              have h1 := hi2.out
              rw [hqe] at h1; exact h1
            clear hqe
            go_wp2
            go_meet
            case rel => exact HS
      case rest =>
        clear hi hl2
        obtain ⟨ow, rv, R, sp, h1, h2⟩ := hcut.out
        have e0 := (HG.out.step h2 (by simp [Q1]) (by simp [Q1])).c0
        have e3 := (HG.out.step h2 (by simp [Q1]) (by simp [Q1])).c3
        obtain ⟨hs1, hs2, hs3⟩ := h1.strike HX.out rfl
        obtain ⟨sv, hsv⟩ := hs1.spare
        have HGV : Hid (Calls Try.prog 38 #[.pointer (some ⟨gs, 0, none⟩), .slice (some ⟨x.g, 0, none⟩) x.n x.c] (wc.setCell ⟨ge, k, none⟩ (.slice none 0 0)) (GV (wc.setCell ⟨ge, k, none⟩ (.slice none 0 0)) ow gs sp (20, 0, k))) :=
          give_any gs sv sp x (20, 0, k) _ ow hsv hs3 (by simp [Sq]) (by have := h1.spk; omega)
        have HEN : Hid (∀ (w' : World), GV (wc.setCell ⟨ge, k, none⟩ (.slice none 0 0)) ow gs sp (20, 0, k) (.returned (.tuple #[])) w' → In1 (.slice (some ⟨ge, 0, none⟩) parts.length ce) parts s nR gr gl gs (k + 1) 0 W ow0 w') := by
          rintro w' ⟨ow', sv', sp', _, g1, g2, g3⟩
          obtain ⟨q1, q2⟩ := hs1.give h1.spk g1 g2 g3
          refine ⟨ow', rv, R, sp', ?_, (h2.trans hs2).trans q2⟩
          rw [← upto_next HX.out, HL.out.1]; exact q1
        obtain ⟨cs, a1, a2, a3⟩ := h1.erow ge ce rfl
        have c1 := (a1.2.cell k).trans (a3 k x (Nat.le_refl _) HX.out)
        have f1 := a1.2.free k
        clear hs1 hs2 hs3 hsv h1 h2 a1 a2 a3 hcut
        go_wp2_with fail
        refine HGV.out.mono ?_
        intro ee w' hgv
        have hee : ee = .returned (.tuple #[]) := by obtain ⟨_, _, _, h, _⟩ := hgv; exact h
        subst hee
        have HN2 : Hid (In1 (.slice (some ⟨ge, 0, none⟩) parts.length ce) parts s nR gr gl gs (k + 1) 0 W ow0 w') := HEN.out w' hgv
        clear hgv HGV HEN
        go_wp2
        go_roundw
        case rel => exact ⟨k + 1, by omega, by go_num, HN2⟩
        case measure => simp only [intOf]; omega
    · have hke : k = parts.length := by omega
      have HS : Hid (In1 (.slice ps parts.length ce) parts s nR gr gl gs parts.length 0 W ow0 wr) := by
        have h1 := hi.out
        rw [hke] at h1; exact h1
      clear hke
      go_wp2
      exact HS
end Go.Proofs.Qxb6601127a.Base

