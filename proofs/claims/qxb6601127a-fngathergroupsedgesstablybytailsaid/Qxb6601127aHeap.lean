import Derived.Test.Qxb6601127aMerge
import Derived.Test.Qxb6601127aPas
import Derived.Deep.RegionHeld3
import Derived.Laws.BitsAllLaws
namespace Go.Proofs.Qxb6601127a.Base
open Go.ChangeShapes Go.WideShapes Go.ChangeAt Go.RowKit
open Cnt (Ed)

/-- an edge's three cells -/
def ecell (e : Ed) : List Value := [.int .i32 e.f, .int .i32 e.t, .int .u32 e.k]
def ecells (es : List Ed) : Array Value := (es.flatMap ecell).toArray
theorem ecells_size (es : List Ed) : (ecells es).size = 3 * es.length := by
  unfold ecells
  induction es with
  | nil => rfl
  | cons e es ih => simp only [List.flatMap_cons, List.size_toArray, List.length_append, List.length_cons] at *; simp only [ecell, List.length_cons, List.length_nil]; omega
theorem ecells_at (es : List Ed) (i : Nat) (e : Ed) (h : es[i]? = some e) : (ecells es)[i * 3]? = some (.int .i32 e.f) ∧ (ecells es)[i * 3 + 1]? = some (.int .i32 e.t) ∧ (ecells es)[i * 3 + 2]? = some (.int .u32 e.k) := by
  unfold ecells
  simp only [List.getElem?_toArray]
  induction es generalizing i with
  | nil => simp at h
  | cons x es ih =>
    cases i with
    | zero => simp at h; subst h; simp [ecell]
    | succ i =>
      have := ih i (by simpa using h)
      simp only [List.flatMap_cons]
      rw [show (i + 1) * 3 = i * 3 + 3 from by omega]
      refine ⟨?_, ?_, ?_⟩
      · rw [List.getElem?_append_right (by simp [ecell])]; simpa [ecell] using this.1
      · rw [List.getElem?_append_right (by simp [ecell])]; simpa [ecell] using this.2.1
      · rw [List.getElem?_append_right (by simp [ecell])]; simpa [ecell] using this.2.2
theorem ecells_set (es : List Ed) (i : Nat) (e : Ed) : (((ecells es).setIfInBounds (i * 3) (.int .i32 e.f)).setIfInBounds (i * 3 + 1) (.int .i32 e.t)).setIfInBounds (i * 3 + 2) (.int .u32 e.k) = ecells (es.set i e) := by
  unfold ecells
  simp only [List.setIfInBounds_toArray]
  congr 1
  induction es generalizing i with
  | nil => simp
  | cons x es ih =>
    cases i with
    | zero => simp [ecell]
    | succ i =>
      simp only [List.flatMap_cons, List.set_cons_succ]
      rw [show (i + 1) * 3 = i * 3 + 3 from by omega]
      rw [List.set_append_right _ _ (by simp [ecell]), List.set_append_right _ _ (by simp [ecell]), List.set_append_right _ _ (by simp [ecell])]
      congr 1
      have := ih i
      simpa [ecell] using this
/-- the world with edge e at place i of block g -/
def setE (w : World) (g i : Nat) (e : Ed) : World := ((w.setCell ⟨g, i * 3, none⟩ (.int .i32 e.f)).setCell ⟨g, i * 3 + 1, none⟩ (.int .i32 e.t)).setCell ⟨g, i * 3 + 2, none⟩ (.int .u32 e.k)
theorem Has.setE {w : World} {g : Nat} {es : List Ed} (h : Has w g 70 (ecells es)) (i : Nat) (e : Ed) : Has (Base.setE w g i e) g 70 (ecells (es.set i e)) := by
  unfold Base.setE
  rw [← ecells_set]
  exact ((h.set _ _).set _ _).set _ _
theorem Has.setE_other {w : World} {b t g : Nat} {cs : Array Value} (h : Has w b t cs) (hg : b ≠ g) (i : Nat) (e : Ed) : Has (Base.setE w g i e) b t cs :=
  ((h.other hg _ _).other hg _ _).other hg _ _

/-! ### What may have turned: the blocks in S alone -/
structure Fr (S : Nat → Prop) (w w' : World) : Prop where
  os : w'.os = w.os
  tape : w'.tape = w.tape
  output : w'.output = w.output
  size : w.heap.size ≤ w'.heap.size
  block : ∀ b, b < w.heap.size → ¬ S b → w'.heap[b]? = w.heap[b]?
theorem Fr.refl (S : Nat → Prop) (w : World) : Fr S w w := ⟨rfl, rfl, rfl, Nat.le_refl _, fun _ _ _ => rfl⟩
theorem Fr.trans {S : Nat → Prop} {a b c : World} (h : Fr S a b) (k : Fr S b c) : Fr S a c :=
  ⟨k.os.trans h.os, k.tape.trans h.tape, k.output.trans h.output, Nat.le_trans h.size k.size, fun i hi hn => (k.block i (Nat.lt_of_lt_of_le hi h.size) hn).trans (h.block i hi hn)⟩
theorem Fr.mono {S S' : Nat → Prop} {a b : World} (h : Fr S a b) (hs : ∀ x, x < a.heap.size → S x → S' x) : Fr S' a b :=
  ⟨h.os, h.tape, h.output, h.size, fun i hi hn => h.block i hi (fun hx => hn (hs i hi hx))⟩
theorem Fr.of_below {S : Nat → Prop} {a b : World} (h : Below a.heap.size a b) : Fr S a b := ⟨h.os, h.tape, h.output, h.size, fun i hi _ => h.block i hi⟩
theorem Fr.below {S : Nat → Prop} {B : Nat} {a b : World} (h : Fr S a b) (hB : B ≤ a.heap.size) (hs : ∀ x, x < a.heap.size → S x → B ≤ x) : Below B a b :=
  ⟨h.os, h.tape, h.output, h.size, fun i hi => h.block i (by omega) (fun hx => by have := hs i (by omega) hx; omega)⟩
theorem Fr.grown {a b : World} {g : Option Nat} (h : a.grownBy b g) : Fr (fun x => g = some x) a b :=
  ⟨h.os, h.tape, h.output, h.size, fun i hi hn => h.block i hi (fun e => hn e.symm)⟩
theorem Fr.setCell (w : World) (p : Addr) (v : Value) : Fr (fun x => x = p.block) w (w.setCell p v) :=
  ⟨rfl, rfl, rfl, by simp [World.setCell], fun i _ hn => heap_setCell_other w p i v hn⟩
theorem Fr.alloc {S : Nat → Prop} {a w : World} (h : Fr S a w) (o : Obj) : Fr S a (w.alloc o) := h.trans (Fr.of_below ((Below.refl _ _).alloc (Nat.le_refl _) _))
theorem Fr.drewN {S : Nat → Prop} {a w : World} (h : Fr S a w) (n : Nat) : Fr S a (w.drewN n) := h.trans (Fr.of_below (below_drewN n))
theorem Fr.setE (w : World) (g i : Nat) (e : Ed) : Fr (fun x => x = g) w (Base.setE w g i e) :=
  ((Fr.setCell w ⟨g, i * 3, none⟩ _).trans (Fr.setCell _ ⟨g, i * 3 + 1, none⟩ _)).trans (Fr.setCell _ ⟨g, i * 3 + 2, none⟩ _)
theorem Has.fr {S : Nat → Prop} {w w' : World} {b t : Nat} {cs : Array Value} (h : Has w b t cs) (hf : Fr S w w') (hb : ¬ S b) : Has w' b t cs := (hf.block b h.lt hb).trans h

theorem ofInt_i64 (a : Nat) (ha : a ≤ 1048576) : (BitVec.ofInt 64 (a : Int)).toNat = a := by
  rw [BitVec.ofInt_natCast, BitVec.toNat_ofNat]; exact Nat.mod_eq_of_lt (by omega)
theorem and511 (a : Nat) (ha : a ≤ 1048576) : bits BinOp.and IntKind.i64 (a : Int) 511 = ((a % 512 : Nat) : Int) := by
  have h2 : (BitVec.ofInt 64 (511 : Int)).toNat = 511 := by decide
  show IntKind.i64.wrap ((BitVec.ofInt 64 (a : Int) &&& BitVec.ofInt 64 511).toNat : Int) = _
  rw [BitVec.toNat_and, ofInt_i64 a ha, h2, show a &&& 511 = a % 512 from Nat.and_two_pow_sub_one_eq_mod a 9]
  have h3 : a % 512 < 512 := Nat.mod_lt _ (by decide)
  have h4 : wrap64 ((a % 512 : Nat) : Int) = ((a % 512 : Nat) : Int) := IntWalk.wrap64_in _ ⟨by omega, by omega⟩
  generalize ((a % 512 : Nat) : Int) = z at *
  have h5 : IntKind.i64.wrap z = wrap64 z := by
    simp [IntKind.wrap, IntKind.bits, IntKind.signed, wrap64]
    split <;> omega
  rw [h5, h4]
/-! ### chunks.set (39) -/
theorem set_walk (gr m cm gj nj cj : Nat) (p : Nat) (e : Ed) (w : World) (hj : p / 512 < m) (hin : p % 512 < nj) (hpb : p ≤ 1048576) (hgr : gr < w.heap.size) (hgj : gj < w.heap.size)
    (h1 : w.cell? ⟨gr, p / 512, none⟩ = some (.slice (some ⟨gj, 0, none⟩) nj cj)) (c0 c1 c2 : Value)
    (k0 : w.cell? ⟨gj, p % 512 * 3, none⟩ = some c0) (k1 : w.cell? ⟨gj, p % 512 * 3 + 1, none⟩ = some c1) (k2 : w.cell? ⟨gj, p % 512 * 3 + 2, none⟩ = some c2)
    (f0 : w.frozen? ⟨gj, p % 512 * 3, none⟩ = false) (f1 : w.frozen? ⟨gj, p % 512 * 3 + 1, none⟩ = false) (f2 : w.frozen? ⟨gj, p % 512 * 3 + 2, none⟩ = false) :
    Calls Try.prog 39 #[.slice (some ⟨gr, 0, none⟩) m cm, .int .i64 p, .agg #[.int .i32 e.f, .int .i32 e.t, .int .u32 e.k]] w fun x w' => x = .returned (.tuple #[]) ∧ w' = ((Base.setE w gj (p % 512) e).alloc (.cells #[.int .i32 e.f, .int .i32 e.t, .int .u32 e.k] 70)).drew := by
  have q1 : (p : Int) / 512 < (m : Int) := by omega
  have q2 : (p : Int) % 512 < (nj : Int) := by omega
  have q3 : ∀ o, (w.alloc o).cell? ⟨gr, p / 512, none⟩ = some (.slice (some ⟨gj, 0, none⟩) nj cj) := fun o => (World.cell?_alloc_lt _ _ _ hgr).trans h1
  have q4 := and511 p hpb
  go_enter Try.func39, Try.ntmps39
  go_wp2
  go_region
  all_goals go_wp2
  all_goals go_end0
  all_goals exact ⟨rfl, rfl⟩
/-- in a world's words: edge e at place p % 512 of the chunk in which place p lies -/
theorem set_any (gr m cm gj nj cj : Nat) (p : Nat) (e : Ed) (es : List Ed) (w : World) (hj : p / 512 < m) (hin : p % 512 < nj) (hnj : nj ≤ es.length) (hpb : p ≤ 1048576) (hgr : gr < w.heap.size)
    (h1 : w.cell? ⟨gr, p / 512, none⟩ = some (.slice (some ⟨gj, 0, none⟩) nj cj)) (hb : Has w gj 70 (ecells es)) :
    Calls Try.prog 39 #[.slice (some ⟨gr, 0, none⟩) m cm, .int .i64 p, .agg #[.int .i32 e.f, .int .i32 e.t, .int .u32 e.k]] w fun x w' => x = .returned (.tuple #[]) ∧ Has w' gj 70 (ecells (es.set (p % 512) e)) ∧ Fr (fun x => x = gj) w w' := by
  have hx : es[p % 512]? = some es[p % 512] := List.getElem?_eq_getElem (by omega)
  obtain ⟨a0, a1, a2⟩ := ecells_at es (p % 512) _ hx
  refine (set_walk gr m cm gj nj cj p e w hj hin hpb hgr hb.lt h1 _ _ _ ((hb.cell _).trans a0) ((hb.cell _).trans a1) ((hb.cell _).trans a2) (hb.free _) (hb.free _) (hb.free _)).mono fun x w' ⟨hx, hw⟩ => ?_
  subst hw
  exact ⟨hx, ((hb.setE (p % 512) e).alloc _).drewN 1, ((Fr.setE w gj (p % 512) e).alloc _).drewN 1⟩
end Go.Proofs.Qxb6601127a.Base
