/-
  gather (34): what stands between its loops.
-/
import Derived.Test.Qxb6601127aRng
import Derived.Deep.RegionHeld3
import Derived.Deep.DeepCutAuto
import Derived.Deep.CutBlock
import Derived.Laws.Cover3
namespace Go.Proofs.Qxb6601127a.Base
open Go.ChangeShapes Go.WideShapes Go.ChangeAt Go.RowKit
open Cnt (Ed psum cum at' ofR lefts Rngs)
/-- what gather is handed -/
structure Entry (w : World) (ow : Ow) (bg N : Nat) (edges : Value) (r5 : Array Value) (parts : List Ck) : Prop where
  gr : At w ow (2, 0, 0) bg 67 #[r5[0]!, .int .i64 N, r5[1]!, edges, .slice none 0 0, r5[2]!, r5[3]!, r5[4]!]
  row : Row w ow (10, 0, 0) (fun k => (20, 0, k)) edges parts
  full : ∀ x ∈ parts, x.n = x.c
  tails : ∀ e ∈ gots parts, 0 ≤ e.f ∧ e.f < (N : Int)
  hN : N ≤ 65536
  hE : (gots parts).length ≤ 65536
  hP : parts.length ≤ 65536
/-- the counting, from world W on -/
structure C1 (W : World) (ow : Ow) (gst : Nat) (L : List Nat) (wr : World) : Prop where
  st : Step (fun p => p = (3, 0, 0)) W ow wr ow
  row : At wr ow (3, 0, 0) gst 3 (ints L)
theorem C1.set {W wr : World} {ow : Ow} {gst : Nat} {L : List Nat} (h : C1 W ow gst L wr) (o : Obj) (j x : Nat) : C1 W ow gst (L.set j x) ((wr.setCell ⟨gst, j, none⟩ (.int .i64 (x : Int))).alloc o) := by
  have h1 := h.row.set j (.int .i64 (x : Int))
  rw [ints_set] at h1
  exact ⟨(h.st.trans (h.row.stepset j _)).alloc o, h1.1, h1.2.alloc o⟩
def QA (p : Pos) : Prop := p.1 ≠ 0
/-- ready for the ranges: the starts reckoned, the shift found -/
structure S3 (w0 : World) (ow0 : Ow) (bg N : Nat) (edges : Value) (r5 : Array Value) (parts : List Ck) (gb gst gsh s : Nat) (w : World) (ow : Ow) : Prop where
  st : Step QA w0 ow0 w ow
  gr : Gr w ow gb bg N edges (.slice none 0 0) r5
  row : Row w ow (10, 0, 0) (fun k => (20, 0, k)) edges parts
  start : At w ow (3, 0, 0) gst 3 (ints (psum (gots parts) N N))
  shift : At w ow (4, 0, 0) gsh 3 #[.int .i64 s]
theorem S3.set {w0 : World} {ow0 : Ow} {bg N : Nat} {edges : Value} {r5 : Array Value} {parts : List Ck} {gb gst gsh s : Nat} {w : World} {ow : Ow} (h : S3 w0 ow0 bg N edges r5 parts gb gst gsh s w ow) (q s' : Nat) :
    S3 w0 ow0 bg N edges r5 parts gb gst gsh s' ((w.drewN q).setCell ⟨gsh, 0, none⟩ (.int .i64 (s' : Int))) ow := by
  have sd : ∀ Q : Pos → Prop, Step Q w ow (w.drewN q) ow := fun Q => (Step.refl Q w ow).drewN q
  have h1 := h.shift.step (sd fun _ => False) (fun h => h)
  have st := (sd (fun p => p = (4, 0, 0))).trans (h1.stepset 0 (.int .i64 (s' : Int)))
  exact ⟨h.st.trans (st.mono fun p hp => by rw [hp]; simp [QA]), h.gr.step st (by simp) (by simp), h.row.step st (by simp) (by simp), h.start.step st (by simp), by simpa using h1.set 0 (.int .i64 (s' : Int))⟩
theorem shift_lt {N s : Nat} (hN : N ≤ 65536) (hs : s ≤ 6) (h : 1024 ≤ ((N : Int) - 1) / 2 ^ s) : s < 6 := by
  rcases Nat.lt_or_ge s 6 with h' | h'
  · exact h'
  · obtain rfl : s = 6 := by omega
    have e : (2 : Int) ^ 6 = 64 := by decide
    rw [e] at h; omega
theorem S3.drewN {w0 : World} {ow0 : Ow} {bg N : Nat} {edges : Value} {r5 : Array Value} {parts : List Ck} {gb gst gsh s : Nat} {w : World} {ow : Ow} (h : S3 w0 ow0 bg N edges r5 parts gb gst gsh s w ow) (q : Nat) :
    S3 w0 ow0 bg N edges r5 parts gb gst gsh s (w.drewN q) ow := by
  have st : Step (fun _ => False) w ow (w.drewN q) ow := (Step.refl _ w ow).drewN q
  exact ⟨h.st.drewN q, h.gr.step st (fun h => h) (fun h => h), h.row.step st (fun h => h) (fun _ _ h => h), h.start.step st (fun h => h), h.shift.step st (fun h => h)⟩
/-- the ranges made, what is left of them reckoned -/
structure S4 (w0 : World) (ow0 : Ow) (bg N : Nat) (edges : Value) (r5 : Array Value) (parts : List Ck) (gb gst gsh s gr gl nR : Nat) (L : List Nat) (w : World) (ow : Ow) : Prop where
  s3 : S3 w0 ow0 bg N edges r5 parts gb gst gsh s w ow
  ranges : At w ow (5, 0, 0) gr 64 (Array.replicate nR (Value.slice none 0 0))
  left : At w ow (6, 0, 0) gl 3 (ints L)
theorem S4.set {w0 : World} {ow0 : Ow} {bg N : Nat} {edges : Value} {r5 : Array Value} {parts : List Ck} {gb gst gsh s gr gl nR : Nat} {L : List Nat} {w : World} {ow : Ow} (h : S4 w0 ow0 bg N edges r5 parts gb gst gsh s gr gl nR L w ow) (q j x : Nat) :
    S4 w0 ow0 bg N edges r5 parts gb gst gsh s gr gl nR (L.set j x) ((w.drewN q).setCell ⟨gl, j, none⟩ (.int .i64 (x : Int))) ow := by
  have sd : ∀ Q : Pos → Prop, Step Q w ow (w.drewN q) ow := fun Q => (Step.refl Q w ow).drewN q
  have h1 := h.left.step (sd fun _ => False) (fun h => h)
  have st := (sd (fun p => p = (6, 0, 0))).trans (h1.stepset j (.int .i64 (x : Int)))
  have h3 := h.s3
  refine ⟨⟨h3.st.trans (st.mono fun p hp => by rw [hp]; simp [QA]), h3.gr.step st (by simp) (by simp), h3.row.step st (by simp) (by simp), h3.start.step st (by simp), h3.shift.step st (by simp)⟩, h.ranges.step st (by simp), ?_⟩
  rw [← ints_set]; exact h1.set j _
theorem S4.start {w0 : World} {ow0 : Ow} {bg N : Nat} {edges : Value} {r5 : Array Value} {parts : List Ck} {gb gst gsh s nR : Nat} {w : World} {ow : Ow} (h : S3 w0 ow0 bg N edges r5 parts gb gst gsh s w ow) :
    S4 w0 ow0 bg N edges r5 parts gb gst gsh s w.heap.size (w.heap.size + 1) nR (List.replicate nR 0) (((w.alloc (.cells (Array.replicate nR (.slice none 0 0)) 64)).alloc (.cells (ints (List.replicate nR 0)) 3)).drew) (upd (upd ow w.heap.size (5, 0, 0)) (w.heap.size + 1) (6, 0, 0)) := by
  have st : ∀ Q : Pos → Prop, Step Q w ow (((w.alloc (.cells (Array.replicate nR (.slice none 0 0)) 64)).alloc (.cells (ints (List.replicate nR 0)) 3)).drew) (upd (upd ow w.heap.size (5, 0, 0)) (w.heap.size + 1) (6, 0, 0)) := fun Q =>
    (((((Step.refl Q w ow).alloc _).alloc _).drewN 1).own (.inl (Nat.le_refl _)) _).own (.inl (by omega)) _
  have sf := st fun _ => False
  refine ⟨⟨h.st.trans (st QA), h.gr.step sf (fun h => h) (fun h => h), h.row.step sf (fun h => h) (fun _ _ h => h), h.start.step sf (fun h => h), h.shift.step sf (fun h => h)⟩, ⟨?_, ?_⟩, ⟨upd_self _ _ _, ?_⟩⟩
  · rw [upd_other _ _ (by omega), upd_self]
  · exact ((has_new w 64 (Array.replicate nR (Value.slice none 0 0))).alloc _).drewN 1
  · have h1 := (has_new (w.alloc (.cells (Array.replicate nR (.slice none 0 0)) 64)) 3 (ints (List.replicate nR 0))).drewN 1
    rw [show (w.alloc (.cells (Array.replicate nR (.slice none 0 0)) 64)).heap.size = w.heap.size + 1 from by simp] at h1
    exact h1
def firstI (s N : Nat) (z : Int) : Int := (fst' s N z.toNat : Int)
def FI (x : Int) (w : World) (e : Ending) (w' : World) : Prop := e = .returned (.int .i64 x) ∧ ∃ q, w' = w.drewN q
theorem firstI_any (s N gsh gb bg : Nat) (hs : s ≤ 10) (w : World) (z : Int) (h : 0 ≤ z ∧ z ≤ 1025 ∧ w.cell? ⟨gsh, 0, none⟩ = some (.int .i64 s) ∧ w.cell? ⟨gb, 0, none⟩ = some (.pointer (some ⟨bg, 0, none⟩)) ∧ w.cell? ⟨bg, 1, none⟩ = some (.int .i64 N)) :
    Calls Try.prog 36 #[.int .i64 z, .pointer (some ⟨gsh, 0, none⟩), .pointer (some ⟨gb, 0, none⟩)] w (FI (firstI s N z) w) := by
  obtain ⟨h1, h2, h3, h4, h5⟩ := h
  obtain ⟨r, rfl⟩ := Int.eq_ofNat_of_zero_le h1
  exact first_any r s N gsh gb bg w (by omega) hs h3 h4 h5
theorem cell_far (w : World) (b j b' j' : Nat) (v : Value) (h : b' ≠ b) : (w.setCell ⟨b, j, none⟩ v).cell? ⟨b', j', none⟩ = w.cell? ⟨b', j', none⟩ := World.cell?_of_block (heap_setCell_other w ⟨b, j, none⟩ b' v h)
theorem C1.setd {W wr : World} {ow : Ow} {gst : Nat} {L : List Nat} (h : C1 W ow gst L wr) (q j x : Nat) : C1 W ow gst (L.set j x) ((wr.setCell ⟨gst, j, none⟩ (.int .i64 (x : Int))).drewN q) := by
  have h1 := h.row.set j (.int .i64 (x : Int))
  rw [ints_set] at h1
  exact ⟨(h.st.trans (h.row.stepset j _)).drewN q, h1.1, h1.2.drewN q⟩
end Go.Proofs.Qxb6601127a.Base
