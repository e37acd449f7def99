/-
  gather (34), its plain parts: the counting.
-/
import Derived.Test.Qxb6601127aFirst
import Derived.Test.Qxb6601127aOrder
namespace Go.Proofs.Qxb6601127a.Cnt
/-- how many edges of D have tail v - 1; from n on; below it how many have a tail below v -/
def psum (D : List Ed) (N n : Nat) : List Nat := (List.range (N + 1)).map fun v => if v ≤ n then cum D v else (at' D (v - 1)).length
theorem psum_len (D : List Ed) (N n : Nat) : (psum D N n).length = N + 1 := by simp [psum]
theorem psum_at (D : List Ed) (N n v : Nat) (hv : v ≤ N) : (psum D N n)[v]? = some (if v ≤ n then cum D v else (at' D (v - 1)).length) := by
  unfold psum; rw [List.getElem?_map, List.getElem?_range (by omega)]; rfl
theorem psum_start (N : Nat) : psum [] N 0 = List.replicate (N + 1) 0 := by
  apply List.ext_getElem?
  intro v
  by_cases hv : v ≤ N
  · have e : (List.replicate (N + 1) 0)[v]? = some 0 := by rw [List.getElem?_replicate, if_pos (by omega)]
    rw [psum_at _ _ _ _ hv, e]
    simp [cum, at']
  · rw [List.getElem?_eq_none (by rw [psum_len]; omega), List.getElem?_eq_none (by simp; omega)]
theorem psum_more (D : List Ed) (e : Ed) (N f : Nat) (hf : e.f = (f : Int)) (hN : f < N) (h0 : ∀ e ∈ D, 0 ≤ e.f) : psum (D ++ [e]) N 0 = (psum D N 0).set (f + 1) ((at' D f).length + 1) := by
  have h0' : ∀ x ∈ D ++ [e], 0 ≤ x.f := by intro x hx; rw [List.mem_append, List.mem_singleton] at hx; rcases hx with hx | rfl; exact h0 x hx; omega
  apply List.ext_getElem?
  intro v
  by_cases hv : v ≤ N
  · rw [psum_at _ _ _ _ hv]
    by_cases hvf : v = f + 1
    · subst hvf
      rw [List.getElem?_set_self (by rw [psum_len]; omega), if_neg (by omega), at_snoc, if_pos (by simpa using hf)]
      simp
    · rw [List.getElem?_set_ne (by omega), psum_at _ _ _ _ hv]
      by_cases hv0 : v ≤ 0
      · obtain rfl : v = 0 := by omega
        rw [if_pos (Nat.le_refl _), if_pos (Nat.le_refl _), cum_zero _ h0, cum_zero _ h0']
      · rw [if_neg hv0, if_neg hv0, at_snoc, if_neg (by rw [hf]; omega)]
  · rw [List.getElem?_eq_none (by rw [psum_len]; omega), List.getElem?_eq_none (by rw [List.length_set, psum_len]; omega)]
theorem psum_next (D : List Ed) (N n : Nat) (hn : n < N) : psum D N (n + 1) = (psum D N n).set (n + 1) ((at' D n).length + cum D n) := by
  apply List.ext_getElem?
  intro v
  by_cases hv : v ≤ N
  · rw [psum_at _ _ _ _ hv]
    by_cases hvf : v = n + 1
    · subst hvf
      rw [List.getElem?_set_self (by rw [psum_len]; omega), if_pos (Nat.le_refl _), cum_succ, Nat.add_comm]
    · rw [List.getElem?_set_ne (by omega), psum_at _ _ _ _ hv]
      by_cases h : v ≤ n
      · rw [if_pos h, if_pos (by omega)]
      · rw [if_neg h, if_neg (by omega)]
  · rw [List.getElem?_eq_none (by rw [psum_len]; omega), List.getElem?_eq_none (by rw [List.length_set, psum_len]; omega)]
end Go.Proofs.Qxb6601127a.Cnt
namespace Go.Proofs.Qxb6601127a.Base
open Go.ChangeShapes Go.WideShapes Go.ChangeAt Go.RowKit
open Cnt (Ed)
/-- the edges of the first k parts, and i of the next -/
def gots (cks : List Ck) : List Ed := cks.flatMap Ck.got
def upto (parts : List Ck) (k i : Nat) : List Ed := gots (parts.take k) ++ ((parts[k]?.map Ck.got).getD []).take i
theorem upto_zero (parts : List Ck) : upto parts 0 0 = [] := by simp [upto, gots]
theorem upto_more {parts : List Ck} {k i : Nat} {x : Ck} {e : Ed} (hx : parts[k]? = some x) (he : x.got[i]? = some e) : upto parts k (i + 1) = upto parts k i ++ [e] := by
  unfold upto; rw [hx]; simp only [Option.map_some, Option.getD_some]; rw [List.take_add_one, he, List.append_assoc]; rfl
theorem upto_next {parts : List Ck} {k : Nat} {x : Ck} (hx : parts[k]? = some x) : upto parts k x.got.length = upto parts (k + 1) 0 := by
  unfold upto gots; rw [hx, List.take_add_one, hx]; simp
theorem upto_all (parts : List Ck) : upto parts parts.length 0 = gots parts := by unfold upto; simp
theorem upto_pre (parts : List Ck) (k i : Nat) : ∃ tl, gots parts = upto parts k i ++ tl := by
  unfold upto
  rcases Nat.lt_or_ge k parts.length with h | h
  · refine ⟨(parts[k].got).drop i ++ gots (parts.drop (k + 1)), ?_⟩
    rw [List.getElem?_eq_getElem h]
    simp only [Option.map_some, Option.getD_some]
    rw [List.append_assoc, ← List.append_assoc (List.take i _), List.take_append_drop]
    unfold gots
    rw [← List.flatMap_cons, ← List.flatMap_append, List.getElem_cons_drop, List.take_append_drop]
  · refine ⟨[], ?_⟩
    rw [List.getElem?_eq_none h, List.take_of_length_le h]; simp
theorem upto_mem {parts : List Ck} {k i : Nat} {e : Ed} (h : e ∈ upto parts k i) : e ∈ gots parts := by
  obtain ⟨tl, ht⟩ := upto_pre parts k i
  rw [ht]; simp [h]
theorem got_mem {parts : List Ck} {k i : Nat} {x : Ck} {e : Ed} (hx : parts[k]? = some x) (he : x.got[i]? = some e) : e ∈ gots parts := by
  unfold gots; rw [List.mem_flatMap]; exact ⟨x, List.mem_of_getElem? hx, List.mem_of_getElem? he⟩
/-- make([]int, n) -/
theorem make3 (n : Nat) (hn : n ≤ 1000000) (w : World) : (Instr.makeSlice 22 (.int .i64 (n : Int)) (.int .i64 (n : Int))).run Try.prog w = .ok (.slice (some ⟨w.heap.size, 0, none⟩) n n) (w.alloc (.cells (ints (List.replicate n 0)) 3)) := by
  obtain ⟨i, hi, hz0, hz1, hz2⟩ := info_parts info3
  have h := run_make (P := Try.prog) w 22 3 i (.int .i64 0) Try.underlying22 hi hz0 .i64 .i64 n n (by omega) (by omega) (by rw [hz2]; omega) (by omega)
  rw [h, hz1]
  simp only [Int.toNat_natCast, Nat.mul_one]
  rw [← zeros_ints]
  have e : (madeCells (Value.int .i64 0).cells n) = (List.replicate n (Value.int .i64 0)).toArray := by
    have := made_zero n (.int .i64 0)
    rw [← this]; rfl
  rw [e]
/-- make([]chunks, n) -/
theorem make64 (n : Nat) (hn : n ≤ 1000000) (w : World) : (Instr.makeSlice 83 (.int .i64 (n : Int)) (.int .i64 (n : Int))).run Try.prog w = .ok (.slice (some ⟨w.heap.size, 0, none⟩) n n) (w.alloc (.cells (List.replicate n (.slice none 0 0)).toArray 64)) := by
  obtain ⟨i, hi, hz0, hz1, hz2⟩ := info_parts info64
  have h := run_make (P := Try.prog) w 83 64 i (.slice none 0 0) Try.underlying83 hi hz0 .i64 .i64 n n (by omega) (by omega) (by rw [hz2]; omega) (by omega)
  rw [h, hz1]
  simp only [Int.toNat_natCast, Nat.mul_one]
  have e : (madeCells (Value.slice none 0 0).cells n) = (List.replicate n (Value.slice none 0 0)).toArray := by
    have := made_zero n (.slice none 0 0)
    rw [← this]; rfl
  rw [e]
/-- the graph, and gather's own variable g -/
structure Gr (w : World) (ow : Ow) (gb bg N : Nat) (edges start : Value) (r5 : Array Value) : Prop where
  box : At w ow (1, 0, 0) gb 61 #[.pointer (some ⟨bg, 0, none⟩)]
  gr : At w ow (2, 0, 0) bg 67 #[r5[0]!, .int .i64 N, r5[1]!, edges, start, r5[2]!, r5[3]!, r5[4]!]
theorem Gr.step {Q : Pos → Prop} {w w' : World} {ow ow' : Ow} {gb bg N : Nat} {edges start : Value} {r5 : Array Value} (h : Gr w ow gb bg N edges start r5) (k : Step Q w ow w' ow') (h1 : ¬ Q (1, 0, 0)) (h2 : ¬ Q (2, 0, 0)) : Gr w' ow' gb bg N edges start r5 := ⟨h.box.step k h1, h.gr.step k h2⟩
theorem Gr.c0 {w : World} {ow : Ow} {gb bg N : Nat} {edges start : Value} {r5 : Array Value} (h : Gr w ow gb bg N edges start r5) : w.cell? ⟨gb, 0, none⟩ = some (.pointer (some ⟨bg, 0, none⟩)) := h.box.2.cell 0
theorem Gr.c1 {w : World} {ow : Ow} {gb bg N : Nat} {edges start : Value} {r5 : Array Value} (h : Gr w ow gb bg N edges start r5) : w.cell? ⟨bg, 1, none⟩ = some (.int .i64 N) := h.gr.2.cell 1
theorem Gr.c3 {w : World} {ow : Ow} {gb bg N : Nat} {edges start : Value} {r5 : Array Value} (h : Gr w ow gb bg N edges start r5) : w.cell? ⟨bg, 3, none⟩ = some edges := h.gr.2.cell 3
theorem Gr.c4 {w : World} {ow : Ow} {gb bg N : Nat} {edges start : Value} {r5 : Array Value} (h : Gr w ow gb bg N edges start r5) : w.cell? ⟨bg, 4, none⟩ = some start := h.gr.2.cell 4
end Go.Proofs.Qxb6601127a.Base
