/-
  The ranges of nodes, plainly.
-/
import Derived.Test.Qxb6601127aGa
namespace Go.Proofs.Qxb6601127a.Cnt
open Base (fst')
theorem cum_clip {E : List Ed} {N : Nat} (h : ∀ e ∈ E, e.f < (N : Int)) (v : Nat) : cum E (min v N) = cum E v := by
  rcases Nat.lt_or_ge v N with hv | hv
  · rw [Nat.min_eq_left (by omega)]
  · rw [Nat.min_eq_right hv, cum_all E N h, cum_all E v (fun e he => by have := h e he; omega)]
/-- nR ranges of 2^s nodes -/
structure Rngs (N s nR : Nat) : Prop where
  eq : ((N : Int) - 1) / 2 ^ s = (nR : Int) - 1
  le : nR ≤ 1024
  lt : ∀ v, v < N → v / 2 ^ s < nR
  end' : N ≤ nR * 2 ^ s
theorem rngs {N s : Nat} (h : ((N : Int) - 1) / 2 ^ s < 1024) : ∃ nR, Rngs N s nR := by
  have hp : 0 < 2 ^ s := Nat.pow_pos (by omega)
  have e2 : (2 : Int) ^ s = ((2 ^ s : Nat) : Int) := by rw [Int.natCast_pow]; rfl
  cases N with
  | zero =>
    refine ⟨0, ?_, by omega, fun v hv => absurd hv (by omega), by omega⟩
    rw [e2]
    generalize 2 ^ s = p at *
    have h1 : (-1 : Int) / (p : Int) = -1 := by
      rw [Int.ediv_eq_iff_of_pos (by omega)]
      constructor <;> omega
    simpa using h1
  | succ n =>
    have e1 : ((n + 1 : Nat) : Int) - 1 = (n : Int) := by omega
    rw [e1, e2, ← Int.natCast_ediv] at h
    refine ⟨n / 2 ^ s + 1, ?_, by omega, fun v hv => ?_, ?_⟩
    · rw [e1, e2, ← Int.natCast_ediv]; omega
    · have : v / 2 ^ s ≤ n / 2 ^ s := Nat.div_le_div_right (by omega)
      omega
    · have h1 := Nat.lt_div_mul_add hp (a := n)
      rw [Nat.add_mul, Nat.one_mul]; omega
theorem fst_cum {E : List Ed} {N s r : Nat} (h : ∀ e ∈ E, e.f < (N : Int)) : cum E (fst' s N r) = cum E (r * 2 ^ s) := cum_clip h _
theorem fst_le (s N r : Nat) : fst' s N r ≤ N := Nat.min_le_right _ _
theorem rng_len {E : List Ed} {N s r : Nat} (h0 : ∀ e ∈ E, 0 ≤ e.f ∧ e.f < (N : Int)) : cum E (fst' s N (r + 1)) = cum E (fst' s N r) + (ofR E s r).length := by
  rw [fst_cum (fun e he => (h0 e he).2), fst_cum (fun e he => (h0 e he).2)]
  have h1 := cum_range (E := E) (s := s) (r := r) (fun e he => (h0 e he).1)
  have h2 : cum E (r * 2 ^ s) ≤ cum E ((r + 1) * 2 ^ s) := cum_mono E (Nat.mul_le_mul_right _ (by omega))
  omega
/-- what is left of each range: reckoned for the first k -/
def lefts (E : List Ed) (s nR k : Nat) : List Nat := (List.range nR).map fun r => if r < k then (ofR E s r).length else 0
theorem lefts_zero (E : List Ed) (s nR : Nat) : lefts E s nR 0 = List.replicate nR 0 := by
  unfold lefts
  apply List.ext_getElem?
  intro v
  rw [List.getElem?_map]
  by_cases hv : v < nR
  · rw [List.getElem?_range hv, List.getElem?_replicate, if_pos hv]; rfl
  · rw [List.getElem?_eq_none (by simp; omega), List.getElem?_eq_none (by simp; omega)]; rfl
theorem lefts_at (E : List Ed) (s nR k r : Nat) (h : r < nR) : (lefts E s nR k)[r]? = some (if r < k then (ofR E s r).length else 0) := by
  unfold lefts; rw [List.getElem?_map, List.getElem?_range h]; rfl
theorem lefts_set (E : List Ed) (s nR k : Nat) (h : k < nR) : (lefts E s nR k).set k (ofR E s k).length = lefts E s nR (k + 1) := by
  apply List.ext_getElem?
  intro v
  by_cases hv : v < nR
  · rw [lefts_at _ _ _ _ _ hv]
    by_cases e : v = k
    · subst e; rw [List.getElem?_set_self (by simp [lefts]; exact h), if_pos (by omega)]
    · rw [List.getElem?_set_ne (by omega), lefts_at _ _ _ _ _ hv]
      by_cases h1 : v < k
      · rw [if_pos h1, if_pos (by omega)]
      · rw [if_neg h1, if_neg (by omega)]
  · rw [List.getElem?_eq_none (by simp [lefts]; omega), List.getElem?_eq_none (by simp [lefts]; omega)]
end Go.Proofs.Qxb6601127a.Cnt
