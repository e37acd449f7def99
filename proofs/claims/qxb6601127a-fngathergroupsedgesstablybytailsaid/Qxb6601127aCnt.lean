/-
  THE PLAIN LAW OF THE COUNTING SORT: no Go in sight.
-/
import Derived.Test.Qxb6601127aSrt
namespace Go.Proofs.Qxb6601127a.Cnt

/-- an edge -/
structure Ed where
  f : Int
  t : Int
  k : Int
/-- the edges of tail v -/
def at' (E : List Ed) (v : Nat) : List Ed := E.filter fun e => decide (e.f = (v : Int))
/-- how many edges have a tail below v -/
def cum (E : List Ed) (v : Nat) : Nat := (E.filter fun e => decide (e.f < (v : Int))).length
/-- by tail, each tail's in their order -/
def sortE (E : List Ed) (N : Nat) : List Ed := (List.range N).flatMap fun v : Nat => at' E v
theorem cum_zero (E : List Ed) (h : ∀ e ∈ E, 0 ≤ e.f) : cum E 0 = 0 := by
  unfold cum
  rw [List.length_eq_zero_iff, List.filter_eq_nil_iff]
  intro e he
  have := h e he
  simp; omega
theorem cum_succ (E : List Ed) (v : Nat) : cum E (v + 1) = cum E v + (at' E v).length := by
  unfold cum at'
  induction E with
  | nil => rfl
  | cons e E ih =>
    simp only [List.filter_cons]
    by_cases h1 : e.f < (v : Int)
    · have d1 : decide (e.f < (v : Int)) = true := by simp [h1]
      have d2 : decide (e.f < ((v + 1 : Nat) : Int)) = true := by simp; omega
      have d3 : decide (e.f = (v : Int)) = false := by simp; omega
      rw [d1, d2, d3]
      simp only [if_true, List.length_cons, Bool.false_eq_true, if_false, ih]; omega
    · have d1 : decide (e.f < (v : Int)) = false := by simp; omega
      by_cases h3 : e.f = (v : Int)
      · have d2 : decide (e.f < ((v + 1 : Nat) : Int)) = true := by simp; omega
        have d3 : decide (e.f = (v : Int)) = true := by simp [h3]
        rw [d1, d2, d3]
        simp only [if_true, List.length_cons, Bool.false_eq_true, if_false, ih]; omega
      · have d2 : decide (e.f < ((v + 1 : Nat) : Int)) = false := by simp; omega
        have d3 : decide (e.f = (v : Int)) = false := by simp; omega
        rw [d1, d2, d3]
        simp only [Bool.false_eq_true, if_false, ih]
theorem cum_mono (E : List Ed) {a b : Nat} (h : a ≤ b) : cum E a ≤ cum E b := by
  induction h with
  | refl => exact Nat.le_refl _
  | step _ ih => rw [cum_succ]; omega
theorem cum_all (E : List Ed) (N : Nat) (h : ∀ e ∈ E, e.f < (N : Int)) : cum E N = E.length := by
  unfold cum
  rw [List.filter_eq_self.2 (fun e he => by simpa using h e he)]
theorem cum_le (E : List Ed) (v : Nat) : cum E v ≤ E.length := List.length_filter_le _ _
theorem sort_len (E : List Ed) (N : Nat) (h0 : ∀ e ∈ E, 0 ≤ e.f) : (sortE E N).length = cum E N := by
  induction N with
  | zero => rw [cum_zero E h0]; rfl
  | succ N ih =>
    unfold sortE at *
    rw [List.range_succ, List.flatMap_append, List.length_append, ih, cum_succ]
    simp
theorem sort_at (E : List Ed) (N v j : Nat) (h0 : ∀ e ∈ E, 0 ≤ e.f) (hv : v < N) (hj : j < (at' E v).length) : (sortE E N)[cum E v + j]? = (at' E v)[j]? := by
  induction N with
  | zero => omega
  | succ N ih =>
    have hl := sort_len E N h0
    unfold sortE at *
    rw [List.range_succ, List.flatMap_append]
    by_cases e : v = N
    · subst e
      rw [List.getElem?_append_right (by rw [hl]; omega), hl, show cum E v + j - cum E v = j from by omega]
      simp
    · have h1 := cum_succ E v
      have h2 := cum_mono E (show v + 1 ≤ N by omega)
      rw [List.getElem?_append_left (by rw [hl]; omega)]
      exact ih (by omega)
/-- which tail's run holds place p -/
theorem find_v (E : List Ed) (h0 : ∀ e ∈ E, 0 ≤ e.f) : ∀ (N p : Nat), p < cum E N → ∃ v j, v < N ∧ j < (at' E v).length ∧ p = cum E v + j
  | 0, p, h => by rw [cum_zero E h0] at h; omega
  | N + 1, p, h => by
    by_cases h1 : p < cum E N
    · obtain ⟨v, j, a, b, c⟩ := find_v E h0 N p h1
      exact ⟨v, j, by omega, b, c⟩
    · rw [cum_succ] at h
      exact ⟨N, p - cum E N, by omega, by omega, by omega⟩
theorem at_f {E : List Ed} {v j : Nat} {e : Ed} (h : (at' E v)[j]? = some e) : e.f = (v : Int) := by
  have := List.mem_of_getElem? h
  unfold at' at this
  simpa using (List.mem_filter.1 this).2
theorem sort_ext {E : List Ed} {N : Nat} {P : List Ed} (h0 : ∀ e ∈ E, 0 ≤ e.f) (hl : P.length = cum E N) (h : ∀ v j, v < N → j < (at' E v).length → P[cum E v + j]? = (at' E v)[j]?) : P = sortE E N := by
  apply List.ext_getElem?
  intro p
  by_cases hp : p < cum E N
  · obtain ⟨v, j, a, b, rfl⟩ := find_v E h0 N p hp
    rw [h v j a b, sort_at E N v j h0 a b]
  · rw [List.getElem?_eq_none (by omega), List.getElem?_eq_none (by rw [sort_len E N h0]; omega)]
/-- where the tails below n end -/
theorem sort_lt {E : List Ed} {N n p : Nat} {e : Ed} (h0 : ∀ e ∈ E, 0 ≤ e.f) (h : (sortE E N)[p]? = some e) : e.f < (n : Int) ↔ p < cum E n := by
  obtain ⟨hp, _⟩ := List.getElem?_eq_some_iff.1 h
  rw [sort_len E N h0] at hp
  obtain ⟨v, j, a, b, rfl⟩ := find_v E h0 N p hp
  rw [sort_at E N v j h0 a b] at h
  have hf := at_f h
  have h1 := cum_succ E v
  constructor
  · intro hlt
    have := cum_mono E (show v + 1 ≤ n by omega)
    omega
  · intro hlt
    rcases Nat.lt_or_ge v n with h' | h'
    · omega
    · have := cum_mono E h'
      omega
/-! ### the merge sort's order gives the same -/
def places (E : List Ed) (N : Nat) : List Nat := (List.range N).flatMap fun v : Nat => (List.range E.length).filter fun i => decide ((E.map Ed.f).getD i 0 = (v : Int))
theorem filter_map_range (E : List Ed) (p : Int → Bool) : ((List.range E.length).filter fun i => p ((E.map Ed.f).getD i 0)).map (fun i => E[i]?) = (E.filter fun e => p e.f).map some := by
  induction E with
  | nil => rfl
  | cons e E ih =>
    rw [List.length_cons, List.range_succ_eq_map, List.filter_cons, List.filter_map, List.filter_cons]
    have hh : ((fun i => p ((List.map Ed.f (e :: E)).getD i 0)) ∘ Nat.succ) = fun i => p ((E.map Ed.f).getD i 0) := by
      funext i; simp
    rw [hh]
    have hm : List.map (fun i => (e :: E)[i]?) (List.map Nat.succ (List.filter (fun i => p ((List.map Ed.f E).getD i 0)) (List.range E.length))) = (E.filter fun e => p e.f).map some := by
      rw [List.map_map, ← ih]
      apply List.map_congr_left
      intro i _
      simp
    by_cases hp : p e.f = true
    · simp only [List.map_cons, List.getD_cons_zero, hp, if_true]
      rw [hm]; simp
    · simp only [List.map_cons, List.getD_cons_zero, hp, Bool.false_eq_true, if_false]
      exact hm
theorem places_map (E : List Ed) (N : Nat) : (places E N).map (fun i => E[i]?) = (sortE E N).map some := by
  unfold places sortE
  rw [List.map_flatMap, List.map_flatMap]
  congr 1
  funext v
  exact filter_map_range E (fun x => decide (x = (v : Int)))
theorem places_mem (E : List Ed) (N i : Nat) (h : ∀ e ∈ E, 0 ≤ e.f ∧ e.f < (N : Int)) : i ∈ places E N ↔ i < E.length := by
  unfold places
  simp only [List.mem_flatMap, List.mem_range, List.mem_filter, decide_eq_true_eq]
  constructor
  · rintro ⟨v, _, hi, _⟩; exact hi
  · intro hi
    have he := h E[i] (List.getElem_mem hi)
    have e : (E.map Ed.f).getD i 0 = E[i].f := by simp [List.getD_eq_getElem?_getD, List.getElem?_eq_getElem hi]
    exact ⟨E[i].f.toNat, by omega, hi, by rw [e]; omega⟩
theorem pw_mono {R S : Nat → Nat → Prop} : ∀ (l : List Nat), (∀ a ∈ l, ∀ b ∈ l, R a b → S a b) → l.Pairwise R → l.Pairwise S
  | [], _, _ => List.Pairwise.nil
  | x :: l, h, hp => by
    rw [List.pairwise_cons] at hp ⊢
    exact ⟨fun b hb => h x (by simp) b (by simp [hb]) (hp.1 b hb), pw_mono l (fun a ha b hb => h a (by simp [ha]) b (by simp [hb])) hp.2⟩
theorem places_pair (E : List Ed) (N : Nat) : (places E N).Pairwise (fun a b => Srt.lex (fun i => (E.map Ed.f).getD i 0) a b = true ∧ a ≠ b) := by
  unfold places
  rw [List.pairwise_flatMap]
  constructor
  · intro v _
    have h : (List.range E.length).Pairwise (· < ·) := List.pairwise_lt_range
    refine pw_mono _ ?_ (h.filter (fun i => decide ((E.map Ed.f).getD i 0 = (v : Int))))
    intro a ha b hb hlt
    have ha := (List.mem_filter.1 ha).2
    have hb := (List.mem_filter.1 hb).2
    simp only [decide_eq_true_eq] at ha hb
    refine ⟨?_, by omega⟩
    unfold Srt.lex
    simp only [decide_eq_true_eq]
    right; exact ⟨by rw [ha, hb], by omega⟩
  · have h : (List.range N).Pairwise (· < ·) := List.pairwise_lt_range
    refine pw_mono _ ?_ h
    intro v _ v' _ hv x hx y hy
    have hx := (List.mem_filter.1 hx).2
    have hy := (List.mem_filter.1 hy).2
    simp only [decide_eq_true_eq] at hx hy
    refine ⟨?_, fun e => by subst e; omega⟩
    unfold Srt.lex
    simp only [decide_eq_true_eq]
    left; omega
theorem places_run (E : List Ed) (N : Nat) (h : ∀ e ∈ E, 0 ≤ e.f ∧ e.f < (N : Int)) : Srt.Run (fun i => (E.map Ed.f).getD i 0) 0 E.length (places E N) := by
  have hp := places_pair E N
  refine ⟨?_, pw_mono _ (fun _ _ _ _ h => h.1) hp⟩
  rw [Nat.sub_zero, ← List.range_eq_range']
  refine (List.perm_ext_iff_of_nodup (pw_mono _ (fun _ _ _ _ h => h.2) hp) List.nodup_range).2 fun i => ?_
  rw [places_mem E N i h, List.mem_range]
/-- WHAT THE MERGE SORT GIVES IS WHAT THE COUNTING SORT GIVES -/
theorem order_sort {E : List Ed} {N : Nat} {L : List Nat} (h : ∀ e ∈ E, 0 ≤ e.f ∧ e.f < (N : Int)) (hL : Srt.Run (fun i => (E.map Ed.f).getD i 0) 0 E.length L) : L.map (fun i => E[i]?) = (sortE E N).map some := by
  rw [Srt.run_unique hL (places_run E N h)]
  exact places_map E N
end Go.Proofs.Qxb6601127a.Cnt
