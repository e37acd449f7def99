/-
  THE TWO PASSES OF gather, plainly: no Go in sight.
-/
import Derived.Test.Qxb6601127aCnt
namespace Go.Proofs.Qxb6601127a.Cnt

/-- the range of e's tail, 2^s tails to a range -/
def rg (s : Nat) (e : Ed) : Nat := e.f.toNat / 2 ^ s
def inR (s r : Nat) (e : Ed) : Bool := decide (rg s e = r)
/-- the edges of range r -/
def ofR (E : List Ed) (s r : Nat) : List Ed := E.filter (inR s r)
/-- the edges by range -/
def byR (E : List Ed) (s n : Nat) : List Ed := (List.range n).flatMap fun r : Nat => ofR E s r
theorem at_append (A B : List Ed) (v : Nat) : at' (A ++ B) v = at' A v ++ at' B v := by unfold at'; exact List.filter_append ..
theorem at_ofR (E : List Ed) (s r v : Nat) : at' (ofR E s r) v = if v / 2 ^ s = r then at' E v else [] := by
  unfold at' ofR
  rw [List.filter_filter]
  split
  · rename_i h
    apply List.filter_congr
    intro e _
    by_cases he : e.f = (v : Int)
    · have : inR s r e = true := by unfold inR rg; rw [he]; simpa using h
      rw [this]; simp
    · simp [he]
  · rename_i h
    rw [List.filter_eq_nil_iff]
    intro e _
    by_cases he : e.f = (v : Int)
    · have : inR s r e = false := by unfold inR rg; rw [he]; simpa using h
      rw [this]; simp
    · simp [he]
theorem at_byR (E : List Ed) (s n v : Nat) : at' (byR E s n) v = if v / 2 ^ s < n then at' E v else [] := by
  induction n with
  | zero => simp [byR, at']
  | succ n ih =>
    unfold byR at *
    rw [List.range_succ, List.flatMap_append, at_append, ih]
    simp only [List.flatMap_cons, List.flatMap_nil, List.append_nil, at_ofR]
    by_cases h1 : v / 2 ^ s < n
    · rw [if_pos h1, if_neg (by omega), if_pos (by omega), List.append_nil]
    · by_cases h2 : v / 2 ^ s = n
      · rw [if_neg h1, if_pos h2, if_pos (by omega), List.nil_append]
      · rw [if_neg h1, if_neg h2, if_neg (by omega), List.append_nil]
theorem ofR_snoc (E : List Ed) (e : Ed) (s r : Nat) : ofR (E ++ [e]) s r = if rg s e = r then ofR E s r ++ [e] else ofR E s r := by
  unfold ofR
  rw [List.filter_append]
  split
  · rename_i h
    have : inR s r e = true := by unfold inR; simpa using h
    simp [this]
  · rename_i h
    have : inR s r e = false := by unfold inR; simpa using h
    simp [this]
theorem ofR_len_le (A B : List Ed) (s r : Nat) : (ofR A s r).length ≤ (ofR (A ++ B) s r).length := by unfold ofR; rw [List.filter_append, List.length_append]; omega
theorem at_snoc (S : List Ed) (e : Ed) (v : Nat) : at' (S ++ [e]) v = if e.f = (v : Int) then at' S v ++ [e] else at' S v := by
  rw [at_append]
  split
  · rename_i h; simp [at', h]
  · rename_i h; simp [at', h]
/-- S has come so far: of each tail, a first part of E's -/
def Pre (E S : List Ed) (N : Nat) : Prop := ∀ v, v < N → ∃ tl, at' E v = at' S v ++ tl
theorem pre_byR {E S S' : List Ed} {s n N : Nat} (h : byR E s n = S ++ S') (hn : ∀ v, v < N → v / 2 ^ s < n) : Pre E S N := by
  intro v hv
  refine ⟨at' S' v, ?_⟩
  have := at_byR E s n v
  rw [if_pos (hn v hv), h, at_append] at this
  exact this.symm
/-- the places laid so far -/
def Pl (E : List Ed) (N : Nat) (S PL : List Ed) : Prop := ∀ v, v < N → ∀ (j : Nat) x, (at' S v)[j]? = some x → PL[cum E v + j]? = some x
theorem pl_start (E : List Ed) (N : Nat) (PL : List Ed) : Pl E N [] PL := by intro v _ j x h; simp [at'] at h
theorem pl_more {E S PL : List Ed} {N : Nat} (h : Pl E N S PL) (X : List Ed) : Pl E N S (PL ++ X) := by
  intro v hv j x hx
  have := h v hv j x hx
  obtain ⟨hl, _⟩ := List.getElem?_eq_some_iff.1 this
  rw [List.getElem?_append_left hl]; exact this
theorem at_bound {E S : List Ed} {N v : Nat} (hp : Pre E S N) (hv : v < N) : cum E v + (at' S v).length ≤ cum E (v + 1) := by
  obtain ⟨tl, h⟩ := hp v hv
  rw [cum_succ, h, List.length_append]; omega
theorem place_lt {E S : List Ed} {e : Ed} {N v : Nat} (hp : Pre E (S ++ [e]) N) (hv : v < N) (he : e.f = (v : Int)) : cum E v + (at' S v).length < cum E (v + 1) := by
  have := at_bound hp hv
  rw [at_snoc, if_pos he, List.length_append] at this
  simp at this; omega
theorem pl_step {E S PL : List Ed} {e : Ed} {N v : Nat} (hp : Pre E (S ++ [e]) N) (hv : v < N) (he : e.f = (v : Int)) (h : Pl E N S PL) (hl : cum E v + (at' S v).length < PL.length) : Pl E N (S ++ [e]) (PL.set (cum E v + (at' S v).length) e) := by
  have hlt := place_lt hp hv he
  intro v' hv' j x hx
  rw [at_snoc] at hx
  by_cases hvv : v' = v
  · subst hvv
    rw [if_pos he] at hx
    by_cases hj : j < (at' S v').length
    · rw [List.getElem?_append_left hj] at hx
      rw [List.getElem?_set_ne (by omega)]
      exact h v' hv' j x hx
    · rw [List.getElem?_append_right (by omega)] at hx
      have hj0 : j - (at' S v').length = 0 := by
        rcases Nat.eq_zero_or_pos (j - (at' S v').length) with h0 | h0
        · exact h0
        · rw [List.getElem?_eq_none (by simp; omega)] at hx; cases hx
      rw [hj0] at hx
      simp at hx
      subst hx
      rw [show cum E v' + j = cum E v' + (at' S v').length from by omega, List.getElem?_set_self hl]
  · rw [if_neg (by rw [he]; omega)] at hx
    have hj : j < (at' S v').length := (List.getElem?_eq_some_iff.1 hx).1
    have hb : cum E v' + (at' S v').length ≤ cum E (v' + 1) := by
      have hb := at_bound hp hv'
      rw [at_snoc, if_neg (by rw [he]; omega)] at hb
      exact hb
    have hne : cum E v + (at' S v).length ≠ cum E v' + j := by
      rcases Nat.lt_or_gt_of_ne hvv with hlt' | hgt'
      · have := cum_mono E (show v' + 1 ≤ v by omega); omega
      · have := cum_mono E (show v + 1 ≤ v' by omega); omega
    rw [List.getElem?_set_ne hne]
    exact h v' hv' j x hx
theorem pl_end {E PL : List Ed} {s n N : Nat} (h0 : ∀ e ∈ E, 0 ≤ e.f) (h : Pl E N (byR E s n) PL) (hn : ∀ v, v < N → v / 2 ^ s < n) (hl : PL.length = cum E N) : PL = sortE E N := by
  refine sort_ext h0 hl fun v j hv hj => ?_
  have e := at_byR E s n v
  rw [if_pos (hn v hv)] at e
  rw [List.getElem?_eq_getElem hj]
  exact h v hv j _ (by rw [e]; exact List.getElem?_eq_getElem hj)
/-- the tails of the first so many ranges -/
theorem cum_range {E : List Ed} {s r : Nat} (h0 : ∀ e ∈ E, 0 ≤ e.f) : cum E ((r + 1) * 2 ^ s) - cum E (r * 2 ^ s) = (ofR E s r).length := by
  have hpos : 0 < 2 ^ s := Nat.pow_pos (by omega)
  have key : ∀ e : Ed, 0 ≤ e.f → (decide (e.f < (((r + 1) * 2 ^ s : Nat) : Int)) = (decide (e.f < ((r * 2 ^ s : Nat) : Int)) || inR s r e)) ∧ (decide (e.f < ((r * 2 ^ s : Nat) : Int)) && inR s r e) = false := by
    intro e he
    obtain ⟨m, hm⟩ := Int.eq_ofNat_of_zero_le he
    have hd : m / 2 ^ s = r ↔ r * 2 ^ s ≤ m ∧ m < (r + 1) * 2 ^ s := by
      rw [Nat.div_eq_iff hpos]
      constructor
      · rintro ⟨a, b⟩; rw [Nat.add_mul]; omega
      · rintro ⟨a, b⟩; rw [Nat.add_mul] at b; omega
    have hr : inR s r e = decide (r * 2 ^ s ≤ m ∧ m < (r + 1) * 2 ^ s) := by unfold inR rg; rw [hm]; simp only [Int.toNat_natCast]; exact decide_eq_decide.2 hd
    have hle : r * 2 ^ s ≤ (r + 1) * 2 ^ s := Nat.mul_le_mul_right _ (by omega)
    rw [hr, hm]
    generalize r * 2 ^ s = a at *
    generalize (r + 1) * 2 ^ s = b at *
    constructor
    · rw [Bool.eq_iff_iff]; simp only [decide_eq_true_eq, Bool.or_eq_true]; omega
    · rw [← Bool.not_eq_true]; simp only [decide_eq_true_eq, Bool.and_eq_true]; omega
  have add : cum E ((r + 1) * 2 ^ s) = cum E (r * 2 ^ s) + (ofR E s r).length := by
    unfold cum ofR
    induction E with
    | nil => rfl
    | cons e E ih =>
      have ih := ih (fun x hx => h0 x (by simp [hx]))
      obtain ⟨k1, k2⟩ := key e (h0 e (by simp))
      simp only [List.filter_cons]
      rw [k1]
      cases ha : decide (e.f < ((r * 2 ^ s : Nat) : Int)) <;> cases hb : inR s r e
      · simp only [Bool.or_false, Bool.false_eq_true, if_false]; exact ih
      · simp only [Bool.or_true, Bool.false_eq_true, if_false, if_true, List.length_cons]; omega
      · simp only [Bool.or_false, Bool.false_eq_true, if_false, if_true, List.length_cons]; omega
      · rw [ha, hb] at k2; cases k2
  omega
end Go.Proofs.Qxb6601127a.Cnt
