import Derived.Test.Qxb6601234aMost
namespace Go.Proofs.Qxb6601234a.Base
open Go.ChangeShapes Go.WideShapes Go.ChangeAt Go.RowKit

theorem cnt_append (a b : List (List Int)) (z : List Int) : cnt (a ++ b) z = cnt a z + cnt b z := by unfold cnt; exact List.count_append
theorem cnt_none {cs : List (List Int)} {z : List Int} (h : z ∉ cs) : cnt cs z = 0 := by unfold cnt; exact List.count_eq_zero_of_not_mem h
/-- the first place of z -/
theorem first_at : ∀ (cs : List (List Int)) (z : List Int), z ∈ cs → ∃ f, cs[f]? = some z ∧ z ∉ cs.take f
  | [], z, h => by cases h
  | c :: cs, z, h => by
    by_cases e : c = z
    · exact ⟨0, by simp [e], by simp⟩
    · obtain ⟨f, h1, h2⟩ := first_at cs z ((List.mem_cons.1 h).resolve_left fun h' => e h'.symm)
      exact ⟨f + 1, by simpa using h1, by simp; exact ⟨fun e' => e e'.symm, h2⟩⟩
theorem sfx_first {cs : List (List Int)} {z : List Int} {f : Nat} (h1 : cs[f]? = some z) (h2 : z ∉ cs.take f) : sfx cs f = cnt cs z := by
  unfold sfx
  rw [List.getD_eq_getElem?_getD, h1]
  have h := cnt_append (cs.take f) (cs.drop f) z
  rw [List.take_append_drop, cnt_none h2] at h
  simp only [Option.getD_some]; omega
theorem sfx_tot {cs : List (List Int)} {z : List Int} {j : Nat} (h : cs[j]? = some z) : sfx cs j ≤ cnt cs z := by
  unfold sfx
  rw [List.getD_eq_getElem?_getD, h]
  have h := cnt_append (cs.take j) (cs.drop j) z
  rw [List.take_append_drop] at h
  simp only [Option.getD_some]; omega
theorem first_le {cs : List (List Int)} {z : List Int} {j : Nat} (h : cs[j]? = some z) : ∃ f, f ≤ j ∧ f < cs.length ∧ cs[f]? = some z ∧ sfx cs f = cnt cs z := by
  obtain ⟨f, h1, h2⟩ := first_at cs z (List.mem_of_getElem? h)
  refine ⟨f, ?_, (List.getElem?_eq_some_iff.1 h1).1, h1, sfx_first h1 h2⟩
  rcases Nat.lt_or_ge j f with hlt | hge
  · exact absurd (List.mem_of_getElem? (by rw [List.getElem?_take, if_pos hlt]; exact h)) h2
  · exact hge
/-- THE WINNER: at i, the first place whose content stands most often: m times -/
structure Win (rs : List BS) (m : Nat) (i : Nat) (s : BS) : Prop where
  at_i : rs[i]? = some s
  num : m = cnt (conts rs) s.zs
  most : ∀ (j : Nat) z, (conts rs)[j]? = some z → cnt (conts rs) z ≤ m
  first : ∀ (j : Nat) z, j < i → (conts rs)[j]? = some z → cnt (conts rs) z < m
theorem conts_get {rs : List BS} {i : Nat} {s : BS} (h : rs[i]? = some s) : (conts rs)[i]? = some s.zs := by simp [conts, h]
theorem win_of_best {rs : List BS} {m : Nat} {v : Value} (h0 : 0 < rs.length) (h : Best rs rs.length m v) : ∃ i s, Win rs m i s ∧ v = s.val := by
  rcases h with ⟨h, _⟩ | ⟨i, s, h1, h2, h3, h4, h5, h6⟩
  · omega
  refine ⟨i, s, ?_, h3⟩
  have hcl := conts_len rs
  have most : ∀ (j : Nat) z, (conts rs)[j]? = some z → cnt (conts rs) z ≤ m := by
    intro j z hj
    obtain ⟨f, f1, f2, f3, f4⟩ := first_le hj
    have := h5 f (by omega)
    omega
  have hi := conts_get h2
  refine ⟨h2, ?_, most, fun j z hj hz => ?_⟩
  · have a := sfx_tot hi
    have b := most i s.zs hi
    omega
  · obtain ⟨f, f1, f2, f3, f4⟩ := first_le hz
    have := h6 f (by omega)
    omega
theorem Win.pos {rs : List BS} {m i : Nat} {s : BS} (h : Win rs m i s) : 1 ≤ m := by
  rw [h.num]; unfold cnt
  exact List.count_pos_iff.2 (List.mem_of_getElem? (conts_get h.at_i))
theorem Win.le {rs : List BS} {m i : Nat} {s : BS} (h : Win rs m i s) : m ≤ rs.length := by
  rw [h.num]; have := cnt_le (conts rs) s.zs; rw [conts_len] at this; exact this
theorem conts_snoc (rs : List BS) (s : BS) : conts (rs ++ [s]) = conts rs ++ [s.zs] := by simp [conts]
/-! ### one more vote -/
theorem one_more {rs : List BS} {m i m2 i2 : Nat} {s s' s2 : BS} (h : Win rs m i s) (hz : s'.zs = s.zs) (h2 : Win (rs ++ [s']) m2 i2 s2) : m2 = m + 1 ∧ s2 = s := by
  have hil : i < rs.length := (List.getElem?_eq_some_iff.1 h.at_i).1
  have hc2 : ∀ z, cnt (conts (rs ++ [s'])) z = cnt (conts rs) z + if z = s.zs then 1 else 0 := by
    intro z
    rw [conts_snoc, cnt_append, hz]
    congr 1
    unfold cnt
    by_cases e : z = s.zs
    · simp [e]
    · rw [if_neg e]; exact List.count_eq_zero_of_not_mem (by simpa using e)
  have hsm : cnt (conts (rs ++ [s'])) s.zs = m + 1 := by rw [hc2, if_pos rfl, ← h.num]
  have hai : (rs ++ [s'])[i]? = some s := by rw [List.getElem?_append_left hil]; exact h.at_i
  have h2i := conts_get h2.at_i
  have ge : m + 1 ≤ m2 := by have := h2.most i s.zs (conts_get hai); omega
  -- every content stands at most m times among rs
  have hle : ∀ z, cnt (conts rs) z ≤ m := by
    intro z
    by_cases hm : z ∈ conts rs
    · obtain ⟨j, hj, e⟩ := List.getElem_of_mem hm
      exact h.most j z (by rw [List.getElem?_eq_getElem hj, e])
    · rw [cnt_none hm]; omega
  have hs2 : s2.zs = s.zs := by
    have a := h2.num
    rw [hc2] at a
    by_cases e : s2.zs = s.zs
    · exact e
    · rw [if_neg e] at a; have := hle s2.zs; omega
  have hm2 : m2 = m + 1 := by rw [h2.num, hs2, hsm]
  refine ⟨hm2, ?_⟩
  have hi2 : i2 ≤ i := by
    rcases Nat.lt_or_ge i i2 with hlt | hge
    · have := h2.first i s.zs hlt (conts_get hai); omega
    · exact hge
  have hai2 : rs[i2]? = some s2 := by have := h2.at_i; rw [List.getElem?_append_left (by omega)] at this; exact this
  rcases Nat.lt_or_ge i2 i with hlt | hge
  · have := h.first i2 s2.zs hlt (conts_get hai2)
    rw [hs2, ← h.num] at this; omega
  · have e : i2 = i := by omega
    rw [e, h.at_i] at hai2
    cases hai2; rfl
/-! ### reversed -/
theorem conts_rev (rs : List BS) : conts rs.reverse = (conts rs).reverse := by simp [conts]
theorem reversed {rs : List BS} {m i m2 i2 : Nat} {s s2 : BS} (h : Win rs m i s) (h2 : Win rs.reverse m2 i2 s2) : m2 = m ∧ cnt (conts rs) s2.zs = m := by
  have hc : ∀ z, cnt (conts rs.reverse) z = cnt (conts rs) z := by intro z; rw [conts_rev]; unfold cnt; exact List.count_reverse
  have mem1 : s.zs ∈ conts rs.reverse := by rw [conts_rev]; exact List.mem_reverse.2 (List.mem_of_getElem? (conts_get h.at_i))
  have mem2 : s2.zs ∈ conts rs := by have := List.mem_of_getElem? (conts_get h2.at_i); rw [conts_rev] at this; exact List.mem_reverse.1 this
  obtain ⟨j1, hj1, e1⟩ := List.getElem_of_mem mem1
  obtain ⟨j2, hj2, e2⟩ := List.getElem_of_mem mem2
  have a := h2.most j1 s.zs (by rw [List.getElem?_eq_getElem hj1, e1])
  have b := h.most j2 s2.zs (by rw [List.getElem?_eq_getElem hj2, e2])
  rw [hc, ← h.num] at a
  have c := h2.num
  rw [hc] at c
  omega
end Go.Proofs.Qxb6601234a.Base
