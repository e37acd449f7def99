/-
  THE PLAIN LAW OF THE MERGE SORT: no Go in sight.
-/
import Derived.Test.Qxb6601127aRows
namespace Go.Proofs.Qxb6601127a.Srt

/-- the program's test: the left one goes first unless the right one's key is less -/
def le (F : Nat → Int) (a b : Nat) : Bool := decide (F a ≤ F b)
/-- by key, then by place -/
def lex (F : Nat → Int) (a b : Nat) : Bool := decide (F a < F b ∨ F a = F b ∧ a ≤ b)
theorem lex_trans (F : Nat → Int) : ∀ a b c : Nat, lex F a b = true → lex F b c = true → lex F a c = true := by
  intro a b c h1 h2
  unfold lex at *
  simp only [decide_eq_true_eq] at *
  omega
theorem lex_total (F : Nat → Int) : ∀ a b : Nat, (lex F a b || lex F b a) = true := by
  intro a b
  unfold lex
  simp only [Bool.or_eq_true, decide_eq_true_eq]
  omega
theorem lex_anti (F : Nat → Int) (a b : Nat) (h1 : lex F a b = true) (h2 : lex F b a = true) : a = b := by
  unfold lex at *
  simp only [decide_eq_true_eq] at *
  omega
theorem le_lex (F : Nat → Int) (a b : Nat) (h : a < b) : le F a b = lex F a b := by
  unfold le lex
  rw [Bool.eq_iff_iff]
  simp only [decide_eq_true_eq]
  omega
theorem merge_lex_upto (F : Nat → Int) (m : Nat) : ∀ (A B : List Nat), A.length + B.length ≤ m → (∀ a ∈ A, ∀ b ∈ B, a < b) → A.merge B (le F) = A.merge B (lex F) := by
  induction m with
  | zero =>
    intro A B hm _
    have : A = [] := List.eq_nil_of_length_eq_zero (by omega)
    subst this
    rw [List.nil_merge, List.nil_merge]
  | succ m ih =>
    intro A B hm h
    match A, B, hm, h with
    | [], B, _, _ => rw [List.nil_merge, List.nil_merge]
    | a :: A, [], _, _ => rw [List.merge_right, List.merge_right]
    | a :: A, b :: B, hm, h =>
      simp only [List.length_cons] at hm
      rw [List.cons_merge_cons, List.cons_merge_cons, le_lex F a b (h a (by simp) b (by simp))]
      rw [ih A (b :: B) (by simp only [List.length_cons]; omega) (fun x hx y hy => h x (by simp [hx]) y hy), ih (a :: A) B (by simp only [List.length_cons]; omega) (fun x hx y hy => h x hx y (by simp [hy]))]
theorem merge_lex (F : Nat → Int) (A B : List Nat) (h : ∀ a ∈ A, ∀ b ∈ B, a < b) : A.merge B (le F) = A.merge B (lex F) := merge_lex_upto F _ A B (Nat.le_refl _) h
/-- l is the places lo .. hi-1, by key and place -/
def Run (F : Nat → Int) (lo hi : Nat) (l : List Nat) : Prop := l.Perm (List.range' lo (hi - lo)) ∧ l.Pairwise (fun a b => lex F a b = true)
theorem Run.len {F : Nat → Int} {lo hi : Nat} {l : List Nat} (h : Run F lo hi l) : l.length = hi - lo := by rw [h.1.length_eq]; simp
theorem Run.mem {F : Nat → Int} {lo hi : Nat} {l : List Nat} (h : Run F lo hi l) {x : Nat} (hx : x ∈ l) : lo ≤ x ∧ x < hi := by
  have := (h.1.mem_iff).1 hx
  rw [List.mem_range'_1] at this
  omega
theorem merge_run {F : Nat → Int} {lo mid hi : Nat} {A B : List Nat} (hA : Run F lo mid A) (hB : Run F mid hi B) (h1 : lo ≤ mid) (h2 : mid ≤ hi) : Run F lo hi (A.merge B (le F)) := by
  rw [merge_lex F A B (fun a ha b hb => by have := hA.mem ha; have := hB.mem hb; omega)]
  refine ⟨?_, List.pairwise_merge (lex_trans F) (lex_total F) A B hA.2 hB.2⟩
  refine (List.merge_perm_append (lex F)).trans ?_
  have e : List.range' lo (hi - lo) = List.range' lo (mid - lo) ++ List.range' mid (hi - mid) := by
    have := @List.range'_append lo (mid - lo) (hi - mid) 1
    rw [show lo + 1 * (mid - lo) = mid from by omega, show mid - lo + (hi - mid) = hi - lo from by omega] at this
    exact this.symm
  rw [e]
  exact hA.1.append hB.1
theorem run_unique {F : Nat → Int} {lo hi : Nat} {l l' : List Nat} (h : Run F lo hi l) (h' : Run F lo hi l') : l = l' :=
  List.Perm.eq_of_pairwise (le := fun a b => lex F a b = true) (fun a b _ _ h1 h2 => lex_anti F a b h1 h2) h.2 h'.2 (h.1.trans h'.1.symm)

/-- the window from lo to hi -/
def win (L : List Nat) (lo hi : Nat) : List Nat := (L.drop lo).take (hi - lo)
theorem win_len (L : List Nat) (lo hi : Nat) (h : hi ≤ L.length) : (win L lo hi).length = hi - lo := by simp [win]; omega
theorem win_nil (L : List Nat) (lo : Nat) : win L lo lo = [] := by simp [win]
theorem win_at (L : List Nat) (lo hi p : Nat) (h : lo + p < hi) : (win L lo hi)[p]? = L[lo + p]? := by
  unfold win; rw [List.getElem?_take, if_pos (by omega), List.getElem?_drop]
theorem win_snoc (L : List Nat) (lo k v : Nat) (h1 : lo ≤ k) (h2 : k < L.length) : win (L.set k v) lo (k + 1) = win L lo k ++ [v] := by
  apply List.ext_getElem?
  intro p
  by_cases hp : lo + p < k
  · rw [win_at _ _ _ _ (by omega), List.getElem?_append_left (by rw [win_len _ _ _ (by omega)]; omega), win_at _ _ _ _ (by omega), List.getElem?_set_ne (by omega)]
  · by_cases he : lo + p = k
    · rw [win_at _ _ _ _ (by omega), List.getElem?_append_right (by rw [win_len _ _ _ (by omega)]; omega), win_len _ _ _ (by omega), he, List.getElem?_set_self h2, show p - (k - lo) = 0 from by omega]
      rfl
    · rw [List.getElem?_eq_none (by rw [win_len _ _ _ (by simp; omega)]; omega), List.getElem?_eq_none (by simp [win_len _ _ _ (show k ≤ L.length by omega)]; omega)]
theorem win_set_out (L : List Nat) (lo hi k v : Nat) (h : hi ≤ k) : win (L.set k v) lo hi = win L lo hi := by
  apply List.ext_getElem?
  intro p
  by_cases hp : lo + p < hi
  · rw [win_at _ _ _ _ hp, win_at _ _ _ _ hp, List.getElem?_set_ne (by omega)]
  · unfold win; rw [List.getElem?_take, List.getElem?_take, if_neg (by omega), if_neg (by omega)]
/-- every window of width s, aligned, is a run -/
structure Runs (F : Nat → Int) (n s : Nat) (L : List Nat) : Prop where
  len : L.length = n
  run : ∀ q, q * s < n → Run F (q * s) (min (q * s + s) n) (win L (q * s) (min (q * s + s) n))
theorem runs_start (F : Nat → Int) (n : Nat) : Runs F n 1 (List.range n) := by
  refine ⟨by simp, fun q hq => ?_⟩
  have e : win (List.range n) (q * 1) (min (q * 1 + 1) n) = [q] := by
    rw [Nat.mul_one, Nat.min_eq_left (by omega)]
    apply List.ext_getElem?
    intro p
    by_cases hp : p = 0
    · subst hp; rw [win_at _ _ _ _ (by omega), Nat.add_zero, List.getElem?_range (by omega)]; rfl
    · rw [List.getElem?_eq_none (by rw [win_len _ _ _ (by simp; omega)]; omega), List.getElem?_eq_none (by simp; omega)]
  rw [e, Nat.mul_one, Nat.min_eq_left (by omega)]
  exact ⟨by rw [show q + 1 - q = 1 from by omega]; simp [List.range'], by simp⟩
theorem runs_end {F : Nat → Int} {n s : Nat} {L : List Nat} (h : Runs F n s L) (hs : n ≤ s) : Run F 0 n L := by
  by_cases h0 : n = 0
  · subst h0
    have : L = [] := List.eq_nil_of_length_eq_zero h.len
    subst this
    exact ⟨by simp, by simp⟩
  · have := h.run 0 (by omega)
    rw [Nat.zero_mul, Nat.zero_add, Nat.min_eq_right hs] at this
    have e : win L 0 n = L := by unfold win; rw [List.drop_zero, List.take_of_length_le (by rw [h.len]; omega)]
    rwa [e] at this
theorem runs_lt {F : Nat → Int} {n s : Nat} {L : List Nat} (h : Runs F n s L) (hs : 1 ≤ s) {j x : Nat} (hj : L[j]? = some x) : x < n := by
  obtain ⟨hjl, _⟩ := List.getElem?_eq_some_iff.1 hj
  rw [h.len] at hjl
  have h1 : j / s * s ≤ j := Nat.div_mul_le_self j s
  have h2 : j < j / s * s + s := by
    have := Nat.mod_lt j hs
    have := Nat.div_add_mod j s
    rw [Nat.mul_comm] at this
    omega
  have hr := h.run (j / s) (by omega)
  have hm : x ∈ win L (j / s * s) (min (j / s * s + s) n) := by
    apply List.mem_of_getElem? (i := j - j / s * s)
    rw [win_at _ _ _ _ (by omega), show j / s * s + (j - j / s * s) = j from by omega]; exact hj
  have := hr.mem hm
  omega
/-- the first q pairs of runs of width s have been merged into Y -/
structure Pass (F : Nat → Int) (n s : Nat) (L Y : List Nat) (q : Nat) : Prop where
  len : Y.length = n
  done : ∀ q', q' < q → win Y (q' * (2 * s)) (min (q' * (2 * s) + 2 * s) n) =
    (win L (q' * (2 * s)) (min (q' * (2 * s) + s) n)).merge (win L (min (q' * (2 * s) + s) n) (min (q' * (2 * s) + 2 * s) n)) (le F)
theorem pass_start (F : Nat → Int) (n s : Nat) (L Y : List Nat) (h : Y.length = n) : Pass F n s L Y 0 := ⟨h, fun q' h => by omega⟩
theorem pass_end {F : Nat → Int} {n s q : Nat} {L Y : List Nat} (h : Pass F n s L Y q) (hr : Runs F n s L) (hq : n ≤ q * (2 * s)) : Runs F n (2 * s) Y := by
  refine ⟨h.len, fun q' hq' => ?_⟩
  have hlt : q' < q := by
    rcases Nat.lt_or_ge q' q with h' | h'
    · exact h'
    · have := Nat.mul_le_mul_right (2 * s) h'; omega
  rw [h.done q' hlt]
  have a := hr.run (2 * q') (by rw [show 2 * q' * s = q' * (2 * s) from by rw [Nat.mul_comm 2 q', Nat.mul_assoc]]; exact hq')
  rw [show 2 * q' * s = q' * (2 * s) from by rw [Nat.mul_comm 2 q', Nat.mul_assoc]] at a
  by_cases hm : q' * (2 * s) + s < n
  · have b := hr.run (2 * q' + 1) (by rw [Nat.add_mul, show 2 * q' * s = q' * (2 * s) from by rw [Nat.mul_comm 2 q', Nat.mul_assoc], Nat.one_mul]; exact hm)
    rw [Nat.add_mul, show 2 * q' * s = q' * (2 * s) from by rw [Nat.mul_comm 2 q', Nat.mul_assoc], Nat.one_mul] at b
    rw [show q' * (2 * s) + s + s = q' * (2 * s) + 2 * s from by omega] at b
    have e : min (q' * (2 * s) + s) n = q' * (2 * s) + s := Nat.min_eq_left (by omega)
    rw [e] at a ⊢
    exact merge_run a b (by omega) (by omega)
  · have e1 : min (q' * (2 * s) + s) n = n := Nat.min_eq_right (by omega)
    have e2 : min (q' * (2 * s) + 2 * s) n = n := Nat.min_eq_right (by omega)
    rw [e1] at a ⊢
    rw [e2, win_nil, List.merge_right]
    exact a
theorem pass_write {F : Nat → Int} {n s q k v : Nat} {L Y : List Nat} (h : Pass F n s L Y q) (hk : q * (2 * s) ≤ k) : Pass F n s L (Y.set k v) q := by
  refine ⟨by simpa using h.len, fun q' hq' => ?_⟩
  rw [← h.done q' hq']
  apply win_set_out
  have : (q' + 1) * (2 * s) ≤ q * (2 * s) := Nat.mul_le_mul_right _ hq'
  rw [Nat.add_mul, Nat.one_mul] at this
  omega
theorem pass_next {F : Nat → Int} {n s q : Nat} {L Y : List Nat} (h : Pass F n s L Y q)
    (hd : win Y (q * (2 * s)) (min (q * (2 * s) + 2 * s) n) = (win L (q * (2 * s)) (min (q * (2 * s) + s) n)).merge (win L (min (q * (2 * s) + s) n) (min (q * (2 * s) + 2 * s) n)) (le F)) : Pass F n s L Y (q + 1) :=
  ⟨h.len, fun q' hq' => by
    by_cases e : q' = q
    · subst e; exact hd
    · exact h.done q' (by omega)⟩
/-- in the middle of a merge: what is laid, and what is left of the two -/
def Mid (F : Nat → Int) (A B Y : List Nat) (lo p r : Nat) : Prop := win Y lo (lo + p + r) ++ (A.drop p).merge (B.drop r) (le F) = A.merge B (le F)
theorem mid_start (F : Nat → Int) (A B Y : List Nat) (lo : Nat) : Mid F A B Y lo 0 0 := by unfold Mid; simp [win_nil]
theorem mid_left {F : Nat → Int} {A B Y : List Nat} {lo p r a : Nat} (h : Mid F A B Y lo p r) (ha : A[p]? = some a) (hl : lo + p + r < Y.length) (hle : ∀ b, B[r]? = some b → le F a b = true) : Mid F A B (Y.set (lo + p + r) a) lo (p + 1) r := by
  unfold Mid at *
  rw [show lo + (p + 1) + r = lo + p + r + 1 from by omega, win_snoc _ _ _ _ (by omega) hl, ← h, List.append_assoc]
  congr 1
  obtain ⟨hp, e⟩ := List.getElem?_eq_some_iff.1 ha
  rw [List.drop_eq_getElem_cons hp, e]
  by_cases hr : r < B.length
  · rw [List.drop_eq_getElem_cons hr, List.cons_merge_cons, if_pos (hle _ (List.getElem?_eq_getElem hr))]; rfl
  · rw [List.drop_of_length_le (by omega : B.length ≤ r), List.merge_right, List.merge_right]; rfl
theorem mid_right {F : Nat → Int} {A B Y : List Nat} {lo p r b : Nat} (h : Mid F A B Y lo p r) (hb : B[r]? = some b) (hl : lo + p + r < Y.length) (hle : ∀ a, A[p]? = some a → le F a b = false) : Mid F A B (Y.set (lo + p + r) b) lo p (r + 1) := by
  unfold Mid at *
  rw [show lo + p + (r + 1) = lo + p + r + 1 from by omega, win_snoc _ _ _ _ (by omega) hl, ← h, List.append_assoc]
  congr 1
  obtain ⟨hr, e⟩ := List.getElem?_eq_some_iff.1 hb
  rw [List.drop_eq_getElem_cons hr, e]
  by_cases hp : p < A.length
  · rw [List.drop_eq_getElem_cons hp, List.cons_merge_cons, hle _ (List.getElem?_eq_getElem hp)]; rfl
  · rw [List.drop_of_length_le (by omega : A.length ≤ p), List.nil_merge, List.nil_merge]; rfl
theorem mid_end {F : Nat → Int} {A B Y : List Nat} {lo p r : Nat} (h : Mid F A B Y lo p r) (hp : A.length ≤ p) (hr : B.length ≤ r) : win Y lo (lo + p + r) = A.merge B (le F) := by
  unfold Mid at h
  rw [List.drop_of_length_le hp, List.drop_of_length_le hr, List.nil_merge, List.append_nil] at h
  exact h
end Go.Proofs.Qxb6601127a.Srt
