/-
  THE FIRST PASS, in memory: what stands between two edges.
-/
import Derived.Test.Qxb6601127aRng
namespace Go.Proofs.Qxb6601127a.Base
open Go.ChangeShapes Go.WideShapes Go.ChangeAt Go.RowKit
open Cnt (Ed psum cum at' ofR lefts Rngs rg)

theorem gots_append (a b : List Ck) : gots (a ++ b) = gots a ++ gots b := by unfold gots; exact List.flatMap_append
theorem gots_one (x : Ck) : gots [x] = x.got := by simp [gots]
/-- the first pass: k parts are read whole; D: the edges read; R: the ranges' chunks; Lf: what is left; sl: how many chunks of a range may be empty yet -/
structure P1 (edges : Value) (parts : List Ck) (s nR gr gl gs k : Nat) (D : List Ed) (rv : List Value) (R : List (List Ck)) (sp : List Ck) (Lf : List Nat) (sl : Nat → Nat) (w : World) (ow : Ow) : Prop where
  erow : ∀ ge ce, edges = .slice (some ⟨ge, 0, none⟩) parts.length ce → ∃ cs, At w ow (10, 0, 0) ge 68 cs ∧ parts.length ≤ cs.size ∧ ∀ (j : Nat) x, k ≤ j → parts[j]? = some x → cs[j]? = some x.val
  pck : ∀ (j : Nat) x, k ≤ j → parts[j]? = some x → CkAt w ow (20, 0, j) x
  ranges : At w ow (5, 0, 0) gr 64 rv.toArray
  lenv : rv.length = nR
  lenR : R.length = nR
  rows : ∀ (r : Nat) v cks, rv[r]? = some v → R[r]? = some cks → Row w ow (13, r, 0) (fun j => (23, r, j)) v cks
  got : ∀ (r : Nat) cks, R[r]? = some cks → gots cks = ofR D s r
  cnt : ∀ (r : Nat) cks, R[r]? = some cks → cks.length ≤ (gots cks).length + sl r
  spare : ∃ sv, Spares w ow gs sv sp
  spk : sp.length ≤ k
  left : At w ow (6, 0, 0) gl 3 (ints Lf)
/-- positions that the first pass turns -/
def Q1 (p : Pos) : Prop := p.1 = 5 ∨ p.1 = 6 ∨ p.1 = 8 ∨ p.1 = 10 ∨ p.1 = 11 ∨ p.1 = 13 ∨ p.1 = 20 ∨ p.1 = 21 ∨ p.1 = 23
/-- carried through a step that touches none of it -/
theorem P1.step {edges : Value} {parts : List Ck} {s nR gr gl gs k : Nat} {D : List Ed} {rv : List Value} {R : List (List Ck)} {sp : List Ck} {Lf : List Nat} {sl : Nat → Nat} {w w' : World} {ow ow' : Ow} {Q : Pos → Prop}
    (h : P1 edges parts s nR gr gl gs k D rv R sp Lf sl w ow) (st : Step Q w ow w' ow') (hq : ∀ p, Q1 p → ¬ Q p) : P1 edges parts s nR gr gl gs k D rv R sp Lf sl w' ow' := by
  refine ⟨fun ge ce he => ?_, fun j x hj hx => (h.pck j x hj hx).step st (hq _ (by simp [Q1])), h.ranges.step st (hq _ (by simp [Q1])), h.lenv, h.lenR, fun r v cks hv hc => (h.rows r v cks hv hc).step st (hq _ (by simp [Q1])) (fun j _ => hq _ (by simp [Q1])), h.got, h.cnt, ?_, h.spk, h.left.step st (hq _ (by simp [Q1]))⟩
  · obtain ⟨cs, h1, h2⟩ := h.erow ge ce he
    exact ⟨cs, h1.step st (hq _ (by simp [Q1])), h2⟩
  · obtain ⟨sv, hs⟩ := h.spare
    exact ⟨sv, hs.step st (fun p hp => hq p (by rcases hp with hp | hp | hp <;> simp [Q1, hp]))⟩
/-- one edge less is left -/
theorem P1.dec {edges : Value} {parts : List Ck} {s nR gr gl gs k : Nat} {D : List Ed} {rv : List Value} {R : List (List Ck)} {sp : List Ck} {Lf : List Nat} {sl : Nat → Nat} {w : World} {ow : Ow}
    (h : P1 edges parts s nR gr gl gs k D rv R sp Lf sl w ow) (j x : Nat) : P1 edges parts s nR gr gl gs k D rv R sp (Lf.set j x) sl (w.setCell ⟨gl, j, none⟩ (.int .i64 (x : Int))) ow ∧ Step Q1 w ow (w.setCell ⟨gl, j, none⟩ (.int .i64 (x : Int))) ow := by
  have st := h.left.stepset j (.int .i64 (x : Int))
  refine ⟨⟨fun ge ce he => ?_, fun j x hj hx => (h.pck j x hj hx).step st (by simp), h.ranges.step st (by simp), h.lenv, h.lenR, fun r v cks hv hc => (h.rows r v cks hv hc).step st (by simp) (by simp), h.got, h.cnt, ?_, h.spk, ?_⟩, st.mono fun p hp => by rw [hp]; simp [Q1]⟩
  · obtain ⟨cs, h1, h2⟩ := h.erow ge ce he
    exact ⟨cs, h1.step st (by simp), h2⟩
  · obtain ⟨sv, hs⟩ := h.spare
    exact ⟨sv, hs.step st (fun p hp e => by rw [e] at hp; simp [Sq] at hp)⟩
  · rw [← ints_set]; exact h.left.set j _
/-- a new chunk for range r: take, append, store -/
theorem P1.grow {edges : Value} {parts : List Ck} {s nR gr gl gs k : Nat} {D : List Ed} {rv : List Value} {R : List (List Ck)} {sp : List Ck} {Lf : List Nat} {sl : Nat → Nat} {w w' W'' w1 : World} {ow ow' : Ow}
    (h : P1 edges parts s nR gr gl gs k D rv R sp Lf sl w ow) {r : Nat} {v : Value} {cks : List Ck} (hv : rv[r]? = some v) (hc : R[r]? = some cks)
    {x : Ck} {sv' : Value} {sp' : List Ck} (hn : x.n = 0) (hspl : sp'.length ≤ sp.length) (hx : CkAt w' ow' (23, r, cks.length) x) (hs : Spares w' ow' gs sv' sp') (st : Step Sq w ow w' ow')
    (stW : ∀ Q : Pos → Prop, Step Q w' ow' W'' ow')
    {g cap : Nat} (hown : w1.ownsRow 0 68 1 (.slice (some ⟨g, 0, none⟩) (cks.length + 1) cap) (cks.length + 1) (cks.map Ck.val ++ [x.val])) (hgrow : W''.grownBy w1 v.ownBlock) (hat : v.ownBlock = some g ∨ g = W''.heap.size) (hsl : sl r = 0) :
    ∃ ow1, P1 edges parts s nR gr gl gs k D (rv.set r (.slice (some ⟨g, 0, none⟩) (cks.length + 1) cap)) (R.set r (cks ++ [x])) sp' Lf (fun i => if i = r then 1 else sl i) (w1.setCell ⟨gr, r, none⟩ (.slice (some ⟨g, 0, none⟩) (cks.length + 1) cap)) ow1 ∧ Step Q1 w ow (w1.setCell ⟨gr, r, none⟩ (.slice (some ⟨g, 0, none⟩) (cks.length + 1) cap)) ow1 := by
  have nS : ∀ p : Pos, (p.1 ≠ 8 ∧ p.1 ≠ 11 ∧ p.1 ≠ 21) → ¬ Sq p := fun p hp e => by rcases e with e | e | e; exact hp.1 e; exact hp.2.1 e; exact hp.2.2 e
  have st1 : Step Sq w ow W'' ow' := st.trans (stW _)
  have sf := stW fun _ => False
  have hrow := (h.rows r v cks hv hc).step st1 (nS _ (by simp)) (fun j _ => nS _ (by simp))
  have hx1 := hx.step sf (fun h => h)
  have hs1 := hs.step sf (fun _ _ h => h)
  obtain ⟨hR, stA⟩ := hrow.append hx1 (fun j _ => by simp) hown hgrow hat
  have hrg := (h.ranges.step st1 (nS _ (by simp))).step stA (by simp)
  have stV := hrg.stepset r (.slice (some ⟨g, 0, none⟩) (cks.length + 1) cap)
  have st2 : Step (fun p => Sq p ∨ p = (13, r, 0) ∨ p = (5, 0, 0)) w ow (w1.setCell ⟨gr, r, none⟩ (.slice (some ⟨g, 0, none⟩) (cks.length + 1) cap)) (upd ow' g (13, r, 0)) :=
    ((st1.mono fun p hp => .inl hp).trans (stA.mono fun p hp => .inr (.inl hp))).trans (stV.mono fun p hp => .inr (.inr hp))
  refine ⟨upd ow' g (13, r, 0), ⟨fun ge ce he => ?_, fun j y hj hy => (h.pck j y hj hy).step st2 (by simp [Sq]), ?_, by simpa using h.lenv, by simpa using h.lenR, fun i u ys hu hy => ?_, fun i ys hy => ?_, fun i ys hy => ?_, ?_, Nat.le_trans hspl h.spk, h.left.step st2 (by simp [Sq])⟩, st2.mono fun p hp => ?_⟩
  · obtain ⟨cs, h1, h2⟩ := h.erow ge ce he
    exact ⟨cs, h1.step st2 (by simp [Sq]), h2⟩
  · have := hrg.set r (.slice (some ⟨g, 0, none⟩) (cks.length + 1) cap)
    simpa using this
  · by_cases hi : i = r
    · subst hi
      rw [List.getElem?_set_self (List.getElem?_eq_some_iff.1 hv).1] at hu
      rw [List.getElem?_set_self (List.getElem?_eq_some_iff.1 hc).1] at hy
      cases hu; cases hy
      exact hR.step stV (by simp) (by simp)
    · rw [List.getElem?_set_ne (by omega)] at hu hy
      exact (h.rows i u ys hu hy).step st2 (by simp [Sq]; omega) (by simp [Sq])
  · by_cases hi : i = r
    · subst hi
      rw [List.getElem?_set_self (List.getElem?_eq_some_iff.1 hc).1] at hy
      cases hy
      rw [gots_append, gots_one, h.got i cks hc]
      unfold Ck.got; rw [hn]; simp
    · rw [List.getElem?_set_ne (by omega)] at hy
      exact h.got i ys hy
  · by_cases hi : i = r
    · subst hi
      rw [List.getElem?_set_self (List.getElem?_eq_some_iff.1 hc).1] at hy
      cases hy
      have h1 := h.cnt i cks hc
      rw [gots_append, List.length_append, List.length_append, if_pos rfl]
      simp; omega
    · rw [List.getElem?_set_ne (by omega)] at hy
      rw [if_neg hi]
      exact h.cnt i ys hy
  · exact ⟨sv', (hs1.step stA (fun p hp e => by rw [e] at hp; simp [Sq] at hp)).step stV (fun p hp e => by rw [e] at hp; simp [Sq] at hp)⟩
  · rcases hp with (hp | hp | hp) | hp | hp
    · simp [Q1, hp]
    · simp [Q1, hp]
    · simp [Q1, hp]
    · rw [hp]; simp [Q1]
    · rw [hp]; simp [Q1]
theorem P1.slack {edges : Value} {parts : List Ck} {s nR gr gl gs k : Nat} {D : List Ed} {rv : List Value} {R : List (List Ck)} {sp : List Ck} {Lf : List Nat} {sl sl' : Nat → Nat} {w : World} {ow : Ow}
    (h : P1 edges parts s nR gr gl gs k D rv R sp Lf sl w ow) (hs : ∀ i, sl i ≤ sl' i) : P1 edges parts s nR gr gl gs k D rv R sp Lf sl' w ow :=
  ⟨h.erow, h.pck, h.ranges, h.lenv, h.lenR, h.rows, h.got, fun r cks hc => Nat.le_trans (h.cnt r cks hc) (Nat.add_le_add_left (hs r) _), h.spare, h.spk, h.left⟩
/-- an edge more in the last chunk of range r, which has room -/
theorem P1.put {edges : Value} {parts : List Ck} {s nR gr gl gs k : Nat} {D : List Ed} {rv : List Value} {R : List (List Ck)} {sp : List Ck} {Lf : List Nat} {sl : Nat → Nat} {w : World} {ow : Ow}
    (h : P1 edges parts s nR gr gl gs k D rv R sp Lf sl w ow) {r : Nat} {v : Value} {init : List Ck} {x : Ck} (hv : rv[r]? = some v) (hc : R[r]? = some (init ++ [x])) (hroom : x.n < x.c)
    {g cap : Nat} (hl : Laid w ow (13, r, 0) v (init ++ [x]) g cap) {e : Ed} (he : rg s e = r) (hsl : sl r ≤ 1) :
    P1 edges parts s nR gr gl gs k (D ++ [e]) rv (R.set r (init ++ [{ x with n := x.n + 1, es := x.es.set x.n e }])) sp Lf (fun i => if i = r then 0 else sl i) ((setE w x.g x.n e).setCell ⟨g, init.length, none⟩ (.slice (some ⟨x.g, 0, none⟩) (x.n + 1) x.c)) ow ∧
      Step Q1 w ow ((setE w x.g x.n e).setCell ⟨g, init.length, none⟩ (.slice (some ⟨x.g, 0, none⟩) (x.n + 1) x.c)) ow := by
  have hrow := h.rows r v _ hv hc
  have hx := hrow.ck init.length x (by simp)
  have st1 := hx.stepput x.n e
  have hx1 : CkAt (setE w x.g x.n e) ow (23, r, init.length) { x with n := x.n + 1, es := x.es.set x.n e } := (hx.put x.n e).relen (x.n + 1) (by show x.n + 1 ≤ x.c; omega)
  have hl1 : Laid (setE w x.g x.n e) ow (13, r, 0) v (init ++ [x]) g cap := by
    obtain ⟨cs, h1, h2⟩ := hl.has
    have hne : g ≠ x.g := by rintro rfl; have := hl.ow.symm.trans hx.at'.1; simp at this
    have h1' := h1.setE_other hne x.n e
    have e1 : (setE w x.g x.n e).heap[g]? = w.heap[g]? := h1'.trans h1.symm
    exact ⟨hl.v, hl.ow, hl.le, h1'.lt, fun j y hy => (World.cell?_of_block e1).trans (hl.cell j y hy), fun j => (World.frozen?_of_block e1).trans (hl.free j), cs, h1', h2⟩
  -- the row with the chunk's own edges turned
  have hrow1 : Row (setE w x.g x.n e) ow (13, r, 0) (fun j => (23, r, j)) v (init ++ [{ x with es := x.es.set x.n e }]) := by
    refine ⟨?_, hrow.hd, fun j y hy => ?_⟩
    · have h0 := owns_has (w' := setE w x.g x.n e) hrow.own (fun g' hg' => st1.fr.block g' (hrow.own.lt g' hg').2 (by rw [hrow.hd g' hg']; simp))
      have e0 : (init ++ [x]).map Ck.val = (init ++ [{ x with es := x.es.set x.n e }]).map Ck.val := by simp [Ck.val]
      rw [e0] at h0; simpa using h0
    · by_cases hj : j < init.length
      · rw [List.getElem?_append_left hj] at hy
        exact (hrow.ck j y (by rw [List.getElem?_append_left hj]; exact hy)).step st1 (by simp; omega)
      · have hj' : j = init.length := by
          have := (List.getElem?_eq_some_iff.1 hy).1
          simp at this; omega
        subst hj'
        simp at hy
        subst hy
        exact hx.put x.n e
  have hl2 : Laid (setE w x.g x.n e) ow (13, r, 0) v (init ++ [{ x with es := x.es.set x.n e }]) g cap := by
    refine ⟨by rw [hl1.v]; simp, hl1.ow, by simpa using hl1.le, hl1.lt, fun j y hy => ?_, hl1.free, ?_⟩
    · by_cases hj : j < init.length
      · rw [List.getElem?_append_left hj] at hy
        exact hl1.cell j y (by rw [List.getElem?_append_left hj]; exact hy)
      · have hj' : j = init.length := by
          have := (List.getElem?_eq_some_iff.1 hy).1
          simp at this; omega
        subst hj'
        simp at hy
        subst hy
        exact hl1.cell init.length x (by simp)
    · obtain ⟨cs, a, b, c, d⟩ := hl1.has
      exact ⟨cs, a, b, c, by simpa [Ck.val] using d⟩
  obtain ⟨hR, st2⟩ := hrow1.reset hl2 (j := init.length) (by simp) hx1 (fun j _ => by simp)
  have est : (init ++ [{ x with es := x.es.set x.n e }]).set init.length { x with n := x.n + 1, es := x.es.set x.n e } = init ++ [{ x with n := x.n + 1, es := x.es.set x.n e }] := by
    rw [List.set_append_right _ _ (Nat.le_refl _), Nat.sub_self, List.set_cons_zero]
  rw [est] at hR
  have st : Step (fun p => p = (23, r, init.length) ∨ p = (13, r, 0)) w ow ((setE w x.g x.n e).setCell ⟨g, init.length, none⟩ (.slice (some ⟨x.g, 0, none⟩) (x.n + 1) x.c)) ow := (st1.mono fun p hp => .inl hp).trans (st2.mono fun p hp => .inr hp)
  refine ⟨⟨fun ge ce he => ?_, fun j y hj hy => (h.pck j y hj hy).step st (by simp), h.ranges.step st (by simp), h.lenv, by simpa using h.lenR, fun i u ys hu hy => ?_, fun i ys hy => ?_, fun i ys hy => ?_, ?_, h.spk, h.left.step st (by simp)⟩, st.mono fun p hp => ?_⟩
  · obtain ⟨cs, h1, h2⟩ := h.erow ge ce he
    exact ⟨cs, h1.step st (by simp), h2⟩
  · by_cases hi : i = r
    · subst hi
      rw [List.getElem?_set_self (List.getElem?_eq_some_iff.1 hc).1] at hy
      cases hy
      rw [hv] at hu; cases hu
      exact hR
    · rw [List.getElem?_set_ne (by omega)] at hy
      exact (h.rows i u ys hu hy).step st (by simp; omega) (fun j _ => by simp; omega)
  · by_cases hi : i = r
    · subst hi
      rw [List.getElem?_set_self (List.getElem?_eq_some_iff.1 hc).1] at hy
      cases hy
      have h1 := h.got i _ hc
      rw [gots_append, gots_one] at h1 ⊢
      rw [got_put x e hx.len hroom, ← List.append_assoc, h1, Cnt.ofR_snoc, if_pos he]
    · rw [List.getElem?_set_ne (by omega)] at hy
      rw [h.got i ys hy, Cnt.ofR_snoc, if_neg (by omega)]
  · by_cases hi : i = r
    · subst hi
      rw [List.getElem?_set_self (List.getElem?_eq_some_iff.1 hc).1] at hy
      cases hy
      have h1 := h.cnt i _ hc
      rw [gots_append, gots_one, List.length_append, List.length_append, List.length_singleton] at h1 ⊢
      rw [got_put x e hx.len hroom, List.length_append, List.length_singleton, if_pos rfl]
      omega
    · rw [List.getElem?_set_ne (by omega)] at hy
      rw [if_neg hi]
      exact h.cnt i ys hy
  · obtain ⟨sv, hs⟩ := h.spare
    exact ⟨sv, hs.step st (fun p hp e => by rcases e with e | e <;> (rw [e] at hp; simp [Sq] at hp))⟩
  · rcases hp with hp | hp <;> (rw [hp]; simp [Q1])
/-- part k's header struck -/
theorem P1.strike {edges : Value} {parts : List Ck} {s nR gr gl gs k : Nat} {D : List Ed} {rv : List Value} {R : List (List Ck)} {sp : List Ck} {Lf : List Nat} {sl : Nat → Nat} {w : World} {ow : Ow}
    (h : P1 edges parts s nR gr gl gs k D rv R sp Lf sl w ow) {x : Ck} (hx : parts[k]? = some x) {ge ce : Nat} (he : edges = .slice (some ⟨ge, 0, none⟩) parts.length ce) :
    P1 edges parts s nR gr gl gs (k + 1) D rv R sp Lf sl (w.setCell ⟨ge, k, none⟩ (.slice none 0 0)) ow ∧ Step Q1 w ow (w.setCell ⟨ge, k, none⟩ (.slice none 0 0)) ow ∧ CkAt (w.setCell ⟨ge, k, none⟩ (.slice none 0 0)) ow (20, 0, k) x := by
  obtain ⟨cs, h1, h2, h3⟩ := h.erow ge ce he
  have st := h1.stepset k (.slice none 0 0)
  refine ⟨⟨fun ge' ce' he' => ?_, fun j y hj hy => (h.pck j y (by omega) hy).step st (by simp), h.ranges.step st (by simp), h.lenv, h.lenR, fun r v cks hv hc => (h.rows r v cks hv hc).step st (by simp) (by simp), h.got, h.cnt, ?_, Nat.le_succ_of_le h.spk, h.left.step st (by simp)⟩, st.mono fun p hp => by rw [hp]; simp [Q1], (h.pck k x (Nat.le_refl _) hx).step st (by simp)⟩
  · rw [he] at he'
    simp at he'
    obtain ⟨rfl, rfl⟩ := he'
    refine ⟨_, h1.set k (.slice none 0 0), by simpa using h2, fun j y hj hy => ?_⟩
    rw [Array.getElem?_setIfInBounds_ne (by omega)]
    exact h3 j y (by omega) hy
  · obtain ⟨sv, hs⟩ := h.spare
    exact ⟨sv, hs.step st (fun p hp e => by rw [e] at hp; simp [Sq] at hp)⟩
/-- .. and the part given to the spares -/
theorem P1.give {edges : Value} {parts : List Ck} {s nR gr gl gs k : Nat} {D : List Ed} {rv : List Value} {R : List (List Ck)} {sp : List Ck} {Lf : List Nat} {sl : Nat → Nat} {w w' : World} {ow ow' : Ow}
    (h : P1 edges parts s nR gr gl gs (k + 1) D rv R sp Lf sl w ow) (hk : sp.length ≤ k) {sv' : Value} {sp' : List Ck} (hl : sp'.length ≤ sp.length + 1) (hs : Spares w' ow' gs sv' sp') (st : Step (fun p => Sq p ∨ p = (20, 0, k)) w ow w' ow') :
    P1 edges parts s nR gr gl gs (k + 1) D rv R sp' Lf sl w' ow' ∧ Step Q1 w ow w' ow' := by
  refine ⟨⟨fun ge' ce' he' => ?_, fun j y hj hy => (h.pck j y hj hy).step st (by simp [Sq]; omega), h.ranges.step st (by simp [Sq]), h.lenv, h.lenR, fun r v cks hv hc => (h.rows r v cks hv hc).step st (by simp [Sq]) (by simp [Sq]), h.got, h.cnt, ⟨sv', hs⟩, by omega, h.left.step st (by simp [Sq])⟩, st.mono fun p hp => ?_⟩
  · obtain ⟨cs, h1, h2⟩ := h.erow ge' ce' he'
    exact ⟨cs, h1.step st (by simp [Sq]), h2⟩
  · rcases hp with (hp | hp | hp) | hp
    · simp [Q1, hp]
    · simp [Q1, hp]
    · simp [Q1, hp]
    · rw [hp]; simp [Q1]
/-- what is left of each range when D is read -/
def leftD (E D : List Ed) (s nR : Nat) : List Nat := (List.range nR).map fun r => (ofR E s r).length - (ofR D s r).length
theorem leftD_start (E : List Ed) (s nR : Nat) : leftD E [] s nR = lefts E s nR nR := by
  unfold leftD lefts
  apply List.map_congr_left
  intro r hr
  rw [if_pos (List.mem_range.1 hr)]; simp [ofR]
theorem leftD_at (E D : List Ed) (s nR r : Nat) (h : r < nR) : (leftD E D s nR)[r]? = some ((ofR E s r).length - (ofR D s r).length) := by
  unfold leftD; rw [List.getElem?_map, List.getElem?_range h]; rfl
theorem leftD_set (E D : List Ed) (e : Ed) (s nR r : Nat) (h : r < nR) (he : rg s e = r) : (leftD E D s nR).set r ((ofR E s r).length - (ofR D s r).length - 1) = leftD E (D ++ [e]) s nR := by
  apply List.ext_getElem?
  intro v
  by_cases hv : v < nR
  · rw [leftD_at _ _ _ _ _ hv]
    by_cases e' : v = r
    · subst e'
      rw [List.getElem?_set_self (by simp [leftD]; exact h), Cnt.ofR_snoc, if_pos he, List.length_append, List.length_singleton]
      congr 1
    · rw [List.getElem?_set_ne (by omega), leftD_at _ _ _ _ _ hv, Cnt.ofR_snoc, if_neg (by omega)]
  · rw [List.getElem?_eq_none (by simp [leftD]; omega), List.getElem?_eq_none (by simp [leftD]; omega)]
/-- an edge that is still to come is left -/
theorem left_pos {E D tl : List Ed} {e : Ed} {s : Nat} (h : E = D ++ e :: tl) : (ofR D s (rg s e)).length < (ofR E s (rg s e)).length := by
  rw [h, show D ++ e :: tl = (D ++ [e]) ++ tl from by simp]
  have h1 := Cnt.ofR_len_le (D ++ [e]) tl s (rg s e)
  rw [Cnt.ofR_snoc, if_pos rfl, List.length_append] at h1
  simp at h1 ⊢; omega
theorem upto_split {parts : List Ck} {k i : Nat} {x : Ck} {e : Ed} (hx : parts[k]? = some x) (he : x.got[i]? = some e) : ∃ tl, gots parts = upto parts k i ++ e :: tl := by
  obtain ⟨tl, h⟩ := upto_pre parts k (i + 1)
  rw [upto_more hx he] at h
  exact ⟨tl, by rw [h]; simp⟩
theorem P1.start {edges : Value} {parts : List Ck} {s nR gr gl : Nat} {L : List Nat} {w : World} {ow : Ow} (hrow : Row w ow (10, 0, 0) (fun k => (20, 0, k)) edges parts) (hr : At w ow (5, 0, 0) gr 64 (Array.replicate nR (Value.slice none 0 0))) (hl : At w ow (6, 0, 0) gl 3 (ints L)) :
    P1 edges parts s nR gr gl w.heap.size 0 [] (List.replicate nR (.slice none 0 0)) (List.replicate nR []) [] L (fun _ => 0) (w.alloc (.cells #[.slice none 0 0] 85)) (upd ow w.heap.size (8, 0, 0)) ∧ (∀ Q : Pos → Prop, Step Q w ow (w.alloc (.cells #[.slice none 0 0] 85)) (upd ow w.heap.size (8, 0, 0))) := by
  have st : ∀ Q : Pos → Prop, Step Q w ow (w.alloc (.cells #[.slice none 0 0] 85)) (upd ow w.heap.size (8, 0, 0)) := fun Q => ((Step.refl Q w ow).alloc _).own (.inl (Nat.le_refl _)) _
  have sf := st fun _ => False
  refine ⟨⟨fun ge ce he => ?_, fun j x _ hx => (hrow.ck j x hx).step sf (fun h => h), by have := hr.step sf (fun h => h); simpa using this, by simp, by simp, fun r v cks hv hc => ?_, fun r cks hc => ?_, fun r cks hc => ?_, ⟨.slice none 0 0, ⟨upd_self _ _ _, has_new _ _ _⟩, Row.nil _ _ _ _, by simp⟩, Nat.zero_le _, hl.step sf (fun h => h)⟩, st⟩
  · have hrow' := hrow.step sf (fun h => h) (fun _ _ h => h)
    rcases hrow'.own.2 with ⟨a, b⟩ | ⟨g, cap, cur, h1, h2, h3, h4, h5, h6, h7⟩
    · rw [a] at he; simp at he
    · rw [h1] at he
      simp at he
      obtain ⟨rfl, rfl⟩ := he
      have h7' : cur.toList.take parts.length = parts.map Ck.val := by simpa using h7
      refine ⟨cur, ⟨hrow'.hd _ (by rw [h1]; rfl), h3⟩, by simp at h6; omega, fun j x _ hx => ?_⟩
      have hj := (List.getElem?_eq_some_iff.1 hx).1
      have : (cur.toList.take parts.length)[j]? = some x.val := by rw [h7', List.getElem?_map, hx]; rfl
      rw [List.getElem?_take, if_pos hj] at this
      simpa using this
  · rw [List.getElem?_replicate] at hv hc
    split at hv
    · rename_i h
      rw [if_pos h] at hc
      cases hv; cases hc; exact Row.nil _ _ _ _
    · cases hv
  · rw [List.getElem?_replicate] at hc
    split at hc
    · cases hc; simp [gots, ofR]
    · cases hc
  · rw [List.getElem?_replicate] at hc
    split at hc
    · cases hc; simp
    · cases hc
end Go.Proofs.Qxb6601127a.Base
