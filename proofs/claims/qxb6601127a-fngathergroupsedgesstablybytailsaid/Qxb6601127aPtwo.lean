/-
  THE SECOND PASS, in memory.
-/
import Derived.Test.Qxb6601127aPone
namespace Go.Proofs.Qxb6601127a.Cnt
open Base (fst')
theorem byR_succ (E : List Ed) (s n : Nat) : byR E s (n + 1) = byR E s n ++ ofR E s n := by unfold byR; rw [List.range_succ, List.flatMap_append]; simp
theorem byR_len {E : List Ed} {s : Nat} (h0 : ∀ e ∈ E, 0 ≤ e.f) (n : Nat) : (byR E s n).length ≤ cum E (n * 2 ^ s) := by
  induction n with
  | zero => simp [byR]
  | succ n ih =>
    rw [byR_succ, List.length_append, ← cum_range h0]
    have := cum_mono E (Nat.mul_le_mul_right (2 ^ s) (show n ≤ n + 1 by omega))
    omega
theorem byR_split (E : List Ed) (s : Nat) {r n : Nat} (h : r ≤ n) : ∃ tl, byR E s n = byR E s r ++ tl := by
  induction n with
  | zero => exact ⟨[], by rw [show r = 0 from by omega]; simp⟩
  | succ n ih =>
    rcases Nat.lt_or_ge r (n + 1) with h1 | h1
    · obtain ⟨tl, ht⟩ := ih (by omega)
      exact ⟨tl ++ ofR E s n, by rw [byR_succ, ht, List.append_assoc]⟩
    · exact ⟨[], by rw [show r = n + 1 from by omega]; simp⟩
/-- where the next edge of each tail goes -/
def frees (E : List Ed) (N : Nat) (S : List Ed) : List Nat := (List.range N).map fun v => cum E v + (at' S v).length
theorem frees_len (E : List Ed) (N : Nat) (S : List Ed) : (frees E N S).length = N := by simp [frees]
theorem frees_at (E : List Ed) (N : Nat) (S : List Ed) (v : Nat) (h : v < N) : (frees E N S)[v]? = some (cum E v + (at' S v).length) := by
  unfold frees; rw [List.getElem?_map, List.getElem?_range h]; rfl
theorem frees_start (E : List Ed) (N : Nat) : frees E N [] = (psum E N N).take N := by
  apply List.ext_getElem?
  intro v
  by_cases hv : v < N
  · rw [frees_at _ _ _ _ hv, List.getElem?_take, if_pos hv, psum_at _ _ _ _ (by omega), if_pos (by omega)]; simp [at']
  · rw [List.getElem?_eq_none (by rw [frees_len]; omega), List.getElem?_eq_none (by simp [psum_len]; omega)]
theorem frees_set (E : List Ed) (N : Nat) (S : List Ed) (e : Ed) (v : Nat) (h : v < N) (he : e.f = (v : Int)) : (frees E N S).set v (cum E v + (at' S v).length + 1) = frees E N (S ++ [e]) := by
  apply List.ext_getElem?
  intro u
  by_cases hu : u < N
  · rw [frees_at _ _ _ _ hu, at_snoc]
    by_cases huv : u = v
    · subst huv; rw [List.getElem?_set_self (by rw [frees_len]; exact h), if_pos he, List.length_append]; simp; omega
    · rw [List.getElem?_set_ne (by omega), frees_at _ _ _ _ hu, if_neg (by rw [he]; omega)]
  · rw [List.getElem?_eq_none (by rw [List.length_set, frees_len]; omega), List.getElem?_eq_none (by rw [frees_len]; omega)]
end Go.Proofs.Qxb6601127a.Cnt
namespace Go.Proofs.Qxb6601127a.Base
open Go.ChangeShapes Go.WideShapes Go.ChangeAt Go.RowKit
open Cnt (Ed psum cum at' ofR lefts Rngs rg byR frees Pl Pre)

theorem gots_take_succ {pl : List Ck} {j : Nat} {y : Ck} (h : pl[j]? = some y) : gots (pl.take (j + 1)) = gots (pl.take j) ++ y.got := by
  rw [List.take_add_one, h, gots_append]; simp [gots]
theorem gots_set {pl : List Ck} {j : Nat} {y y' : Ck} (h : pl[j]? = some y) {i b : Nat} {e : Ed} (hb : (gots (pl.take j)).length = b) (hi : i < y.got.length) (hy : y'.got = y.got.set i e) : gots (pl.set j y') = (gots pl).set (b + i) e := by
  have hj := (List.getElem?_eq_some_iff.1 h).1
  have e1 : gots pl = gots (pl.take j) ++ (y.got ++ gots (pl.drop (j + 1))) := by
    rw [← List.append_assoc, ← gots_take_succ h, ← gots_append, List.take_append_drop]
  have e2 : gots (pl.set j y') = gots (pl.take j) ++ (y'.got ++ gots (pl.drop (j + 1))) := by
    rw [List.set_eq_take_append_cons_drop, if_pos hj, gots_append]; simp [gots]
  rw [e1, e2, hy, List.set_append_right _ _ (by omega), hb, show b + i - b = i from by omega, List.set_append_left _ _ hi]
/-- chunks of 512, the last one shorter -/
structure Full (M : Nat) (pl : List Ck) : Prop where
  n : ∀ (j : Nat) x, pl[j]? = some x → x.n = min 512 (M - 512 * j) ∧ x.c = x.n ∧ x.es.length = x.c
  lt : ∀ j, j < pl.length → 512 * j < M
theorem Full.nil (M : Nat) : Full M [] := ⟨fun j x h => by simp at h, fun j h => by simp at h⟩
theorem Full.got {M : Nat} {pl : List Ck} (h : Full M pl) {j : Nat} {x : Ck} (hx : pl[j]? = some x) : x.got = x.es ∧ x.got.length = min 512 (M - 512 * j) := by
  obtain ⟨a, b, c⟩ := h.n j x hx
  have e : x.got = x.es := by unfold Ck.got; exact List.take_of_length_le (by omega)
  exact ⟨e, by rw [e]; omega⟩
theorem Full.len {M : Nat} {pl : List Ck} (h : Full M pl) : ∀ m, m ≤ pl.length → (gots (pl.take m)).length = min (512 * m) M
  | 0, _ => by simp [gots]
  | m + 1, hm => by
    have hx : pl[m]? = some pl[m] := List.getElem?_eq_getElem (by omega)
    rw [gots_take_succ hx, List.length_append, h.len m (by omega), (h.got hx).2]
    have := h.lt m (by omega)
    omega
theorem Full.all {M : Nat} {pl : List Ck} (h : Full M pl) : (gots pl).length = min (512 * pl.length) M := by
  have := h.len pl.length (Nat.le_refl _)
  rwa [List.take_length] at this
theorem Full.snoc {M : Nat} {pl : List Ck} (h : Full M pl) {x : Ck} (hlt : 512 * pl.length < M) (hn : x.n = min 512 (M - 512 * pl.length)) (hc : x.c = x.n) (he : x.es.length = x.c) : Full M (pl ++ [x]) := by
  refine ⟨fun j y hy => ?_, fun j hj => ?_⟩
  · by_cases h1 : j < pl.length
    · rw [List.getElem?_append_left h1] at hy; exact h.n j y hy
    · have := (List.getElem?_eq_some_iff.1 hy).1
      simp at this
      obtain rfl : j = pl.length := by omega
      simp at hy; subst hy; exact ⟨hn, hc, he⟩
  · simp at hj
    rcases Nat.lt_or_ge j pl.length with h1 | h1
    · exact h.lt j h1
    · rw [show j = pl.length from by omega]; exact hlt
theorem Full.set {M : Nat} {pl : List Ck} (h : Full M pl) {j : Nat} {x : Ck} (hx : pl[j]? = some x) (i : Nat) (e : Ed) : Full M (pl.set j { x with es := x.es.set i e }) := by
  refine ⟨fun k y hy => ?_, fun k hk => h.lt k (by simpa using hk)⟩
  by_cases hk : k = j
  · subst hk
    rw [List.getElem?_set_self (List.getElem?_eq_some_iff.1 hx).1] at hy
    cases hy
    obtain ⟨a, b, c⟩ := h.n k x hx
    exact ⟨a, b, by simpa using c⟩
  · rw [List.getElem?_set_ne (by omega)] at hy; exact h.n k y hy

/-- cells that begin with the numbers F -/
def intsX (F : List Nat) (X : List Value) : Array Value := (F.map (fun n : Nat => Value.int .i64 (n : Int)) ++ X).toArray
theorem intsX_at {F : List Nat} {X : List Value} {j x : Nat} (h : F[j]? = some x) : (intsX F X)[j]? = some (.int .i64 (x : Int)) := by
  unfold intsX
  rw [List.getElem?_toArray, List.getElem?_append_left (by simpa using (List.getElem?_eq_some_iff.1 h).1), List.getElem?_map, h]; rfl
theorem intsX_set {F : List Nat} {X : List Value} {j x : Nat} (h : j < F.length) : (intsX F X).setIfInBounds j (.int .i64 (x : Int)) = intsX (F.set j x) X := by
  unfold intsX
  rw [List.setIfInBounds_toArray, List.set_append_left _ _ (by simpa using h), List.map_set]

/-- the second pass at range r, c chunks of it read: F what stands in free, S the edges laid -/
structure P2 (E : List Ed) (s nR N gr gs gf r c : Nat) (rv : List Value) (R : List (List Ck)) (sp : List Ck) (F : List Nat) (S : List Ed) (pv : Value) (pl : List Ck) (w : World) (ow : Ow) : Prop where
  ranges : At w ow (5, 0, 0) gr 64 rv.toArray
  lenv : rv.length = nR
  rows : ∀ (r' : Nat) v cks, r < r' → rv[r']? = some v → R[r']? = some cks → Row w ow (13, r', 0) (fun j => (23, r', j)) v cks
  cur : ∀ v cks, rv[r]? = some v → R[r]? = some cks → ((0 < cks.length → ∃ g cap, Laid w ow (13, r, 0) v cks g cap) ∧ (∃ p cap, v = .slice p cks.length cap) ∧ ∀ (j : Nat) x, c ≤ j → cks[j]? = some x → CkAt w ow (23, r, j) x)
  spare : ∃ sv, Spares w ow gs sv sp
  spk : sp.length ≤ 65536 + (byR E s r).length + c
  free : ∃ X, At w ow (7, 0, 0) gf 3 (intsX F X)
  placed : Row w ow (12, 0, 0) (fun j => (22, 0, j)) pv pl
  full : Full (cum E N) pl
  lay : Pl E N S (gots pl)
/-- positions that the second pass turns -/
def Q2 (p : Pos) : Prop := p.1 = 5 ∨ p.1 = 7 ∨ p.1 = 8 ∨ p.1 = 11 ∨ p.1 = 12 ∨ p.1 = 21 ∨ p.1 = 22 ∨ p.1 = 23
theorem Laid.step {Q : Pos → Prop} {w w' : World} {ow ow' : Ow} {hp : Pos} {v : Value} {cks : List Ck} {g cap : Nat} (h : Laid w ow hp v cks g cap) (k : Step Q w ow w' ow') (hq : ¬ Q hp) : Laid w' ow' hp v cks g cap := by
  obtain ⟨cs, h1, h2⟩ := h.has
  have ha : At w ow hp g 68 cs := ⟨h.ow, h1⟩
  have hb := ha.step k hq
  exact ⟨h.v, hb.1, h.le, hb.lt, fun j x hx => by rw [hb.2.cell, ← h1.cell]; exact h.cell j x hx, hb.2.free, cs, hb.2, h2⟩
theorem P2.step {E : List Ed} {s nR N gr gs gf r c : Nat} {rv : List Value} {R : List (List Ck)} {sp : List Ck} {F : List Nat} {S : List Ed} {pv : Value} {pl : List Ck} {w w' : World} {ow ow' : Ow} {Q : Pos → Prop}
    (h : P2 E s nR N gr gs gf r c rv R sp F S pv pl w ow) (st : Step Q w ow w' ow') (hq : ∀ p : Pos, (Q2 p ∨ p.1 = 13) → ¬ Q p) : P2 E s nR N gr gs gf r c rv R sp F S pv pl w' ow' := by
  refine ⟨h.ranges.step st (hq _ (by simp [Q2])), h.lenv, fun r' v cks hr hv hc => (h.rows r' v cks hr hv hc).step st (hq _ (by simp)) (fun j _ => hq _ (by simp [Q2])), fun v cks hv hc => ?_, ?_, h.spk, ?_, h.placed.step st (hq _ (by simp [Q2])) (fun j _ => hq _ (by simp [Q2])), h.full, h.lay⟩
  · obtain ⟨a, b, d⟩ := h.cur v cks hv hc
    refine ⟨fun h0 => ?_, b, fun j x hj hx => (d j x hj hx).step st (hq _ (by simp [Q2]))⟩
    obtain ⟨g, cap, hl⟩ := a h0
    exact ⟨g, cap, hl.step st (hq _ (by simp))⟩
  · obtain ⟨sv, hs⟩ := h.spare
    exact ⟨sv, hs.step st (fun p hp => hq p (by rcases hp with hp | hp | hp <;> simp [Q2, hp]))⟩
  · obtain ⟨X, hx⟩ := h.free
    exact ⟨X, hx.step st (hq _ (by simp [Q2]))⟩
/-- one chunk more of places -/
theorem P2.grow {E : List Ed} {s nR N gr gs gf r c : Nat} {rv : List Value} {R : List (List Ck)} {sp : List Ck} {F : List Nat} {S : List Ed} {pv : Value} {pl : List Ck} {w w' W'' w1 : World} {ow ow' : Ow}
    (h : P2 E s nR N gr gs gf r c rv R sp F S pv pl w ow) {x : Ck} {sv' : Value} {sp' : List Ck} {n : Nat} (hc : x.c = n) (hspl : sp'.length ≤ sp.length) (hx : CkAt w' ow' (22, 0, pl.length) x) (hs : Spares w' ow' gs sv' sp') (st : Step Sq w ow w' ow')
    (stW : ∀ Q : Pos → Prop, Step Q w' ow' W'' ow') (hlt : 512 * pl.length < cum E N) (hn : n = min 512 (cum E N - 512 * pl.length))
    {g cap : Nat} (hown : w1.ownsRow 0 68 1 (.slice (some ⟨g, 0, none⟩) (pl.length + 1) cap) (pl.length + 1) (pl.map Ck.val ++ [.slice (some ⟨x.g, 0, none⟩) n n])) (hgrow : W''.grownBy w1 pv.ownBlock) (hat : pv.ownBlock = some g ∨ g = W''.heap.size) :
    ∃ ow1, P2 E s nR N gr gs gf r c rv R sp' F S (.slice (some ⟨g, 0, none⟩) (pl.length + 1) cap) (pl ++ [{ x with n := n }]) w1 ow1 ∧ Step Q2 w ow w1 ow1 := by
  have nS : ∀ p : Pos, (p.1 ≠ 8 ∧ p.1 ≠ 11 ∧ p.1 ≠ 21) → ¬ Sq p := fun p hp e => by rcases e with e | e | e; exact hp.1 e; exact hp.2.1 e; exact hp.2.2 e
  have st1 : Step Sq w ow W'' ow' := st.trans (stW _)
  have sf := stW fun _ => False
  have hrow := h.placed.step st1 (nS _ (by simp)) (fun j _ => nS _ (by simp))
  have hx1 : CkAt W'' ow' (22, 0, pl.length) { x with n := n } := (hx.step sf (fun h => h)).relen n (by omega)
  have hs1 := hs.step sf (fun _ _ h => h)
  obtain ⟨hR, stA⟩ := hrow.append hx1 (fun j _ => by simp) (by simpa [Ck.val, hc] using hown) hgrow hat
  have st2 : Step (fun p => Sq p ∨ p = (12, 0, 0)) w ow w1 (upd ow' g (12, 0, 0)) := (st1.mono fun p hp => .inl hp).trans (stA.mono fun p hp => .inr hp)
  refine ⟨upd ow' g (12, 0, 0), ⟨h.ranges.step st2 (by simp [Sq]), h.lenv, fun r' v cks hr hv hk => (h.rows r' v cks hr hv hk).step st2 (by simp [Sq]) (fun j _ => by simp [Sq]), fun v cks hv hk => ?_, ?_, Nat.le_trans hspl h.spk, ?_, hR, h.full.snoc hlt hn (by simpa using hc) hx.len, ?_⟩, st2.mono fun p hp => ?_⟩
  · obtain ⟨a, b, d⟩ := h.cur v cks hv hk
    refine ⟨fun h0 => ?_, b, fun j y hj hy => (d j y hj hy).step st2 (by simp [Sq])⟩
    obtain ⟨g', cap', hl⟩ := a h0
    exact ⟨g', cap', hl.step st2 (by simp [Sq])⟩
  · exact ⟨sv', hs1.step stA (fun p hp e => by rw [e] at hp; simp [Sq] at hp)⟩
  · obtain ⟨X, hX⟩ := h.free
    exact ⟨X, hX.step st2 (by simp [Sq])⟩
  · rw [gots_append]; exact Cnt.pl_more h.lay _
  · rcases hp with (hp | hp | hp) | hp
    · simp [Q2, hp]
    · simp [Q2, hp]
    · simp [Q2, hp]
    · rw [hp]; simp [Q2]
/-- an edge laid at its place -/
theorem P2.place {E : List Ed} {s nR N gr gs gf r c : Nat} {rv : List Value} {R : List (List Ck)} {sp : List Ck} {F : List Nat} {S : List Ed} {pv : Value} {pl : List Ck} {w w' : World} {ow : Ow}
    (h : P2 E s nR N gr gs gf r c rv R sp F S pv pl w ow) {e : Ed} {v p : Nat} {y : Ck} (hp : p = cum E v + (at' S v).length) (hpre : Pre E (S ++ [e]) N) (hv : v < N) (he : e.f = (v : Int)) (hl : p < (gots pl).length) (hy : pl[p / 512]? = some y)
    (hb : Has w' y.g 70 (ecells (y.es.set (p % 512) e))) (hf : Fr (fun x => x = y.g) w w') :
    P2 E s nR N gr gs gf r c rv R sp F (S ++ [e]) pv (pl.set (p / 512) { y with es := y.es.set (p % 512) e }) w' ow ∧ Step Q2 w ow w' ow := by
  have hyc := h.placed.ck _ _ hy
  have st : Step (fun q => q = (22, 0, p / 512)) w ow w' ow := Step.of_fr hf ow (fun b _ hb => by rw [hb]; exact hyc.at'.1)
  have hj := (List.getElem?_eq_some_iff.1 hy).1
  obtain ⟨n1, n2, n3⟩ := h.full.n _ _ hy
  have hlen := h.full.all
  have hb2 : (gots (pl.take (p / 512))).length = 512 * (p / 512) := by
    rw [h.full.len _ (by omega)]
    have := h.full.lt _ hj
    omega
  have hin : p % 512 < y.got.length := by
    rw [(h.full.got hy).2]; omega
  have hgot : ({ y with es := y.es.set (p % 512) e } : Ck).got = y.got.set (p % 512) e := by unfold Ck.got; simp only; rw [List.take_set]
  refine ⟨⟨h.ranges.step st (by simp), h.lenv, fun r' v cks hr hv hk => (h.rows r' v cks hr hv hk).step st (by simp) (fun j _ => by simp), fun v cks hv hk => ?_, ?_, h.spk, ?_, ?_, h.full.set hy _ _, ?_⟩, st.mono fun q hq => by rw [hq]; simp [Q2]⟩
  · obtain ⟨a, b, d⟩ := h.cur v cks hv hk
    refine ⟨fun h0 => ?_, b, fun j y hj hy => (d j y hj hy).step st (by simp)⟩
    obtain ⟨g', cap', hl⟩ := a h0
    exact ⟨g', cap', hl.step st (by simp)⟩
  · obtain ⟨sv, hs⟩ := h.spare
    exact ⟨sv, hs.step st (fun q hq e => by rw [e] at hq; simp [Sq] at hq)⟩
  · obtain ⟨X, hX⟩ := h.free
    exact ⟨X, hX.step st (by simp)⟩
  · refine ⟨?_, h.placed.hd, fun j x hx => ?_⟩
    · have h0 := owns_has (w' := w') h.placed.own (fun g' hg' => st.fr.block g' (h.placed.own.lt g' hg').2 (by rw [h.placed.hd g' hg']; simp))
      have e0 : (pl.set (p / 512) { y with es := y.es.set (p % 512) e }).map Ck.val = pl.map Ck.val := by
        rw [List.map_set]
        apply List.ext_getElem?
        intro i
        by_cases hi : i = p / 512
        · subst hi; rw [List.getElem?_set_self (by simpa using hj), List.getElem?_map, hy]; rfl
        · rw [List.getElem?_set_ne (by omega)]
      rw [e0]; simpa using h0
    · by_cases hi : j = p / 512
      · subst hi
        rw [List.getElem?_set_self hj] at hx
        cases hx
        exact ⟨⟨hyc.at'.1, hb⟩, by simpa using n3, by show y.n ≤ y.c; omega⟩
      · rw [List.getElem?_set_ne (by omega)] at hx
        exact (h.placed.ck j x hx).step st (by simp; omega)
  · rw [gots_set hy hb2 hin hgot, show 512 * (p / 512) + p % 512 = p from by omega]
    subst hp
    exact Cnt.pl_step hpre hv he h.lay hl
/-- the next place of that tail -/
theorem P2.bump {E : List Ed} {s nR N gr gs gf r c : Nat} {rv : List Value} {R : List (List Ck)} {sp : List Ck} {F : List Nat} {S : List Ed} {pv : Value} {pl : List Ck} {w : World} {ow : Ow}
    (h : P2 E s nR N gr gs gf r c rv R sp F S pv pl w ow) (j x : Nat) (hj : j < F.length) : P2 E s nR N gr gs gf r c rv R sp (F.set j x) S pv pl (w.setCell ⟨gf, j, none⟩ (.int .i64 (x : Int))) ow ∧ Step Q2 w ow (w.setCell ⟨gf, j, none⟩ (.int .i64 (x : Int))) ow := by
  obtain ⟨X, hX⟩ := h.free
  have st := hX.stepset j (.int .i64 (x : Int))
  refine ⟨⟨h.ranges.step st (by simp), h.lenv, fun r' v cks hr hv hk => (h.rows r' v cks hr hv hk).step st (by simp) (fun j _ => by simp), fun v cks hv hk => ?_, ?_, h.spk, ⟨X, ?_⟩, h.placed.step st (by simp) (fun j _ => by simp), h.full, h.lay⟩, st.mono fun q hq => by rw [hq]; simp [Q2]⟩
  · obtain ⟨a, b, d⟩ := h.cur v cks hv hk
    refine ⟨fun h0 => ?_, b, fun j y hj hy => (d j y hj hy).step st (by simp)⟩
    obtain ⟨g', cap', hl⟩ := a h0
    exact ⟨g', cap', hl.step st (by simp)⟩
  · obtain ⟨sv, hs⟩ := h.spare
    exact ⟨sv, hs.step st (fun q hq e => by rw [e] at hq; simp [Sq] at hq)⟩
  · rw [← intsX_set hj]; exact hX.set j _
/-- a chunk of the range read, and given to the spares -/
theorem P2.give {E : List Ed} {s nR N gr gs gf r c : Nat} {rv : List Value} {R : List (List Ck)} {sp : List Ck} {F : List Nat} {S : List Ed} {pv : Value} {pl : List Ck} {w w' : World} {ow ow' : Ow}
    (h : P2 E s nR N gr gs gf r c rv R sp F S pv pl w ow) {sv' : Value} {sp' : List Ck} (hl : sp'.length ≤ sp.length + 1) (hs : Spares w' ow' gs sv' sp') (st : Step (fun p => Sq p ∨ p = (23, r, c)) w ow w' ow') :
    P2 E s nR N gr gs gf r (c + 1) rv R sp' F S pv pl w' ow' ∧ Step Q2 w ow w' ow' := by
  refine ⟨⟨h.ranges.step st (by simp [Sq]), h.lenv, fun r' v cks hr hv hk => (h.rows r' v cks hr hv hk).step st (by simp [Sq]) (fun j _ => by simp [Sq]; omega), fun v cks hv hk => ?_, ⟨sv', hs⟩, by have := h.spk; omega, ?_, h.placed.step st (by simp [Sq]) (fun j _ => by simp [Sq]), h.full, h.lay⟩, st.mono fun q hq => ?_⟩
  · obtain ⟨a, b, d⟩ := h.cur v cks hv hk
    refine ⟨fun h0 => ?_, b, fun j y hj hy => (d j y (by omega) hy).step st (by simp [Sq]; omega)⟩
    obtain ⟨g', cap', hl⟩ := a h0
    exact ⟨g', cap', hl.step st (by simp [Sq])⟩
  · obtain ⟨X, hX⟩ := h.free
    exact ⟨X, hX.step st (by simp [Sq])⟩
  · rcases hq with (hq | hq | hq) | hq
    · simp [Q2, hq]
    · simp [Q2, hq]
    · simp [Q2, hq]
    · rw [hq]; simp [Q2]
theorem Row.cur {w : World} {ow : Ow} {r : Nat} {v : Value} {cks : List Ck} (h : Row w ow (13, r, 0) (fun j => (23, r, j)) v cks) : (0 < cks.length → ∃ g cap, Laid w ow (13, r, 0) v cks g cap) ∧ (∃ p cap, v = .slice p cks.length cap) ∧ ∀ (j : Nat) x, 0 ≤ j → cks[j]? = some x → CkAt w ow (23, r, j) x :=
  ⟨fun h0 => h.laid h0, h.shape, fun j x _ hx => h.ck j x hx⟩
/-- the range is read whole: its header struck -/
theorem P2.next {E : List Ed} {s nR N gr gs gf r c : Nat} {rv : List Value} {R : List (List Ck)} {sp : List Ck} {F : List Nat} {S : List Ed} {pv : Value} {pl : List Ck} {w : World} {ow : Ow}
    (h : P2 E s nR N gr gs gf r c rv R sp F S pv pl w ow) (hc : c ≤ (ofR E s r).length) :
    P2 E s nR N gr gs gf (r + 1) 0 (rv.set r (.slice none 0 0)) R sp F S pv pl (w.setCell ⟨gr, r, none⟩ (.slice none 0 0)) ow ∧ Step Q2 w ow (w.setCell ⟨gr, r, none⟩ (.slice none 0 0)) ow := by
  have st := h.ranges.stepset r (.slice none 0 0)
  refine ⟨⟨?_, by simpa using h.lenv, fun r' v cks hr hv hk => ?_, fun v cks hv hk => ?_, ?_, ?_, ?_, h.placed.step st (by simp) (fun j _ => by simp), h.full, h.lay⟩, st.mono fun q hq => by rw [hq]; simp [Q2]⟩
  · have := h.ranges.set r (.slice none 0 0)
    simpa using this
  · rw [List.getElem?_set_ne (by omega)] at hv
    exact (h.rows r' v cks (by omega) hv hk).step st (by simp) (fun j _ => by simp)
  · rw [List.getElem?_set_ne (by omega)] at hv
    exact ((h.rows (r + 1) v cks (by omega) hv hk).step st (by simp) (fun j _ => by simp)).cur
  · obtain ⟨sv, hs⟩ := h.spare
    exact ⟨sv, hs.step st (fun q hq e => by rw [e] at hq; simp [Sq] at hq)⟩
  · have := h.spk
    rw [Cnt.byR_succ, List.length_append]; omega
  · obtain ⟨X, hX⟩ := h.free
    exact ⟨X, hX.step st (by simp)⟩
/-- the beginning, out of the first pass's end -/
theorem P2.start {edges : Value} {parts : List Ck} {s nR N gr gl gs k : Nat} {rv : List Value} {R : List (List Ck)} {sp : List Ck} {Lf : List Nat} {w w' : World} {ow ow' : Ow} {Q : Pos → Prop} {E : List Ed}
    (h : P1 edges parts s nR gr gl gs k E rv R sp Lf (fun _ => 0) w ow) (hk : k ≤ 65536) (st : Step Q w ow w' ow') (hq : ∀ p : Pos, Q1 p → ¬ Q p) {gf : Nat} {F : List Nat} {X : List Value} (hf : At w' ow' (7, 0, 0) gf 3 (intsX F X)) :
    P2 E s nR N gr gs gf 0 0 rv R sp F [] (.slice none 0 0) [] w' ow' := by
  have h' := h.step st hq
  refine ⟨h'.ranges, h'.lenv, fun r' v cks _ hv hk => h'.rows r' v cks hv hk, fun v cks hv hk => (h'.rows 0 v cks hv hk).cur, h'.spare, by have := h'.spk; omega, ⟨X, hf⟩, Row.nil _ _ _ _, Full.nil _, Cnt.pl_start _ _ _⟩
end Go.Proofs.Qxb6601127a.Base
