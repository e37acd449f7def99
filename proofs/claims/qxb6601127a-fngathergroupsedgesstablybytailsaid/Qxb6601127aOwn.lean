/-
  WHO OWNS WHICH BLOCK: a ghost map from blocks to positions; chunks of edges, rows of chunks.
-/
import Derived.Test.Qxb6601127aHeap
import Derived.Deep.AppendLies
namespace Go.Proofs.Qxb6601127a.Base
open Go.ChangeShapes Go.WideShapes Go.ChangeAt Go.RowKit
open Cnt (Ed)

abbrev Pos := Nat × Nat × Nat
abbrev Ow := Nat → Pos
def upd (ow : Ow) (g : Nat) (p : Pos) : Ow := fun b => if b = g then p else ow b
theorem upd_self (ow : Ow) (g : Nat) (p : Pos) : upd ow g p g = p := by simp [upd]
theorem upd_other (ow : Ow) {g b : Nat} (p : Pos) (h : b ≠ g) : upd ow g p b = ow b := by simp [upd, h]
theorem upd_same {ow : Ow} {g : Nat} {p : Pos} (h : ow g = p) : upd ow g p = ow := by
  funext b; unfold upd; split
  · rename_i e; rw [e, h]
  · rfl
/-- only blocks at positions in Q have turned, or changed their position -/
structure Step (Q : Pos → Prop) (w : World) (ow : Ow) (w' : World) (ow' : Ow) : Prop where
  fr : Fr (fun b => Q (ow b)) w w'
  ow : ∀ b, b < w.heap.size → ¬ Q (ow b) → ow' b = ow b
theorem Step.refl (Q : Pos → Prop) (w : World) (ow : Ow) : Step Q w ow w ow := ⟨Fr.refl _ _, fun _ _ _ => rfl⟩
theorem Step.trans {Q : Pos → Prop} {a b c : World} {oa ob oc : Ow} (h : Step Q a oa b ob) (k : Step Q b ob c oc) : Step Q a oa c oc := by
  refine ⟨⟨k.fr.os.trans h.fr.os, k.fr.tape.trans h.fr.tape, k.fr.output.trans h.fr.output, Nat.le_trans h.fr.size k.fr.size, fun i hi hn => ?_⟩, fun i hi hn => ?_⟩
  · have e := h.ow i hi hn
    exact (k.fr.block i (Nat.lt_of_lt_of_le hi h.fr.size) (by show ¬ Q (ob i); rw [e]; exact hn)).trans (h.fr.block i hi hn)
  · have e := h.ow i hi hn
    exact (k.ow i (Nat.lt_of_lt_of_le hi h.fr.size) (by rw [e]; exact hn)).trans e
theorem Step.mono {Q Q' : Pos → Prop} {a b : World} {oa ob : Ow} (h : Step Q a oa b ob) (hq : ∀ p, Q p → Q' p) : Step Q' a oa b ob :=
  ⟨h.fr.mono fun _ _ => hq _, fun i hi hn => h.ow i hi fun hx => hn (hq _ hx)⟩
theorem Step.of_fr {Q : Pos → Prop} {S : Nat → Prop} {w w' : World} (h : Fr S w w') (ow : Ow) (hs : ∀ b, b < w.heap.size → S b → Q (ow b)) : Step Q w ow w' ow := ⟨h.mono hs, fun _ _ _ => rfl⟩
theorem Step.of_below {Q : Pos → Prop} {w w' : World} (h : Below w.heap.size w w') (ow : Ow) : Step Q w ow w' ow := ⟨Fr.of_below h, fun _ _ _ => rfl⟩
theorem Step.drewN {Q : Pos → Prop} {a w : World} {oa ow : Ow} (h : Step Q a oa w ow) (n : Nat) : Step Q a oa (w.drewN n) ow := h.trans (Step.of_below (below_drewN n) ow)
theorem Step.alloc {Q : Pos → Prop} {a w : World} {oa ow : Ow} (h : Step Q a oa w ow) (o : Obj) : Step Q a oa (w.alloc o) ow := h.trans (Step.of_below ((Below.refl _ _).alloc (Nat.le_refl _) _) ow)
/-- a new block gets its position; a block changes its position -/
theorem Step.own {Q : Pos → Prop} {a w : World} {oa ow : Ow} (h : Step Q a oa w ow) {g : Nat} (hg : a.heap.size ≤ g ∨ Q (oa g)) (p : Pos) : Step Q a oa w (upd ow g p) := by
  refine ⟨h.fr, fun b hb hn => ?_⟩
  rw [upd_other _ _ (by rintro rfl; rcases hg with hg | hg; omega; exact hn hg)]
  exact h.ow b hb hn

/-- block b, of position p, holds cs -/
def At (w : World) (ow : Ow) (p : Pos) (b t : Nat) (cs : Array Value) : Prop := ow b = p ∧ Has w b t cs
theorem At.has {w : World} {ow : Ow} {p : Pos} {b t : Nat} {cs : Array Value} (h : At w ow p b t cs) : Has w b t cs := h.2
theorem At.lt {w : World} {ow : Ow} {p : Pos} {b t : Nat} {cs : Array Value} (h : At w ow p b t cs) : b < w.heap.size := h.2.lt
theorem At.step {Q : Pos → Prop} {w w' : World} {ow ow' : Ow} {p : Pos} {b t : Nat} {cs : Array Value} (h : At w ow p b t cs) (k : Step Q w ow w' ow') (hq : ¬ Q p) : At w' ow' p b t cs := by
  have hb : ¬ Q (ow b) := by rw [h.1]; exact hq
  exact ⟨(k.ow b h.lt hb).trans h.1, h.2.fr k.fr hb⟩
theorem At.ne {w : World} {ow : Ow} {p p' : Pos} {b b' t t' : Nat} {cs cs' : Array Value} (h : At w ow p b t cs) (h' : At w ow p' b' t' cs') (hp : p ≠ p') : b ≠ b' := by
  rintro rfl; exact hp (h.1.symm.trans h'.1)
theorem At.set {w : World} {ow : Ow} {p : Pos} {b t : Nat} {cs : Array Value} (h : At w ow p b t cs) (j : Nat) (v : Value) : At (w.setCell ⟨b, j, none⟩ v) ow p b t (cs.setIfInBounds j v) := ⟨h.1, h.2.set j v⟩
theorem At.stepset {w : World} {ow : Ow} {p : Pos} {b t : Nat} {cs : Array Value} (h : At w ow p b t cs) (j : Nat) (v : Value) : Step (fun q => q = p) w ow (w.setCell ⟨b, j, none⟩ v) ow :=
  Step.of_fr (Fr.setCell w ⟨b, j, none⟩ v) ow (fun x _ hx => by rw [hx]; exact h.1)

/-! ### Chunks -/
structure Ck where
  g : Nat
  n : Nat
  c : Nat
  es : List Ed
def Ck.val (x : Ck) : Value := .slice (some ⟨x.g, 0, none⟩) x.n x.c
def Ck.got (x : Ck) : List Ed := x.es.take x.n
structure CkAt (w : World) (ow : Ow) (p : Pos) (x : Ck) : Prop where
  at' : At w ow p x.g 70 (ecells x.es)
  len : x.es.length = x.c
  le : x.n ≤ x.c
theorem CkAt.step {Q : Pos → Prop} {w w' : World} {ow ow' : Ow} {p : Pos} {x : Ck} (h : CkAt w ow p x) (k : Step Q w ow w' ow') (hq : ¬ Q p) : CkAt w' ow' p x := ⟨h.at'.step k hq, h.len, h.le⟩
theorem CkAt.relen {w : World} {ow : Ow} {p : Pos} {x : Ck} (h : CkAt w ow p x) (n : Nat) (hn : n ≤ x.c) : CkAt w ow p { x with n := n } := ⟨h.at', h.len, hn⟩
theorem CkAt.move {w : World} {ow : Ow} {p : Pos} {x : Ck} (h : CkAt w ow p x) (q : Pos) : CkAt w (upd ow x.g q) q x := ⟨⟨upd_self _ _ _, h.at'.2⟩, h.len, h.le⟩
theorem CkAt.edge {w : World} {ow : Ow} {p : Pos} {x : Ck} (h : CkAt w ow p x) {i : Nat} {e : Ed} (he : x.es[i]? = some e) : w.cell? ⟨x.g, i * 3, none⟩ = some (.int .i32 e.f) ∧ w.cell? ⟨x.g, i * 3 + 1, none⟩ = some (.int .i32 e.t) ∧ w.cell? ⟨x.g, i * 3 + 2, none⟩ = some (.int .u32 e.k) := by
  obtain ⟨a, b, c⟩ := ecells_at x.es i e he
  exact ⟨(h.at'.2.cell _).trans a, (h.at'.2.cell _).trans b, (h.at'.2.cell _).trans c⟩
theorem got_len {x : Ck} (h : x.es.length = x.c) (hn : x.n ≤ x.c) : x.got.length = x.n := by unfold Ck.got; rw [List.length_take]; omega
theorem got_at {x : Ck} {i : Nat} (hi : i < x.n) : x.got[i]? = x.es[i]? := by unfold Ck.got; rw [List.getElem?_take, if_pos hi]
theorem got_put (x : Ck) (e : Ed) (hl : x.es.length = x.c) (hn : x.n < x.c) : ({ x with n := x.n + 1, es := x.es.set x.n e } : Ck).got = x.got ++ [e] := by
  unfold Ck.got
  simp only
  rw [List.take_add_one, List.getElem?_set_self (by omega), List.take_set_of_le (by omega)]
  rfl
theorem setCells_three (w : World) (g n : Nat) (e : Ed) : w.setCells g (n * 3) (ecell e) = setE w g n e := by
  unfold setE ecell; simp [World.setCells]
theorem CkAt.put {w : World} {ow : Ow} {p : Pos} {x : Ck} (h : CkAt w ow p x) (n : Nat) (e : Ed) : CkAt (setE w x.g n e) ow p { x with es := x.es.set n e } :=
  ⟨⟨h.at'.1, h.at'.2.setE n e⟩, by simpa using h.len, h.le⟩
theorem CkAt.stepput {w : World} {ow : Ow} {p : Pos} {x : Ck} (h : CkAt w ow p x) (n : Nat) (e : Ed) : Step (fun q => q = p) w ow (setE w x.g n e) ow :=
  Step.of_fr (Fr.setE w x.g n e) ow (fun b _ hb => by rw [hb]; exact h.at'.1)

/-! ### Rows of chunks -/
structure Row (w : World) (ow : Ow) (hp : Pos) (cp : Nat → Pos) (v : Value) (cks : List Ck) : Prop where
  own : w.ownsRow 0 68 1 v cks.length (cks.map Ck.val)
  hd : ∀ g, v.ownBlock = some g → ow g = hp
  ck : ∀ (j : Nat) x, cks[j]? = some x → CkAt w ow (cp j) x
theorem Row.nil (w : World) (ow : Ow) (hp : Pos) (cp : Nat → Pos) : Row w ow hp cp (.slice none 0 0) [] := ⟨World.ownsRow_nil _ _ _ _, fun g h => by simp [Value.ownBlock] at h, fun j x h => by simp at h⟩
theorem owns_has {w w' : World} {base e size : Nat} {v : Value} {n : Nat} {xs : List Value} (h : w.ownsRow base e size v n xs) (k : ∀ g, v.ownBlock = some g → w'.heap[g]? = w.heap[g]?) : w'.ownsRow base e size v n xs := by
  refine ⟨h.1, ?_⟩
  rcases h.2 with ⟨a, b⟩ | ⟨g, cap, cur, h1, h2, h3, h4⟩
  · exact .inl ⟨a, b⟩
  · exact .inr ⟨g, cap, cur, h1, h2, (k g (by rw [h1]; rfl)).trans h3, h4⟩
theorem Row.step {Q : Pos → Prop} {w w' : World} {ow ow' : Ow} {hp : Pos} {cp : Nat → Pos} {v : Value} {cks : List Ck} (h : Row w ow hp cp v cks) (k : Step Q w ow w' ow') (hq : ¬ Q hp) (hc : ∀ j, j < cks.length → ¬ Q (cp j)) : Row w' ow' hp cp v cks := by
  refine ⟨owns_has h.own fun g hg => ?_, fun g hg => ?_, fun j x hx => (h.ck j x hx).step k (hc j (List.getElem?_eq_some_iff.1 hx).1)⟩
  · exact k.fr.block g (h.own.lt g hg).2 (by show ¬ Q (ow g); rw [h.hd g hg]; exact hq)
  · exact (k.ow g (h.own.lt g hg).2 (by rw [h.hd g hg]; exact hq)).trans (h.hd g hg)
theorem Row.shape {w : World} {ow : Ow} {hp : Pos} {cp : Nat → Pos} {v : Value} {cks : List Ck} (h : Row w ow hp cp v cks) : ∃ p cap, v = .slice p cks.length cap := by
  rcases h.own.2 with ⟨a, b⟩ | ⟨g, cap, cur, h1, _⟩
  · exact ⟨none, 0, by rw [a, b]⟩
  · exact ⟨_, _, h1⟩
structure Laid (w : World) (ow : Ow) (hp : Pos) (v : Value) (cks : List Ck) (g cap : Nat) : Prop where
  v : v = .slice (some ⟨g, 0, none⟩) cks.length cap
  ow : ow g = hp
  le : cks.length ≤ cap
  lt : g < w.heap.size
  cell : ∀ (j : Nat) x, cks[j]? = some x → w.cell? ⟨g, j, none⟩ = some x.val
  free : ∀ j, w.frozen? ⟨g, j, none⟩ = false
  has : ∃ cs, Has w g 68 cs ∧ cap ≤ maxLen ∧ cs.size = cap ∧ cs.toList.take cks.length = cks.map Ck.val
theorem Row.laid {w : World} {ow : Ow} {hp : Pos} {cp : Nat → Pos} {v : Value} {cks : List Ck} (h : Row w ow hp cp v cks) (h0 : 0 < cks.length) : ∃ g cap, Laid w ow hp v cks g cap := by
  rcases h.own.2 with ⟨a, b⟩ | ⟨g, cap, cur, h1, h2, h3, h4, h5, h6, h7⟩
  · omega
  · have hh : Has w g 68 cur := h3
    have h7' : cur.toList.take cks.length = cks.map Ck.val := by simpa using h7
    refine ⟨g, cap, h1, h.hd g (by rw [h1]; rfl), h4, hh.lt, fun j x hx => ?_, hh.free, cur, hh, h5, by simpa using h6, h7'⟩
    rw [hh.cell j]
    have hj := (List.getElem?_eq_some_iff.1 hx).1
    have : (cur.toList.take cks.length)[j]? = some x.val := by rw [h7', List.getElem?_map, hx]; rfl
    rw [List.getElem?_take, if_pos hj] at this
    simpa using this
/-- one more chunk, by append -/
theorem Row.append {w w' : World} {ow : Ow} {hp : Pos} {cp : Nat → Pos} {v : Value} {cks : List Ck} (h : Row w ow hp cp v cks) {x : Ck} (hx : CkAt w ow (cp cks.length) x) (hne : ∀ j, j ≤ cks.length → cp j ≠ hp)
    {g cap : Nat} (hown : w'.ownsRow 0 68 1 (.slice (some ⟨g, 0, none⟩) (cks.length + 1) cap) (cks.length + 1) (cks.map Ck.val ++ [x.val])) (hgrow : w.grownBy w' v.ownBlock) (hat : v.ownBlock = some g ∨ g = w.heap.size) :
    Row w' (upd ow g hp) hp cp (.slice (some ⟨g, 0, none⟩) (cks.length + 1) cap) (cks ++ [x]) ∧ Step (fun q => q = hp) w ow w' (upd ow g hp) := by
  have st : Step (fun q => q = hp) w ow w' (upd ow g hp) := by
    refine Step.own ⟨(Fr.grown hgrow).mono fun b _ hb => h.hd b hb, fun _ _ _ => rfl⟩ ?_ _
    rcases hat with e | e
    · exact .inr (h.hd g e)
    · exact .inl (by omega)
  refine ⟨⟨by simpa using hown, fun g' hg' => ?_, fun j y hy => ?_⟩, st⟩
  · simp [Value.ownBlock] at hg'; rw [← hg']; exact upd_self _ _ _
  · by_cases hj : j < cks.length
    · rw [List.getElem?_append_left hj] at hy
      exact (h.ck j y hy).step st (hne j (by omega))
    · have hj' : j = cks.length := by
        have := (List.getElem?_eq_some_iff.1 hy).1
        simp at this; omega
      subst hj'
      simp at hy
      subst hy
      exact hx.step st (hne cks.length (Nat.le_refl _))
/-- a chunk's header laid anew -/
theorem Row.reset {w : World} {ow : Ow} {hp : Pos} {cp : Nat → Pos} {v : Value} {cks : List Ck} (h : Row w ow hp cp v cks) {g cap : Nat} (hl : Laid w ow hp v cks g cap) {j : Nat} (hj : j < cks.length) {x : Ck} (hx : CkAt w ow (cp j) x) (hne : ∀ j, j < cks.length → cp j ≠ hp) :
    Row (w.setCell ⟨g, j, none⟩ x.val) ow hp cp v (cks.set j x) ∧ Step (fun q => q = hp) w ow (w.setCell ⟨g, j, none⟩ x.val) ow := by
  have st : Step (fun q => q = hp) w ow (w.setCell ⟨g, j, none⟩ x.val) ow := Step.of_fr (Fr.setCell w ⟨g, j, none⟩ _) ow (fun b _ hb => by rw [hb]; exact hl.ow)
  obtain ⟨cs, h1, h2, h3, h4⟩ := hl.has
  refine ⟨⟨⟨by simp, .inr ⟨g, cap, cs.setIfInBounds j x.val, by rw [hl.v]; simp, Nat.zero_le _, h1.set j _, by simpa using hl.le, h2, by simpa using h3, ?_⟩⟩, h.hd, fun i y hy => ?_⟩, st⟩
  · simp only [List.length_set, Nat.mul_one, Array.toList_setIfInBounds]
    rw [List.take_set, h4, List.map_set]
  · by_cases hi : i = j
    · subst hi
      rw [List.getElem?_set_self hj] at hy; cases hy
      exact hx.step st (hne _ hj)
    · rw [List.getElem?_set_ne (by omega)] at hy
      exact (h.ck i y hy).step st (hne i (List.getElem?_eq_some_iff.1 hy).1)
/-- the last chunk taken off -/
theorem Row.shrink {w : World} {ow : Ow} {hp : Pos} {cp : Nat → Pos} {v : Value} {cks : List Ck} {x : Ck} (h : Row w ow hp cp v (cks ++ [x])) {g cap : Nat} (hl : Laid w ow hp v (cks ++ [x]) g cap) :
    Row w ow hp cp (.slice (some ⟨g, 0, none⟩) cks.length cap) cks := by
  obtain ⟨cs, h1, h2, h3, h4⟩ := hl.has
  have hle := hl.le
  simp at hle
  refine ⟨⟨by simp, .inr ⟨g, cap, cs, rfl, Nat.zero_le _, h1, by omega, h2, by simpa using h3, ?_⟩⟩, fun g' hg' => ?_, fun j y hy => h.ck j y ?_⟩
  · have : (cs.toList.take (cks ++ [x]).length).take cks.length = ((cks ++ [x]).map Ck.val).take cks.length := by rw [h4]
    rw [List.take_take] at this
    simp at this ⊢
    exact this
  · simp [Value.ownBlock] at hg'; rw [← hg']; exact hl.ow
  · rw [List.getElem?_append_left (List.getElem?_eq_some_iff.1 hy).1]; exact hy
end Go.Proofs.Qxb6601127a.Base
