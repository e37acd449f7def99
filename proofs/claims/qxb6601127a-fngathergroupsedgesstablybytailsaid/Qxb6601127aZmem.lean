/-
  ZZGather (22), in memory: the parts laid, the answer's rows.
-/
import Derived.Test.Qxb6601127aPtwo
import Derived.Test.Qxb6601127aGdef
namespace Go.Proofs.Qxb6601127a.Base
open Go.ChangeShapes Go.WideShapes Go.ChangeAt Go.RowKit
open Cnt (Ed psum cum)

/-! ### The edges handed in -/
def edg (F T K : List Int) : List Ed := (List.range F.length).map fun i => ⟨F.getD i 0, T.getD i 0, K.getD i 0⟩
theorem edg_len (F T K : List Int) : (edg F T K).length = F.length := by simp [edg]
theorem edg_at (F T K : List Int) (i : Nat) (h : i < F.length) : (edg F T K)[i]? = some ⟨F.getD i 0, T.getD i 0, K.getD i 0⟩ := by
  unfold edg; rw [List.getElem?_map, List.getElem?_range h]; rfl
theorem map_getD (n : Nat) (L : List Int) (h : L.length = n) : (List.range n).map (fun i => L.getD i 0) = L := by
  apply List.ext_getElem?
  intro i
  by_cases hi : i < n
  · rw [List.getElem?_map, List.getElem?_range hi, Option.map_some, List.getD_eq_getElem?_getD, List.getElem?_eq_getElem (by omega)]; rfl
  · rw [List.getElem?_eq_none (by simp; omega), List.getElem?_eq_none (by omega)]
theorem edg_f (F T K : List Int) : (edg F T K).map Ed.f = F := by
  unfold edg; rw [List.map_map]; exact map_getD F.length F rfl
theorem edg_t (F T K : List Int) (h : T.length = F.length) : (edg F T K).map Ed.t = T := by
  unfold edg; rw [List.map_map]; exact map_getD F.length T h
theorem edg_k (F T K : List Int) (h : K.length = F.length) : (edg F T K).map Ed.k = K := by
  unfold edg; rw [List.map_map]; exact map_getD F.length K h

/-! ### Rows of plain values -/
structure ORow (w : World) (ow : Ow) (hp : Pos) (t : Nat) (v : Value) (xs : List Value) : Prop where
  own : w.ownsRow 0 t 1 v xs.length xs
  hd : ∀ g, v.ownBlock = some g → ow g = hp
theorem ORow.step {Q : Pos → Prop} {w w' : World} {ow ow' : Ow} {hp : Pos} {t : Nat} {v : Value} {xs : List Value} (h : ORow w ow hp t v xs) (k : Step Q w ow w' ow') (hq : ¬ Q hp) : ORow w' ow' hp t v xs := by
  refine ⟨owns_has h.own fun g hg => ?_, fun g hg => ?_⟩
  · exact k.fr.block g (h.own.lt g hg).2 (by show ¬ Q (ow g); rw [h.hd g hg]; exact hq)
  · exact (k.ow g (h.own.lt g hg).2 (by rw [h.hd g hg]; exact hq)).trans (h.hd g hg)
theorem ORow.shape {w : World} {ow : Ow} {hp : Pos} {t : Nat} {v : Value} {xs : List Value} (h : ORow w ow hp t v xs) : ∃ p cap, v = .slice p xs.length cap := by
  rcases h.own.2 with ⟨a, b⟩ | ⟨g, cap, cur, h1, _⟩
  · exact ⟨none, 0, by rw [a, b]⟩
  · exact ⟨_, _, h1⟩
theorem ORow.new (w : World) (ow : Ow) (hp : Pos) (t : Nat) : ORow (w.alloc (.cells #[] t)) (upd ow w.heap.size hp) hp t (.slice (some ⟨w.heap.size, 0, none⟩) 0 0) [] :=
  ⟨World.ownsRow_made w #[] 0 (Nat.zero_le _) (Nat.zero_le _) rfl, fun g hg => by simp [Value.ownBlock] at hg; rw [← hg]; exact upd_self _ _ _⟩
theorem ORow.append {w w' : World} {ow : Ow} {hp : Pos} {t : Nat} {v x : Value} {xs : List Value} (h : ORow w ow hp t v xs)
    {g cap : Nat} (hown : w'.ownsRow 0 t 1 (.slice (some ⟨g, 0, none⟩) (xs.length + 1) cap) (xs.length + 1) (xs ++ [x])) (hgrow : w.grownBy w' v.ownBlock) (hat : v.ownBlock = some g ∨ g = w.heap.size) :
    ORow w' (upd ow g hp) hp t (.slice (some ⟨g, 0, none⟩) (xs.length + 1) cap) (xs ++ [x]) ∧ Step (fun q => q = hp) w ow w' (upd ow g hp) := by
  have st : Step (fun q => q = hp) w ow w' (upd ow g hp) := by
    refine Step.own ⟨(Fr.grown hgrow).mono fun b _ hb => h.hd b hb, fun _ _ _ => rfl⟩ ?_ _
    rcases hat with e | e
    · exact .inr (h.hd g e)
    · exact .inl (by omega)
  refine ⟨⟨by simpa using hown, fun g' hg' => ?_⟩, st⟩
  simp [Value.ownBlock] at hg'; rw [← hg']; exact upd_self _ _ _
theorem ORow.is {w : World} {ow : Ow} {hp : Pos} {t : Nat} {v : Value} {k : IntKind} {zs : List Int} (h : ORow w ow hp t v (cellsOf k zs)) : ∃ s : IS, v = s.val ∧ s.zs = zs ∧ IS.Ok k w s := by
  have hl : (cellsOf k zs).length = zs.length := by simp [cellsOf]
  rcases h.own.2 with ⟨a, b⟩ | ⟨g, cap, cur, h1, h2, h3, h4, h5, h6, h7⟩
  · rw [hl] at b
    have hz : zs = [] := List.length_eq_zero_iff.1 b
    subst hz
    exact ⟨⟨none, 0, []⟩, a, rfl, fun hn => absurd hn (by simp), Nat.zero_le _⟩
  · rw [hl] at h1 h4 h7
    refine ⟨⟨some ⟨g, 0, none⟩, cap, zs⟩, h1, rfl, fun _ => ⟨g, 0, rfl, fun i z hz => ?_⟩, by show zs.length ≤ maxLen; omega⟩
    have hh : Has w g t cur := h3
    rw [hh.cell, Nat.zero_add]
    have hi := (List.getElem?_eq_some_iff.1 hz).1
    have : (cur.toList.take zs.length)[i]? = some (.int k z) := by
      rw [Nat.mul_one] at h7
      rw [h7]; unfold cellsOf; rw [List.getElem?_map, hz]; rfl
    rw [List.getElem?_take, if_pos hi] at this
    simpa using this

/-! ### The parts -/
def now0 : Ow := fun _ => (0, 0, 0)
/-- the graph's block -/
def gcells (N : Nat) (ev sv : Value) (r5 : Array Value) : Array Value := #[r5[0]!, .int .i64 N, r5[1]!, ev, sv, r5[2]!, r5[3]!, r5[4]!]
structure ZB (w0 : World) (N : Nat) (E : List Ed) (lens : List Nat) (bg : Nat) (sv : Value) (r5 : Array Value) (j : Nat) (ev : Value) (cks : List Ck) (w : World) (ow : Ow) : Prop where
  st : Step QA w0 now0 w ow
  gr : At w ow (2, 0, 0) bg 67 (gcells N ev sv r5)
  row : Row w ow (10, 0, 0) (fun k => (20, 0, k)) ev cks
  len : cks.length = j
  ns : ∀ (k : Nat) x, cks[k]? = some x → lens[k]? = some x.n ∧ x.c = x.n
  got : gots cks = E.take (lens.take j).sum
theorem ZB.step {w0 w w' : World} {N bg j : Nat} {E : List Ed} {lens : List Nat} {ev sv : Value} {r5 : Array Value} {cks : List Ck} {ow ow' : Ow} {Q : Pos → Prop} (h : ZB w0 N E lens bg sv r5 j ev cks w ow) (k : Step Q w ow w' ow') (k2 : Step QA w ow w' ow') (h1 : ¬ Q (2, 0, 0)) (h2 : ¬ Q (10, 0, 0)) (h3 : ∀ i, i < j → ¬ Q (20, 0, i)) :
    ZB w0 N E lens bg sv r5 j ev cks w' ow' := ⟨h.st.trans k2, h.gr.step k h1, h.row.step k h2 (fun i hi => h3 i (by rw [← h.len]; exact hi)), h.len, h.ns, h.got⟩
def fillE (E : List Ed) (p n i : Nat) : List Ed := (E.drop p).take i ++ List.replicate (n - i) ⟨0, 0, 0⟩
theorem fill_zero (E : List Ed) (p n : Nat) : fillE E p n 0 = List.replicate n ⟨0, 0, 0⟩ := by simp [fillE]
theorem fill_len {E : List Ed} {p n i : Nat} (h : p + n ≤ E.length) (hi : i ≤ n) : (fillE E p n i).length = n := by simp [fillE]; omega
theorem fill_next {E : List Ed} {p n i : Nat} {e : Ed} (h : p + n ≤ E.length) (hi : i < n) (he : E[p + i]? = some e) : (fillE E p n i).set i e = fillE E p n (i + 1) := by
  unfold fillE
  have h1 : ((E.drop p).take i).length = i := by simp; omega
  rw [List.set_append_right _ _ (by omega), h1, Nat.sub_self, show n - i = (n - (i + 1)) + 1 from by omega, List.replicate_succ, List.set_cons_zero, List.take_add_one, List.getElem?_drop, he]
  simp
theorem fill_full (E : List Ed) (p n : Nat) : fillE E p n n = (E.drop p).take n := by simp [fillE]
/-- in the midst of part j: i edges laid -/
structure ZI (w0 : World) (N : Nat) (E : List Ed) (lens : List Nat) (bg : Nat) (sv : Value) (r5 : Array Value) (j : Nat) (ev : Value) (cks : List Ck) (g p n i : Nat) (w : World) (ow : Ow) : Prop where
  zb : ZB w0 N E lens bg sv r5 j ev cks w ow
  part : At w ow (20, 0, j) g 70 (ecells (fillE E p n i))
theorem ZI.new {w0 w : World} {N bg j : Nat} {E : List Ed} {lens : List Nat} {ev sv : Value} {r5 : Array Value} {cks : List Ck} {ow : Ow} (h : ZB w0 N E lens bg sv r5 j ev cks w ow) (p n : Nat) :
    ZI w0 N E lens bg sv r5 j ev cks w.heap.size p n 0 (w.alloc (.cells (ecells (List.replicate n ⟨0, 0, 0⟩)) 70)) (upd ow w.heap.size (20, 0, j)) := by
  have st : ∀ Q : Pos → Prop, Step Q w ow (w.alloc (.cells (ecells (List.replicate n ⟨0, 0, 0⟩)) 70)) (upd ow w.heap.size (20, 0, j)) := fun Q => ((Step.refl Q w ow).alloc _).own (.inl (Nat.le_refl _)) _
  refine ⟨h.step (st fun _ => False) (st QA) (fun h => h) (fun h => h) (fun _ _ h => h), upd_self _ _ _, ?_⟩
  rw [fill_zero]; exact has_new _ _ _
theorem ZI.put {w0 w : World} {N bg j g p n i : Nat} {E : List Ed} {lens : List Nat} {ev sv : Value} {r5 : Array Value} {cks : List Ck} {ow : Ow} {e : Ed} (h : ZI w0 N E lens bg sv r5 j ev cks g p n i w ow) (hp : p + n ≤ E.length) (hi : i < n) (he : E[p + i]? = some e) (q : Nat) :
    ZI w0 N E lens bg sv r5 j ev cks g p n (i + 1) (setE (w.drewN q) g i e) ow := by
  have sd : ∀ Q : Pos → Prop, Step Q w ow (w.drewN q) ow := fun Q => (Step.refl Q w ow).drewN q
  have hpt := h.part.step (sd fun _ => False) (fun h => h)
  have st : Step (fun x => x = (20, 0, j)) (w.drewN q) ow (setE (w.drewN q) g i e) ow := Step.of_fr (Fr.setE _ g i e) ow (fun b _ hb => by rw [hb]; exact hpt.1)
  have st2 := (sd _).trans st
  refine ⟨h.zb.step st2 (st2.mono fun x hx => by rw [hx]; simp [QA]) (by simp) (by simp) (fun k hk => by simp; omega), hpt.1, ?_⟩
  rw [← fill_next hp hi he]; exact hpt.2.setE i e
theorem sum_take_succ {lens : List Nat} {j n : Nat} (h : lens[j]? = some n) : (lens.take (j + 1)).sum = (lens.take j).sum + n := by
  rw [List.take_add_one, h]; simp
theorem sum_le {lens : List Nat} (j : Nat) : (lens.take j).sum ≤ lens.sum := by
  have h : lens.sum = (lens.take j).sum + (lens.drop j).sum := by rw [← List.sum_append, List.take_append_drop]
  omega
/-- the part appended to the graph's edges -/
theorem ZI.push {w0 w W'' w1 : World} {N bg j g n : Nat} {E : List Ed} {lens : List Nat} {ev sv : Value} {r5 : Array Value} {cks : List Ck} {ow : Ow} (h : ZI w0 N E lens bg sv r5 j ev cks g (lens.take j).sum n n w ow) (hn : lens[j]? = some n) (hp : (lens.take j).sum + n ≤ E.length)
    (stW : ∀ Q : Pos → Prop, Step Q w ow W'' ow) {g1 cap : Nat} (hown : w1.ownsRow 0 68 1 (.slice (some ⟨g1, 0, none⟩) (j + 1) cap) (j + 1) (cks.map Ck.val ++ [.slice (some ⟨g, 0, none⟩) n n])) (hgrow : W''.grownBy w1 ev.ownBlock) (hat : ev.ownBlock = some g1 ∨ g1 = W''.heap.size) :
    ∃ cks' ow1, ZB w0 N E lens bg sv r5 (j + 1) (.slice (some ⟨g1, 0, none⟩) (j + 1) cap) cks' (w1.setCell ⟨bg, 3, none⟩ (.slice (some ⟨g1, 0, none⟩) (j + 1) cap)) ow1 := by
  have hl := h.zb.len
  have hx : CkAt w ow (20, 0, j) ⟨g, n, n, fillE E (lens.take j).sum n n⟩ := ⟨h.part, fill_len hp (Nat.le_refl _), Nat.le_refl _⟩
  have sf := stW fun _ => False
  have hx1 := hx.step sf (fun h => h)
  have hrow := h.zb.row.step sf (fun h => h) (fun _ _ h => h)
  subst hl
  obtain ⟨hR, stA⟩ := hrow.append hx1 (fun k _ => by simp) hown hgrow hat
  have hg1 := (h.zb.gr.step sf (fun h => h)).step stA (by simp)
  have hg2 := hg1.set 3 (.slice (some ⟨g1, 0, none⟩) (cks.length + 1) cap)
  have stS := hg1.stepset 3 (.slice (some ⟨g1, 0, none⟩) (cks.length + 1) cap)
  have st3 : Step QA w ow (w1.setCell ⟨bg, 3, none⟩ (.slice (some ⟨g1, 0, none⟩) (cks.length + 1) cap)) (upd ow g1 (10, 0, 0)) := ((stW QA).trans (stA.mono fun p hp => by rw [hp]; simp [QA])).trans (stS.mono fun p hp => by rw [hp]; simp [QA])
  refine ⟨_, upd ow g1 (10, 0, 0), h.zb.st.trans st3, by simpa [gcells] using hg2, hR.step stS (by simp) (fun k _ => by simp), by simp, fun k x hk => ?_, ?_⟩
  · by_cases h1 : k < cks.length
    · rw [List.getElem?_append_left h1] at hk; exact h.zb.ns k x hk
    · have := (List.getElem?_eq_some_iff.1 hk).1
      simp at this
      obtain rfl : k = cks.length := by omega
      simp at hk; subst hk; exact ⟨hn, rfl⟩
  · rw [gots_append, gots_one, h.zb.got, sum_take_succ hn, List.take_add]
    congr 1
    unfold Ck.got
    simp only [fill_full]
    exact List.take_of_length_le (by simp; omega)

/-! ### The answer -/
structure ZO (w0 : World) (bg : Nat) (gc : Array Value) (P : Nat → Array Value → Prop) (a b : Nat) (ev : Value) (cks : List Ck) (z1 z2 z3 z4 : List Int) (v1 v2 v3 v4 : Value) (w : World) (ow : Ow) : Prop where
  st : Step QA w0 now0 w ow
  gr : At w ow (2, 0, 0) bg 67 gc
  sta : ∀ g cs, P g cs → At w ow (3, 0, 0) g 3 cs
  row : Row w ow (a, 0, 0) (fun k => (b, 0, k)) ev cks
  ha : a < 30
  hb : b < 30
  o1 : ORow w ow (30, 0, 0) 21 v1 (cellsOf .i32 z1)
  o2 : ORow w ow (31, 0, 0) 21 v2 (cellsOf .i32 z2)
  o3 : ORow w ow (32, 0, 0) 46 v3 (cellsOf .u32 z3)
  o4 : ORow w ow (33, 0, 0) 3 v4 (cellsOf .i64 z4)
theorem ZO.step {w0 w w' : World} {bg : Nat} {gc : Array Value} {P : Nat → Array Value → Prop} {a b : Nat} {ev : Value} {cks : List Ck} {z1 z2 z3 z4 : List Int} {v1 v2 v3 v4 : Value} {ow ow' : Ow}
    (h : ZO w0 bg gc P a b ev cks z1 z2 z3 z4 v1 v2 v3 v4 w ow) (k : ∀ Q : Pos → Prop, Step Q w ow w' ow') : ZO w0 bg gc P a b ev cks z1 z2 z3 z4 v1 v2 v3 v4 w' ow' := by
  have sf := k fun _ => False
  exact ⟨h.st.trans (k QA), h.gr.step sf (fun h => h), fun g cs hp => (h.sta g cs hp).step sf (fun h => h), h.row.step sf (fun h => h) (fun _ _ h => h), h.ha, h.hb, h.o1.step sf (fun h => h), h.o2.step sf (fun h => h), h.o3.step sf (fun h => h), h.o4.step sf (fun h => h)⟩
theorem cellsOf_snoc (k : IntKind) (zs : List Int) (z : Int) : cellsOf k (zs ++ [z]) = cellsOf k zs ++ [.int k z] := by simp [cellsOf]
theorem cellsOf_len (k : IntKind) (zs : List Int) : (cellsOf k zs).length = zs.length := by simp [cellsOf]
theorem ZO.ap1 {w0 w w1 : World} {bg : Nat} {gc : Array Value} {P : Nat → Array Value → Prop} {a b : Nat} {ev : Value} {cks : List Ck} {z1 z2 z3 z4 : List Int} {v1 v2 v3 v4 : Value} {ow : Ow}
    (h : ZO w0 bg gc P a b ev cks z1 z2 z3 z4 v1 v2 v3 v4 w ow) (o : Obj) {z : Int} {g cap : Nat} (hown : w1.ownsRow 0 21 1 (.slice (some ⟨g, 0, none⟩) (z1.length + 1) cap) (z1.length + 1) (cellsOf .i32 z1 ++ [.int .i32 z])) (hgrow : (w.alloc o).grownBy w1 v1.ownBlock) (hat : v1.ownBlock = some g ∨ g = w.heap.size + 1) :
    ∃ ow1, ZO w0 bg gc P a b ev cks (z1 ++ [z]) z2 z3 z4 (.slice (some ⟨g, 0, none⟩) (z1.length + 1) cap) v2 v3 v4 w1 ow1 ∧ Step (fun p => p = (30, 0, 0)) w ow w1 ow1 := by
  have sA : ∀ Q : Pos → Prop, Step Q w ow (w.alloc o) ow := fun Q => (Step.refl Q w ow).alloc o
  have sf := sA fun _ => False
  have hl := cellsOf_len .i32 z1
  obtain ⟨hR, st⟩ := (h.o1.step sf (fun h => h)).append (by rw [hl]; exact hown) hgrow (by simpa using hat)
  have hR' : ORow w1 (upd ow g (30, 0, 0)) (30, 0, 0) 21 (.slice (some ⟨g, 0, none⟩) (z1.length + 1) cap) (cellsOf .i32 (z1 ++ [z])) := by
    rw [cellsOf_snoc]; rw [hl] at hR; exact hR
  have ha := h.ha
  have hb := h.hb
  exact ⟨upd ow g (30, 0, 0), ⟨(h.st.trans (sA QA)).trans (st.mono fun p hp => by rw [hp]; simp [QA]), (h.gr.step sf (fun h => h)).step st (by simp), fun g cs hp => ((h.sta g cs hp).step sf (fun h => h)).step st (by simp), (h.row.step sf (fun h => h) (fun _ _ h => h)).step st (by simp; omega) (fun j _ => by simp; omega), ha, hb, hR', (h.o2.step sf (fun h => h)).step st (by simp), (h.o3.step sf (fun h => h)).step st (by simp), (h.o4.step sf (fun h => h)).step st (by simp)⟩, (sA _).trans st⟩
theorem ZO.ap2 {w0 w w1 : World} {bg : Nat} {gc : Array Value} {P : Nat → Array Value → Prop} {a b : Nat} {ev : Value} {cks : List Ck} {z1 z2 z3 z4 : List Int} {v1 v2 v3 v4 : Value} {ow : Ow}
    (h : ZO w0 bg gc P a b ev cks z1 z2 z3 z4 v1 v2 v3 v4 w ow) (o : Obj) {z : Int} {g cap : Nat} (hown : w1.ownsRow 0 21 1 (.slice (some ⟨g, 0, none⟩) (z2.length + 1) cap) (z2.length + 1) (cellsOf .i32 z2 ++ [.int .i32 z])) (hgrow : (w.alloc o).grownBy w1 v2.ownBlock) (hat : v2.ownBlock = some g ∨ g = w.heap.size + 1) :
    ∃ ow1, ZO w0 bg gc P a b ev cks z1 (z2 ++ [z]) z3 z4 v1 (.slice (some ⟨g, 0, none⟩) (z2.length + 1) cap) v3 v4 w1 ow1 ∧ Step (fun p => p = (31, 0, 0)) w ow w1 ow1 := by
  have sA : ∀ Q : Pos → Prop, Step Q w ow (w.alloc o) ow := fun Q => (Step.refl Q w ow).alloc o
  have sf := sA fun _ => False
  have hl := cellsOf_len .i32 z2
  obtain ⟨hR, st⟩ := (h.o2.step sf (fun h => h)).append (by rw [hl]; exact hown) hgrow (by simpa using hat)
  have hR' : ORow w1 (upd ow g (31, 0, 0)) (31, 0, 0) 21 (.slice (some ⟨g, 0, none⟩) (z2.length + 1) cap) (cellsOf .i32 (z2 ++ [z])) := by
    rw [cellsOf_snoc]; rw [hl] at hR; exact hR
  have ha := h.ha
  have hb := h.hb
  exact ⟨upd ow g (31, 0, 0), ⟨(h.st.trans (sA QA)).trans (st.mono fun p hp => by rw [hp]; simp [QA]), (h.gr.step sf (fun h => h)).step st (by simp), fun g cs hp => ((h.sta g cs hp).step sf (fun h => h)).step st (by simp), (h.row.step sf (fun h => h) (fun _ _ h => h)).step st (by simp; omega) (fun j _ => by simp; omega), ha, hb, (h.o1.step sf (fun h => h)).step st (by simp), hR', (h.o3.step sf (fun h => h)).step st (by simp), (h.o4.step sf (fun h => h)).step st (by simp)⟩, (sA _).trans st⟩
theorem ZO.ap3 {w0 w w1 : World} {bg : Nat} {gc : Array Value} {P : Nat → Array Value → Prop} {a b : Nat} {ev : Value} {cks : List Ck} {z1 z2 z3 z4 : List Int} {v1 v2 v3 v4 : Value} {ow : Ow}
    (h : ZO w0 bg gc P a b ev cks z1 z2 z3 z4 v1 v2 v3 v4 w ow) (o : Obj) {z : Int} {g cap : Nat} (hown : w1.ownsRow 0 46 1 (.slice (some ⟨g, 0, none⟩) (z3.length + 1) cap) (z3.length + 1) (cellsOf .u32 z3 ++ [.int .u32 z])) (hgrow : (w.alloc o).grownBy w1 v3.ownBlock) (hat : v3.ownBlock = some g ∨ g = w.heap.size + 1) :
    ∃ ow1, ZO w0 bg gc P a b ev cks z1 z2 (z3 ++ [z]) z4 v1 v2 (.slice (some ⟨g, 0, none⟩) (z3.length + 1) cap) v4 w1 ow1 ∧ Step (fun p => p = (32, 0, 0)) w ow w1 ow1 := by
  have sA : ∀ Q : Pos → Prop, Step Q w ow (w.alloc o) ow := fun Q => (Step.refl Q w ow).alloc o
  have sf := sA fun _ => False
  have hl := cellsOf_len .u32 z3
  obtain ⟨hR, st⟩ := (h.o3.step sf (fun h => h)).append (by rw [hl]; exact hown) hgrow (by simpa using hat)
  have hR' : ORow w1 (upd ow g (32, 0, 0)) (32, 0, 0) 46 (.slice (some ⟨g, 0, none⟩) (z3.length + 1) cap) (cellsOf .u32 (z3 ++ [z])) := by
    rw [cellsOf_snoc]; rw [hl] at hR; exact hR
  have ha := h.ha
  have hb := h.hb
  exact ⟨upd ow g (32, 0, 0), ⟨(h.st.trans (sA QA)).trans (st.mono fun p hp => by rw [hp]; simp [QA]), (h.gr.step sf (fun h => h)).step st (by simp), fun g cs hp => ((h.sta g cs hp).step sf (fun h => h)).step st (by simp), (h.row.step sf (fun h => h) (fun _ _ h => h)).step st (by simp; omega) (fun j _ => by simp; omega), ha, hb, (h.o1.step sf (fun h => h)).step st (by simp), (h.o2.step sf (fun h => h)).step st (by simp), hR', (h.o4.step sf (fun h => h)).step st (by simp)⟩, (sA _).trans st⟩
theorem ZO.ap4 {w0 w w1 : World} {bg : Nat} {gc : Array Value} {P : Nat → Array Value → Prop} {a b : Nat} {ev : Value} {cks : List Ck} {z1 z2 z3 z4 : List Int} {v1 v2 v3 v4 : Value} {ow : Ow}
    (h : ZO w0 bg gc P a b ev cks z1 z2 z3 z4 v1 v2 v3 v4 w ow) (o : Obj) {z : Int} {g cap : Nat} (hown : w1.ownsRow 0 3 1 (.slice (some ⟨g, 0, none⟩) (z4.length + 1) cap) (z4.length + 1) (cellsOf .i64 z4 ++ [.int .i64 z])) (hgrow : (w.alloc o).grownBy w1 v4.ownBlock) (hat : v4.ownBlock = some g ∨ g = w.heap.size + 1) :
    ∃ ow1, ZO w0 bg gc P a b ev cks z1 z2 z3 (z4 ++ [z]) v1 v2 v3 (.slice (some ⟨g, 0, none⟩) (z4.length + 1) cap) w1 ow1 ∧ Step (fun p => p = (33, 0, 0)) w ow w1 ow1 := by
  have sA : ∀ Q : Pos → Prop, Step Q w ow (w.alloc o) ow := fun Q => (Step.refl Q w ow).alloc o
  have sf := sA fun _ => False
  have hl := cellsOf_len .i64 z4
  obtain ⟨hR, st⟩ := (h.o4.step sf (fun h => h)).append (by rw [hl]; exact hown) hgrow (by simpa using hat)
  have hR' : ORow w1 (upd ow g (33, 0, 0)) (33, 0, 0) 3 (.slice (some ⟨g, 0, none⟩) (z4.length + 1) cap) (cellsOf .i64 (z4 ++ [z])) := by
    rw [cellsOf_snoc]; rw [hl] at hR; exact hR
  have ha := h.ha
  have hb := h.hb
  exact ⟨upd ow g (33, 0, 0), ⟨(h.st.trans (sA QA)).trans (st.mono fun p hp => by rw [hp]; simp [QA]), (h.gr.step sf (fun h => h)).step st (by simp), fun g cs hp => ((h.sta g cs hp).step sf (fun h => h)).step st (by simp), (h.row.step sf (fun h => h) (fun _ _ h => h)).step st (by simp; omega) (fun j _ => by simp; omega), ha, hb, (h.o1.step sf (fun h => h)).step st (by simp), (h.o2.step sf (fun h => h)).step st (by simp), (h.o3.step sf (fun h => h)).step st (by simp), hR'⟩, (sA _).trans st⟩
/-- the four rows, empty -/
theorem ZO.new {w0 w : World} {bg : Nat} {gc : Array Value} {P : Nat → Array Value → Prop} {a b : Nat} {ev : Value} {cks : List Ck} {ow : Ow} (st : Step QA w0 now0 w ow) (gr : At w ow (2, 0, 0) bg 67 gc) (sta : ∀ g cs, P g cs → At w ow (3, 0, 0) g 3 cs) (row : Row w ow (a, 0, 0) (fun k => (b, 0, k)) ev cks) (ha : a < 30) (hb : b < 30) :
    ∃ ow', ZO w0 bg gc P a b ev cks [] [] [] [] (.slice (some ⟨w.heap.size, 0, none⟩) 0 0) (.slice (some ⟨w.heap.size + 1, 0, none⟩) 0 0) (.slice (some ⟨w.heap.size + 2, 0, none⟩) 0 0) (.slice (some ⟨w.heap.size + 3, 0, none⟩) 0 0) ((((w.alloc (.cells #[] 21)).alloc (.cells #[] 21)).alloc (.cells #[] 46)).alloc (.cells #[] 3)) ow' := by
  have n1 := ORow.new w ow (30, 0, 0) 21
  have s1 : ∀ Q : Pos → Prop, Step Q w ow (w.alloc (.cells #[] 21)) (upd ow w.heap.size (30, 0, 0)) := fun Q => ((Step.refl Q w ow).alloc _).own (.inl (Nat.le_refl _)) _
  generalize upd ow w.heap.size (30, 0, 0) = ow1 at n1 s1
  have e1 : (w.alloc (.cells #[] 21)).heap.size = w.heap.size + 1 := by simp
  have n2 := ORow.new (w.alloc (.cells #[] 21)) ow1 (31, 0, 0) 21
  have s2 : ∀ Q : Pos → Prop, Step Q (w.alloc (.cells #[] 21)) ow1 ((w.alloc (.cells #[] 21)).alloc (.cells #[] 21)) (upd ow1 (w.alloc (.cells #[] 21)).heap.size (31, 0, 0)) := fun Q => ((Step.refl Q _ _).alloc _).own (.inl (Nat.le_refl _)) _
  rw [e1] at n2 s2
  generalize upd ow1 (w.heap.size + 1) (31, 0, 0) = ow2 at n2 s2
  have e2 : ((w.alloc (.cells #[] 21)).alloc (.cells #[] 21)).heap.size = w.heap.size + 2 := by simp
  have n3 := ORow.new ((w.alloc (.cells #[] 21)).alloc (.cells #[] 21)) ow2 (32, 0, 0) 46
  have s3 : ∀ Q : Pos → Prop, Step Q ((w.alloc (.cells #[] 21)).alloc (.cells #[] 21)) ow2 (((w.alloc (.cells #[] 21)).alloc (.cells #[] 21)).alloc (.cells #[] 46)) (upd ow2 ((w.alloc (.cells #[] 21)).alloc (.cells #[] 21)).heap.size (32, 0, 0)) := fun Q => ((Step.refl Q _ _).alloc _).own (.inl (Nat.le_refl _)) _
  rw [e2] at n3 s3
  generalize upd ow2 (w.heap.size + 2) (32, 0, 0) = ow3 at n3 s3
  have e3 : (((w.alloc (.cells #[] 21)).alloc (.cells #[] 21)).alloc (.cells #[] 46)).heap.size = w.heap.size + 3 := by simp
  have n4 := ORow.new (((w.alloc (.cells #[] 21)).alloc (.cells #[] 21)).alloc (.cells #[] 46)) ow3 (33, 0, 0) 3
  have s4 : ∀ Q : Pos → Prop, Step Q (((w.alloc (.cells #[] 21)).alloc (.cells #[] 21)).alloc (.cells #[] 46)) ow3 ((((w.alloc (.cells #[] 21)).alloc (.cells #[] 21)).alloc (.cells #[] 46)).alloc (.cells #[] 3)) (upd ow3 (((w.alloc (.cells #[] 21)).alloc (.cells #[] 21)).alloc (.cells #[] 46)).heap.size (33, 0, 0)) := fun Q => ((Step.refl Q _ _).alloc _).own (.inl (Nat.le_refl _)) _
  rw [e3] at n4 s4
  generalize upd ow3 (w.heap.size + 3) (33, 0, 0) = ow4 at n4 s4
  have t34 := s4 fun _ => False
  have t24 := ((s3 fun _ => False)).trans t34
  have t14 := ((s2 fun _ => False)).trans t24
  have t04 := ((s1 fun _ => False)).trans t14
  exact ⟨ow4, st.trans ((((s1 QA).trans (s2 QA)).trans (s3 QA)).trans (s4 QA)), gr.step t04 (fun h => h), fun g cs hp => (sta g cs hp).step t04 (fun h => h), row.step t04 (fun h => h) (fun _ _ h => h), ha, hb, n1.step t14 (fun h => h), n2.step t24 (fun h => h), n3.step t34 (fun h => h), n4⟩
/-- what was there stands -/
theorem keep0 {w0 w : World} {ow : Ow} (st : Step QA w0 now0 w ow) : Below w0.heap.size w0 w := st.fr.below (Nat.le_refl _) (fun _ _ hx => absurd rfl hx)
theorem cell0 {w0 w : World} {ow : Ow} (st : Step QA w0 now0 w ow) {b o : Nat} {v : Value} (h : w0.cell? ⟨b, o, none⟩ = some v) : w.cell? ⟨b, o, none⟩ = some v := cell_below (keep0 st) h
end Go.Proofs.Qxb6601127a.Base
