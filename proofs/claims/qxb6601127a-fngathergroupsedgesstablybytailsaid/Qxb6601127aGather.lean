/-
  gather (34).
-/
import Derived.Test.Qxb6601127aWone
import Derived.Test.Qxb6601127aWtwo
import Derived.Deep.RegionHeld3
import Derived.Laws.Cover3
namespace Go.Proofs.Qxb6601127a.Base
open Go.ChangeShapes Go.WideShapes Go.ChangeAt Go.RowKit
open Cnt (Ed psum cum at' ofR lefts Rngs rg byR frees Pl Pre sortE)
/-- what gather leaves -/
def GO (w0 : World) (ow0 : Ow) (bg N : Nat) (r5 : Array Value) (E : List Ed) (e : Ending) (w' : World) : Prop :=
  e = .returned (.tuple #[]) ∧ ∃ (ow' : Ow) (pv : Value) (pl : List Ck) (gst : Nat), Step QA w0 ow0 w' ow' ∧ At w' ow' (2, 0, 0) bg 67 #[r5[0]!, .int .i64 N, r5[1]!, pv, .slice (some ⟨gst, 0, none⟩) (N + 1) (N + 1), r5[2]!, r5[3]!, r5[4]!] ∧ At w' ow' (3, 0, 0) gst 3 (ints (psum E N N)) ∧ Row w' ow' (12, 0, 0) (fun j => (22, 0, j)) pv pl ∧ Full (cum E N) pl ∧ gots pl = sortE E N
theorem gather_end {w0 w5 : World} {ow0 ow8 : Ow} {bg N gb gst : Nat} {r5 : Array Value} {E : List Ed} {edges pv : Value} {pl : List Ck} (st : Step QA w0 ow0 w5 ow8) (hg : Gr w5 ow8 gb bg N edges (.slice none 0 0) r5) (hs : At w5 ow8 (3, 0, 0) gst 3 (ints (psum E N N)))
    (hr : Row w5 ow8 (12, 0, 0) (fun j => (22, 0, j)) pv pl) (hf : Full (cum E N) pl) (he : gots pl = sortE E N) (q : Nat) :
    GO w0 ow0 bg N r5 E (.returned (.tuple #[])) (((w5.drewN q).setCell ⟨bg, 3, none⟩ pv).setCell ⟨bg, 4, none⟩ (.slice (some ⟨gst, 0, none⟩) (N + 1) (N + 1))) := by
  have sd : ∀ Q : Pos → Prop, Step Q w5 ow8 (w5.drewN q) ow8 := fun Q => (Step.refl Q _ _).drewN q
  have g1 := hg.gr.step (sd fun _ => False) (fun h => h)
  have g2 := g1.set 3 pv
  have s1 := g1.stepset 3 pv
  have g3 := g2.set 4 (.slice (some ⟨gst, 0, none⟩) (N + 1) (N + 1))
  have s2 := s1.trans (g2.stepset 4 (.slice (some ⟨gst, 0, none⟩) (N + 1) (N + 1)))
  have s3 := (sd _).trans s2
  exact ⟨rfl, ow8, pv, pl, gst, st.trans (s3.mono fun p hp => by rw [hp]; simp [QA]), by simpa using g3, hs.step s3 (by simp), hr.step s3 (by simp) (fun j _ => by simp), hf, he⟩
theorem news_pre {w : World} {B t n : Nat} {cs : Array Value} (h : Has w B t cs) : ∀ j u, (cs.toList.take n)[j]? = some u → w.cell? ((⟨B, 0, none⟩ : Addr).add j) = some u := by
  intro j u hu
  have hadd : (⟨B, 0, none⟩ : Addr).add j = ⟨B, j, none⟩ := by unfold Addr.add; split <;> simp_all
  have hj : j < n := by
    have := (List.getElem?_eq_some_iff.1 hu).1
    simp at this; omega
  rw [List.getElem?_take, if_pos hj] at hu
  rw [hadd, h.cell]; simpa using hu
theorem pl_len {E PL : List Ed} {s n N : Nat} (h0 : ∀ e ∈ E, 0 ≤ e.f) (h : Pl E N (byR E s n) PL) (hn : ∀ v, v < N → v / 2 ^ s < n) : cum E N ≤ PL.length := by
  rcases Nat.eq_zero_or_pos (cum E N) with hz | hz
  · omega
  · obtain ⟨v, j, hv, hj, hp⟩ := Cnt.find_v E h0 N (cum E N - 1) (by omega)
    have e := Cnt.at_byR E s n v
    rw [if_pos (hn v hv)] at e
    have h1 := h v hv j _ (by rw [e]; exact List.getElem?_eq_getElem hj)
    have := (List.getElem?_eq_some_iff.1 h1).1
    omega
/-- the numbers free begins with -/
theorem free_at {w w1 : World} {ow : Ow} {g1 cap1 N : Nat} {F : List Nat} (hown : w1.ownsRow 0 3 1 (.slice (some ⟨g1, 0, none⟩) N cap1) N (F.map (fun n : Nat => Value.int .i64 (n : Int)))) (hgrow : w.grownBy w1 none) (hg1 : g1 = w.heap.size) :
    (∃ X, At w1 (upd ow g1 (7, 0, 0)) (7, 0, 0) g1 3 (intsX F X)) ∧ ∀ Q : Pos → Prop, Step Q w ow w1 (upd ow g1 (7, 0, 0)) := by
  refine ⟨?_, fun Q => Step.own ⟨(Fr.grown hgrow).mono fun b _ hb => (by cases hb), fun _ _ _ => rfl⟩ (.inl (by omega)) _⟩
  rcases hown.2 with ⟨a, b⟩ | ⟨g, cap, cur, h1, h2, h3, h4, h5, h6, h7⟩
  · simp at a
  · simp only [Value.slice.injEq, Option.some.injEq, Addr.mk.injEq, and_true, true_and] at h1
    obtain ⟨rfl, rfl⟩ := h1
    refine ⟨cur.toList.drop N, upd_self _ _ _, ?_⟩
    have h7' : cur.toList.take N = F.map (fun n : Nat => Value.int .i64 (n : Int)) := by simpa using h7
    have e : intsX F (cur.toList.drop N) = cur := by unfold intsX; rw [← h7', List.take_append_drop]
    rw [e]; exact h3
set_option maxRecDepth 1000000 in
set_option maxHeartbeats 8000000 in
theorem gather_any (bg N : Nat) (edges : Value) (r5 : Array Value) (parts : List Ck) (w : World) (ow : Ow) (h : Entry w ow bg N edges r5 parts) :
   Calls Try.prog 34 #[.pointer (some ⟨bg, 0, none⟩)] w (GO w ow bg N r5 (gots parts)) := by
  obtain ⟨ps, ce, hv⟩ := h.row.shape
  subst hv
  have hN := h.hN
  have hP := h.hP
  have hgl := h.gr.lt
  have hmk : ∀ w : World, (Instr.makeSlice 22 (.int .i64 ((N : Int) + 1)) (.int .i64 ((N : Int) + 1))).run Try.prog w = .ok (.slice (some ⟨w.heap.size, 0, none⟩) (N + 1) (N + 1)) (w.alloc (.cells (ints (List.replicate (N + 1) 0)) 3)) := make3 (N + 1) (by omega)
  have c1 : ∀ o, (w.alloc o).cell? ⟨bg, 1, none⟩ = some (.int .i64 N) := fun o => (h.gr.2.alloc o).cell 1
  have c3 : ∀ o o', ((w.alloc o).alloc o').cell? ⟨bg, 3, none⟩ = some (.slice ps parts.length ce) := fun o o' => ((h.gr.2.alloc o).alloc o').cell 3
  have c4 : ∀ o, (w.alloc o).cell? ⟨bg, 4, none⟩ = some (.slice none 0 0) := fun o => (h.gr.2.alloc o).cell 4
  have hq := fun w => Go.run_neq_slice_nil (P := Try.prog) w 22 3 none 0 0 Try.underlying22
  obtain ⟨W2, hW2⟩ : ∃ W2, W2 = (w.alloc (.cells #[.pointer (some ⟨bg, 0, none⟩)] 61)).alloc (.cells (ints (List.replicate (N + 1) 0)) 3) := ⟨_, rfl⟩
  obtain ⟨ow2, how2⟩ : ∃ ow2, ow2 = upd (upd ow w.heap.size (1, 0, 0)) (w.heap.size + 1) (3, 0, 0) := ⟨_, rfl⟩
  have st2 : ∀ Q : Pos → Prop, Step Q w ow W2 ow2 := by
    intro Q; subst hW2 how2
    exact ((((Step.refl Q w ow).alloc _).alloc _).own (.inl (Nat.le_refl _)) _).own (.inl (by omega)) _
  have HG : Hid (Gr W2 ow2 w.heap.size bg N (.slice ps parts.length ce) (.slice none 0 0) r5) := by
    refine ⟨?_, h.gr.step (st2 (fun _ => False)) (fun h => h)⟩
    subst hW2 how2
    exact ⟨by rw [upd_other _ _ (by omega), upd_self], (has_new w 61 _).alloc _⟩
  have HR : Hid (Row W2 ow2 (10, 0, 0) (fun k => (20, 0, k)) (.slice ps parts.length ce) parts) := h.row.step (st2 (fun _ => False)) (fun h => h) (fun _ _ h => h)
  have HC : Hid (C1 W2 ow2 (w.heap.size + 1) (psum [] N 0) W2) := by
    refine ⟨Step.refl _ _ _, ?_⟩
    subst hW2 how2
    rw [Cnt.psum_start]
    exact ⟨upd_self _ _ _, by simpa using has_new (w.alloc (.cells #[.pointer (some ⟨bg, 0, none⟩)] 61)) 3 (ints (List.replicate (N + 1) 0))⟩
  have HW2 : Hid (W2 = (w.alloc (.cells #[.pointer (some ⟨bg, 0, none⟩)] 61)).alloc (.cells (ints (List.replicate (N + 1) 0)) 3)) := hW2
  have HST : Hid (∀ Q : Pos → Prop, Step Q w ow W2 ow2) := st2
  have HH : Hid (Entry w ow bg N (.slice ps parts.length ce) r5 parts) := h
  clear h hW2 st2 how2
  go_enter Try.func34, Try.ntmps34
  go_upto_block 0 with fail
  go_cut [] (fun wc => Hid (C1 W2 ow2 (w.heap.size + 1) (psum (gots parts) N 0) wc))
  case first =>
    clear hmk c1 c3 c4 hq
    go_wp2
    go_loopw [47] (fun i wr => ∃ k : Nat, k ≤ parts.length ∧ i = .int .i64 k ∧ Hid (C1 W2 ow2 (w.heap.size + 1) (psum (upto parts k 0) N 0) wr)) (fun i _ => parts.length - (intOf i).toNat)
    case atStart => exact ⟨0, by omega, rfl, by rw [upto_zero, ← HW2.out]; exact HC⟩
    case round =>
      obtain ⟨k, hk, rfl, hc⟩ := hrel
      by_cases hlt : k < parts.length
      · have hx : parts[k]? = some parts[k] := List.getElem?_eq_getElem hlt
        generalize parts[k] = x at hx
        have HX : Hid (parts[k]? = some x) := hx
        obtain ⟨ge, ce', hl⟩ := HR.out.laid (by omega)
        have hve := hl.v
        simp only [Value.slice.injEq] at hve
        obtain ⟨rfl, _, rfl⟩ := hve
        have hrow := HR.out.step hc.out.st (by simp) (by simp)
        have hckx := hrow.ck k x hx
        have hl2 : wr.cell? ⟨ge, k, none⟩ = some (.slice (some ⟨x.g, 0, none⟩) x.n x.c) := by
          have h1 := hl.cell k x hx
          have h2 := (hc.out.st.fr.block ge hl.lt (by rw [hl.ow]; simp))
          exact (World.cell?_of_block h2).trans h1
        have hklt : (k : Int) < (parts.length : Int) := by omega
        have hxn : x.n ≤ 65536 := by
          have h1 := got_len hckx.len hckx.le
          have h2 : x.got.length ≤ (gots parts).length := by
            obtain ⟨tl, ht⟩ := upto_pre parts (k + 1) 0
            rw [ht, ← upto_next hx]; unfold upto; rw [hx]; simp; omega
          have := HH.out.hE; omega
        have HGL : Hid (x.got.length = x.n) := got_len hckx.len hckx.le
        clear hl hrow hckx hx
        go_wp2
        go_loopw [53] (fun i wr2 => ∃ q : Nat, q ≤ x.n ∧ i = .int .i64 q ∧ Hid (C1 W2 ow2 (w.heap.size + 1) (psum (upto parts k q) N 0) wr2)) (fun i _ => x.n - (intOf i).toNat)
        case atStart => exact ⟨0, by omega, rfl, hc⟩
        case round =>
          obtain ⟨q, hq, rfl, hc2⟩ := hrel
          clear hc hl2
          by_cases hlt2 : q < x.n
          · obtain ⟨e, he⟩ : ∃ e, x.got[q]? = some e := ⟨_, List.getElem?_eq_getElem (by rw [HGL.out]; exact hlt2)⟩
            have hes : x.es[q]? = some e := by rw [← got_at hlt2]; exact he
            have hck := (HR.out.step hc2.out.st (by simp) (by simp)).ck k x HX.out
            obtain ⟨d0, d1, d2⟩ := hck.edge hes
            obtain ⟨t0, t1⟩ := HH.out.tails e (got_mem HX.out he)
            obtain ⟨f, hf⟩ := Int.eq_ofNat_of_zero_le t0
            rw [hf] at d0 t1
            have hfN : f < N := by omega
            have hD0 : ∀ e ∈ upto parts k q, 0 ≤ e.f := fun e he => (HH.out.tails e (upto_mem he)).1
            have cc := hc2.out.row.2.cell (f + 1)
            rw [ints_at (Cnt.psum_at _ _ _ _ (by omega)), if_neg (by omega), Nat.add_sub_cancel] at cc
            have ff := hc2.out.row.2.free (f + 1)
            have hlen : (at' (upto parts k q) f).length ≤ 65536 := by
              obtain ⟨tl, ht⟩ := upto_pre parts k q
              have h1 : (at' (upto parts k q) f).length ≤ (upto parts k q).length := List.length_filter_le _ _
              have h2 := HH.out.hE
              rw [ht, List.length_append] at h2; omega
            have HS : Hid (∀ o, C1 W2 ow2 (w.heap.size + 1) (psum (upto parts k (q + 1)) N 0) ((wr.setCell ⟨w.heap.size + 1, f + 1, none⟩ (.int .i64 (((at' (upto parts k q) f).length : Int) + 1))).alloc o)) := by
              intro o
              rw [upto_more HX.out he, Cnt.psum_more _ _ _ f hf hfN hD0]
              exact hc2.out.set o (f + 1) ((at' (upto parts k q) f).length + 1)
            generalize (at' (upto parts k q) f).length = cnt at *
            have hst := hc2.out.row.lt
            clear he hes hck hf hD0
            go_wp2
            go_roundw
            case rel => exact ⟨q + 1, by omega, by go_num, HS.out _⟩
            case measure => simp only [intOf]; omega
          · have hqe : q = x.n := by omega
            have HS : Hid (C1 W2 ow2 (w.heap.size + 1) (psum (upto parts (k + 1) 0) N 0) wr) := by
              have h1 := hc2.out
              rw [hqe, ← HGL.out, upto_next HX.out] at h1; exact h1
            clear hqe
            go_wp2
            go_roundw
            case rel => exact ⟨k + 1, by omega, by go_num, HS⟩
            case measure => simp only [intOf]; omega
      · have hke : k = parts.length := by omega
        have HS : Hid (C1 W2 ow2 (w.heap.size + 1) (psum (gots parts) N 0) wr) := by
          have h1 := hc.out
          rw [hke, upto_all] at h1; exact h1
        clear hke
        go_wp2
        go_meet
        case rel => exact HS
  case rest =>
    clear hmk c1 c3 c4 hq HC HW2
    have hg1 := HG.out.step hcut.out.st (by simp) (by simp)
    have e0 := hg1.c0
    have e1 := hg1.c1
    clear hg1
    go_upto_block 4 with fail
    go_cut [] (fun wc2 => Hid (C1 W2 ow2 (w.heap.size + 1) (psum (gots parts) N N) wc2))
    case first =>
      go_wp2
      go_loopw [71] (fun i wr => ∃ n : Nat, n ≤ N ∧ i = .int .i64 n ∧ Hid (C1 W2 ow2 (w.heap.size + 1) (psum (gots parts) N n) wr)) (fun i _ => N - (intOf i).toNat)
      case atStart => exact ⟨0, by omega, rfl, hcut⟩
      case round =>
        obtain ⟨n, hn, rfl, hc⟩ := hrel
        clear e0 e1 hcut
        by_cases hlt : n < N
        · have a0 := hc.out.row.2.cell n
          rw [ints_at (Cnt.psum_at _ _ _ _ (by omega)), if_pos (Nat.le_refl _)] at a0
          have a1 := hc.out.row.2.cell (n + 1)
          rw [ints_at (Cnt.psum_at _ _ _ _ (by omega)), if_neg (by omega), Nat.add_sub_cancel] at a1
          have f1 := hc.out.row.2.free (n + 1)
          have l0 : cum (gots parts) n ≤ 65536 := Nat.le_trans (Cnt.cum_le _ _) HH.out.hE
          have l1 : (at' (gots parts) n).length ≤ 65536 := Nat.le_trans (List.length_filter_le _ _) HH.out.hE
          have HS : Hid (∀ q, C1 W2 ow2 (w.heap.size + 1) (psum (gots parts) N (n + 1)) ((wr.setCell ⟨w.heap.size + 1, n + 1, none⟩ (.int .i64 (((at' (gots parts) n).length : Int) + (cum (gots parts) n : Int)))).drewN q)) := by
            intro q
            rw [Cnt.psum_next _ _ _ hlt]
            exact hc.out.setd q (n + 1) ((at' (gots parts) n).length + cum (gots parts) n)
          generalize (at' (gots parts) n).length = cn at *
          generalize cum (gots parts) n = cm at *
          go_wp2
          go_region
          all_goals go_wp2
          all_goals go_roundw
          case rel => exact ⟨n + 1, by omega, by go_num, HS.out 1⟩
          case measure => simp only [intOf]; omega
        · have hne : n = N := by omega
          have HS : Hid (C1 W2 ow2 (w.heap.size + 1) (psum (gots parts) N N) wr) := by
            have h1 := hc.out
            rw [hne] at h1; exact h1
          clear hne
          go_wp2
          go_meet
          case rel => exact HS
    case rest =>
      clear e0 e1
      have HS3 : Hid (S3 w ow bg N (.slice ps parts.length ce) r5 parts w.heap.size (w.heap.size + 1) wc.heap.size 0 (wc.alloc (.cells #[.int .i64 0] 3)) (upd ow2 wc.heap.size (4, 0, 0))) := by
        have s1 : Step (fun p => p = (3, 0, 0)) W2 ow2 (wc.alloc (.cells #[.int .i64 0] 3)) (upd ow2 wc.heap.size (4, 0, 0)) := (hcut.out.st.alloc _).own (.inl hcut.out.st.fr.size) _
        have s2 : Step (fun _ => False) wc ow2 (wc.alloc (.cells #[.int .i64 0] 3)) (upd ow2 wc.heap.size (4, 0, 0)) := ((Step.refl _ _ _).alloc _).own (.inl (Nat.le_refl _)) _
        exact ⟨(HST.out QA).trans (s1.mono fun p hp => by rw [hp]; simp [QA]), HG.out.step s1 (by simp) (by simp), HR.out.step s1 (by simp) (by simp), hcut.out.row.step s2 (fun h => h), upd_self _ _ _, has_new _ _ _⟩
      clear hcut HG HR HST
      go_upto_block 6 with fail
      go_cut [] (fun w3 => ∃ (gsh s : Nat) (ow3 : Ow), gsh = wc.heap.size ∧ s ≤ 6 ∧ Hid (((N : Int) - 1) / 2 ^ s < 1024) ∧ Hid (S3 w ow bg N (.slice ps parts.length ce) r5 parts w.heap.size (w.heap.size + 1) gsh s w3 ow3))
      case first =>
        go_wp2
        go_loopw [] (fun wr => ∃ (s : Nat), s ≤ 6 ∧ Hid (S3 w ow bg N (.slice ps parts.length ce) r5 parts w.heap.size (w.heap.size + 1) wc.heap.size s wr (upd ow2 wc.heap.size (4, 0, 0)))) (fun wr => 7 - (intOf ((wr.cell? ⟨wc.heap.size, 0, none⟩).getD undef)).toNat)
        case atStart => exact ⟨0, by omega, HS3⟩
        case round =>
          obtain ⟨s, hs, h3⟩ := hrel
          clear HS3
          have e0 := h3.out.gr.c0
          have e1 := h3.out.gr.c1
          have e2 : wr.cell? ⟨wc.heap.size, 0, none⟩ = some (.int .i64 s) := h3.out.shift.2.cell 0
          have f2 : wr.frozen? ⟨wc.heap.size, 0, none⟩ = false := h3.out.shift.2.free 0
          have EQ : ∃ z : Int, ((N : Int) - 1) / 2 ^ s = z := ⟨_, rfl⟩
          obtain ⟨z, hz⟩ := EQ
          by_cases hge : 1024 ≤ z
          · have hs6 : s < 6 := by
              exact shift_lt hN hs (by rw [hz]; exact hge)
            have HS : Hid (∀ q, S3 w ow bg N (.slice ps parts.length ce) r5 parts w.heap.size (w.heap.size + 1) wc.heap.size (s + 1) ((wr.drewN q).setCell ⟨wc.heap.size, 0, none⟩ (.int .i64 ((s : Int) + 1))) (upd ow2 wc.heap.size (4, 0, 0))) := fun q => h3.out.set q (s + 1)
            go_wp2
            go_quiet (fail)
            go_wp2
            go_roundw
            case rel => exact ⟨s + 1, by omega, HS.out _⟩
            case measure =>
              have m1 : ∀ q, ((wr.drewN q).setCell ⟨wc.heap.size, 0, none⟩ (.int .i64 ((s : Int) + 1))).cell? ⟨wc.heap.size, 0, none⟩ = some (.int .i64 ((s + 1 : Nat) : Int)) := fun q => (HS.out q).shift.2.cell 0
              show 7 - (intOf ((World.cell? _ _).getD undef)).toNat < 7 - (intOf ((wr.cell? _).getD undef)).toNat
              rw [m1, e2]
              simp only [Option.getD_some, intOf]
              omega
          · have HZ : Hid (((N : Int) - 1) / 2 ^ s < 1024) := by show _ < _; rw [hz]; omega
            have HS : Hid (∀ q, S3 w ow bg N (.slice ps parts.length ce) r5 parts w.heap.size (w.heap.size + 1) wc.heap.size s (wr.drewN q) (upd ow2 wc.heap.size (4, 0, 0))) := by
              intro q
              exact h3.out.drewN q
            go_wp2
            go_quiet (fail)
            go_wp2
            go_meet
            case rel => exact ⟨_, s, _, rfl, hs, HZ, HS.out _⟩
      case rest =>
        obtain ⟨gsh, s, ow3, hgsh, hs6, HZ, h3⟩ := hcut
        rw [← hgsh]
        obtain ⟨nR, hnR⟩ := Cnt.rngs HZ.out
        have HRN : Hid (Rngs N s nR) := hnR
        have hz := hnR.eq
        have hnR2 := hnR.le
        clear HS3 hnR hgsh
        have e0 := h3.out.gr.c0
        have e1 := h3.out.gr.c1
        have e2 : wc.cell? ⟨gsh, 0, none⟩ = some (.int .i64 s) := h3.out.shift.2.cell 0
        have hmk : ∀ w : World, (Instr.makeSlice 83 (.int .i64 (nR : Int)) (.int .i64 (nR : Int))).run Try.prog w = .ok (.slice (some ⟨w.heap.size, 0, none⟩) nR nR) (w.alloc (.cells (Array.replicate nR (.slice none 0 0)) 64)) := fun w => by rw [← List.toArray_replicate]; exact make64 nR (by omega) w
        have hmk2 : ∀ w : World, (Instr.makeSlice 22 (.int .i64 (nR : Int)) (.int .i64 (nR : Int))).run Try.prog w = .ok (.slice (some ⟨w.heap.size, 0, none⟩) nR nR) (w.alloc (.cells (ints (List.replicate nR 0)) 3)) := make3 nR (by omega)
        go_wp2
        go_region
        all_goals go_upto_block 8 with fail
        have HS4 : Hid (S4 w ow bg N (.slice ps parts.length ce) r5 parts w.heap.size (w.heap.size + 1) gsh s wc.heap.size (wc.heap.size + 1) nR (lefts (gots parts) s nR 0) (((wc.alloc (.cells (Array.replicate nR (.slice none 0 0)) 64)).alloc (.cells (ints (List.replicate nR 0)) 3)).drew) (upd (upd ow3 wc.heap.size (5, 0, 0)) (wc.heap.size + 1) (6, 0, 0))) := by
          show S4 _ _ _ _ _ _ _ _ _ _ _ _ _ _ _ _ _
          rw [Cnt.lefts_zero]; exact S4.start h3.out
        clear e0 e1 e2 hz hmk hmk2 h3
        go_cut [] (fun w4 => ∃ (gr gl : Nat) (ow4 : Ow), gr = wc.heap.size ∧ gl = wc.heap.size + 1 ∧ Hid (S4 w ow bg N (.slice ps parts.length ce) r5 parts w.heap.size (w.heap.size + 1) gsh s gr gl nR (lefts (gots parts) s nR nR) w4 ow4))
        case first =>
          go_wp2
          go_loopw [111] (fun i wr => ∃ r : Nat, r ≤ nR ∧ i = .int .i64 r ∧ Hid (S4 w ow bg N (.slice ps parts.length ce) r5 parts w.heap.size (w.heap.size + 1) gsh s wc.heap.size (wc.heap.size + 1) nR (lefts (gots parts) s nR r) wr (upd (upd ow3 wc.heap.size (5, 0, 0)) (wc.heap.size + 1) (6, 0, 0)))) (fun i _ => nR - (intOf i).toNat)
          case atStart => exact ⟨0, by omega, rfl, HS4⟩
          case round =>
            obtain ⟨r, hr, rfl, h4⟩ := hrel
            clear HS4
            by_cases hlt : r < nR
            · have e0 := h4.out.s3.gr.c0
              have e1 := h4.out.s3.gr.c1
              have e2 : wr.cell? ⟨gsh, 0, none⟩ = some (.int .i64 s) := h4.out.s3.shift.2.cell 0
              have HF : Hid (∀ (W : World) (z : Int), (0 ≤ z ∧ z ≤ 1025 ∧ W.cell? ⟨gsh, 0, none⟩ = some (.int .i64 s) ∧ W.cell? ⟨w.heap.size, 0, none⟩ = some (.pointer (some ⟨bg, 0, none⟩)) ∧ W.cell? ⟨bg, 1, none⟩ = some (.int .i64 N)) → Calls Try.prog 36 #[.int .i64 z, .pointer (some ⟨gsh, 0, none⟩), .pointer (some ⟨w.heap.size, 0, none⟩)] W (FI (firstI s N z) W)) :=
                fun W z => firstI_any s N gsh w.heap.size bg (by omega) W z
              have z1 : firstI s N ((r : Int) + 1) = (fst' s N (r + 1) : Int) := rfl
              have z0 : firstI s N (r : Int) = (fst' s N r : Int) := rfl
              have hl0 := Cnt.fst_le s N r
              have hl1 := Cnt.fst_le s N (r + 1)
              have hrl := Cnt.rng_len (s := s) (r := r) HH.out.tails
              have hub : cum (gots parts) (fst' s N (r + 1)) ≤ 65536 := Nat.le_trans (Cnt.cum_le _ _) HH.out.hE
              have hub0 : cum (gots parts) (fst' s N r) ≤ 65536 := Nat.le_trans (Cnt.cum_le _ _) HH.out.hE
              have a0 := h4.out.s3.start.2.cell (fst' s N r)
              rw [ints_at (Cnt.psum_at _ _ _ _ hl0), if_pos hl0] at a0
              have a1 := h4.out.s3.start.2.cell (fst' s N (r + 1))
              rw [ints_at (Cnt.psum_at _ _ _ _ hl1), if_pos hl1] at a1
              have b0 : ∃ v, wr.cell? ⟨wc.heap.size + 1, r, none⟩ = some v := by
                have h1 := h4.out.left.2.cell r
                rw [ints_at (Cnt.lefts_at _ _ _ _ _ hlt)] at h1; exact ⟨_, h1⟩
              obtain ⟨v0, b0⟩ := b0
              have fl := h4.out.left.2.free r
              have HS : Hid (∀ q, S4 w ow bg N (.slice ps parts.length ce) r5 parts w.heap.size (w.heap.size + 1) gsh s wc.heap.size (wc.heap.size + 1) nR (lefts (gots parts) s nR (r + 1)) ((wr.drewN q).setCell ⟨wc.heap.size + 1, r, none⟩ (.int .i64 ((cum (gots parts) (fst' s N (r + 1)) : Int) - (cum (gots parts) (fst' s N r) : Int)))) (upd (upd ow3 wc.heap.size (5, 0, 0)) (wc.heap.size + 1) (6, 0, 0))) := by
                intro q
                rw [← Cnt.lefts_set _ _ _ _ hlt, hrl, show ((cum (gots parts) (fst' s N r) + (ofR (gots parts) s r).length : Nat) : Int) - (cum (gots parts) (fst' s N r) : Int) = ((ofR (gots parts) s r).length : Int) from by omega]
                exact h4.out.set q r _
              have n1 := h4.out.s3.shift.ne h4.out.left (by simp)
              have n2 := h4.out.s3.gr.box.ne h4.out.left (by simp)
              have n3 := h4.out.s3.gr.gr.ne h4.out.left (by simp)
              have n4 := h4.out.s3.start.ne h4.out.left (by simp)
              clear hrl
              generalize cum (gots parts) (fst' s N (r + 1)) = cb at *
              generalize cum (gots parts) (fst' s N r) = ca at *
              generalize fst' s N (r + 1) = f1 at *
              generalize fst' s N r = f0 at *
              have i1 : (f1 : Int) < (N : Int) + 1 := by omega
              have i0 : (f0 : Int) < (N : Int) + 1 := by omega
              have j1 : (0 : Int) ≤ (f1 : Int) := by omega
              have j0 : (0 : Int) ≤ (f0 : Int) := by omega
              have j2 : (0 : Int) ≤ (r : Int) := by omega
              have i2 : (r : Int) < (nR : Int) := by omega
              have hw1 : IntKind.i64.wrap ((r : Int) + 1) = (r : Int) + 1 := by rw [IntKind.wrap_i64]; omega
              go_wp2
              go_region_held3 (fun w' => w'.cell? ⟨gsh, 0, none⟩ = some (.int .i64 s) ∧ w'.cell? ⟨w.heap.size, 0, none⟩ = some (.pointer (some ⟨bg, 0, none⟩)) ∧ w'.cell? ⟨bg, 1, none⟩ = some (.int .i64 N) ∧ w'.cell? ⟨w.heap.size + 1, f1, none⟩ = some (.int .i64 cb) ∧ w'.cell? ⟨w.heap.size + 1, f0, none⟩ = some (.int .i64 ca)) (first | go_keep | (refine ⟨?_, ?_, ?_, ?_, ?_⟩ <;> (rw [cell_far _ _ _ _ _ _ (by assumption)]; simp [*])))
                (first | (go_at_call 36; refine (HF.out _ _ ?_).mono ?_; (refine ⟨by omega, by omega, ?_⟩; simp [*]); rintro e w' ⟨rfl, q, rfl⟩))
              all_goals go_wp2
              all_goals go_roundw
              case rel => exact ⟨r + 1, by omega, by go_num, HS.out _⟩
              case measure => simp only [intOf]; omega
            · have hre : r = nR := by omega
              have HS : Hid (S4 w ow bg N (.slice ps parts.length ce) r5 parts w.heap.size (w.heap.size + 1) gsh s wc.heap.size (wc.heap.size + 1) nR (lefts (gots parts) s nR nR) wr (upd (upd ow3 wc.heap.size (5, 0, 0)) (wc.heap.size + 1) (6, 0, 0))) := by
                have h1 := h4.out
                rw [hre] at h1; exact h1
              clear hre
              go_wp2
              go_meet
              case rel => exact ⟨_, _, _, rfl, rfl, HS⟩
        case rest =>
          obtain ⟨gr, gl, ow4, hgr, hgl, h4⟩ := hcut
          rw [← hgl, ← hgr]
          clear hgl hgr
          clear HS4
          obtain ⟨gs, hgs⟩ : ∃ gs, gs = wc.heap.size := ⟨_, rfl⟩
          obtain ⟨Wp, hWp⟩ : ∃ Wp, Wp = wc.alloc (.cells #[.slice none 0 0] 85) := ⟨_, rfl⟩
          obtain ⟨gst, hgst⟩ : ∃ gst, gst = w.heap.size + 1 := ⟨_, rfl⟩
          obtain ⟨gb, hgb⟩ : ∃ gb, gb = w.heap.size := ⟨_, rfl⟩
          have e0 : ∀ o, (wc.alloc o).cell? ⟨w.heap.size, 0, none⟩ = some (.pointer (some ⟨bg, 0, none⟩)) := fun o => (h4.out.s3.gr.box.2.alloc o).cell 0
          have e3 : ∀ o, (wc.alloc o).cell? ⟨bg, 3, none⟩ = some (.slice ps parts.length ce) := fun o => (h4.out.s3.gr.gr.2.alloc o).cell 3
          obtain ⟨owp, hI, HG1, HSH, HST1, HQ1⟩ : ∃ owp, Hid (In1 (.slice ps parts.length ce) parts s nR gr gl gs 0 0 Wp owp Wp) ∧ Hid (Gr Wp owp gb bg N (.slice ps parts.length ce) (.slice none 0 0) r5) ∧ Hid (At Wp owp (4, 0, 0) gsh 3 #[.int .i64 s]) ∧ Hid (At Wp owp (3, 0, 0) gst 3 (ints (psum (gots parts) N N))) ∧ Hid (Step QA w ow Wp owp) := by
            obtain ⟨b1, b2⟩ := P1.start (s := s) (nR := nR) h4.out.s3.row h4.out.ranges h4.out.left
            have sf := b2 fun _ => False
            rw [hgs, hWp, hgst, hgb]
            rw [← leftD_start, ← upto_zero parts] at b1
            refine ⟨upd ow4 wc.heap.size (8, 0, 0), ⟨_, _, _, _, b1, Step.refl _ _ _⟩, h4.out.s3.gr.step sf (fun h => h) (fun h => h), h4.out.s3.shift.step sf (fun h => h), h4.out.s3.start.step sf (fun h => h), h4.out.s3.st.trans (b2 QA)⟩
          have HPS : Hid (0 < parts.length → ∃ ge, ps = some ⟨ge, 0, none⟩) := by
            intro h0
            obtain ⟨g, cap, hl⟩ := h4.out.s3.row.laid h0
            have h1 := hl.v
            simp only [Value.slice.injEq] at h1
            exact ⟨g, h1.1⟩
          have HT : Hid (∀ e ∈ gots parts, 0 ≤ e.f ∧ e.f < (N : Int)) := HH.out.tails
          have HE : Hid ((gots parts).length ≤ 65536) := HH.out.hE
          have HEQ : Hid (gs = wc.heap.size ∧ Wp = wc.alloc (.cells #[.slice none 0 0] 85) ∧ gst = w.heap.size + 1 ∧ gb = w.heap.size) := ⟨hgs, hWp, hgst, hgb⟩
          clear h4 hgs hWp hgst hgb
          go_upto_block 10 with fail
          rw [← HEQ.out.1, ← HEQ.out.2.1, ← HEQ.out.2.2.1, ← HEQ.out.2.2.2]
          clear e0 e3
          go_cut [] (fun w5 => Hid (In1 (.slice ps parts.length ce) parts s nR gr gl gs parts.length 0 Wp owp w5))
          case first =>
            refine pass1 _ _ parts ps ce gb bg N gst gsh s nR gr gl gs r5 Wp owp HG1 HSH HRN hs6 hnR2 HT hN HE hP HPS hI _ _ _ _ _ _ _ _ _ _ _ _ _ _ _ _ _ _ _ _ _ _ _ _ _ _ _ _ _ _ _ _ _ _ _ _ _ _ _ _ _ _ _ _ _ _ _ _ _ _ _ _ _ _ _ _ _ _ _ _ _ _ _ _ _ _ _ _ _ _ _ _ _ _ _ _ _ _ _ _ _ _ _ _ _ _ _ _ _ _ _ _ _ _ _ _ _ _ _ _ _ _ _ _ _ _ _ _ _ _ _ _ _ _ _ _ _ _ _ _ _ _ _ _ _ _ _ _ _ _ _ _ _ _ _ _ _ _ _ _ _ _ _ _ _ _ _ _ _ _ _ _ _ _ _ _ _ _ _ _ _ _ _ _ _ _ _ _ _ _ _ _ _ _ _ _ _ _ _ _ _ _ _ _ _ _ _ _ _ _ _ _ _ _ _ _ _ _ _ _ _ _ _ _ _ _ _ _ _ _ _ _ _ _ _ _ _ _ _ _ _ _ _ _ _ _ _ _ _ _ _ _ _ _ _ _ _ _ _ _ _ _ _ _ _ _ _ _ _ _ _ _ _ _ _ _ _ _ _ _ _ _ _ _ _ _ _ _ _ _ _ _ _ _ _ _ _ _ _ _ _ _ _ _ _ _ _ _ _ _ _ _ _ _ _ _ _ _ _ _ _ _ _ _ _ _ _ _ _ _ _  ?_
            intros
            rename_i w5 hw
            go_wp2
            go_meet
            case rel => exact hw
          case rest =>
            obtain ⟨ow5, rv, R, sp, p1, st5⟩ := hcut.out
            rw [upto_all] at p1
            have g5 := HG1.out.step st5 (by simp [Q1]) (by simp [Q1])
            have s5 := HST1.out.step st5 (by simp [Q1])
            have sh5 := HSH.out.step st5 (by simp [Q1])
            have HQ5 : Hid (Step QA w ow wc ow5) := HQ1.out.trans (st5.mono fun p hp => by
              show p.1 ≠ 0
              rcases hp with h | h | h | h | h | h | h | h | h <;> omega)
            have e0 := g5.c0
            have e1 := g5.c1
            have HP5 : Hid (P1 (.slice ps parts.length ce) parts s nR gr gl gs parts.length (gots parts) rv R sp (leftD (gots parts) (gots parts) s nR) (fun _ => 0) wc ow5) := p1
            have HG5 : Hid (Gr wc ow5 gb bg N (.slice ps parts.length ce) (.slice none 0 0) r5) := g5
            have HS5 : Hid (At wc ow5 (3, 0, 0) gst 3 (ints (psum (gots parts) N N))) := s5
            have HH5 : Hid (At wc ow5 (4, 0, 0) gsh 3 #[.int .i64 s]) := sh5
            clear p1 g5 s5 sh5 st5 hcut
            rcases Nat.eq_zero_or_pos N with hN0 | hN0
            · skip
              subst hN0
              have hnR0 : nR = 0 := by
                have h := HRN.out.eq
                rcases Nat.eq_zero_or_pos nR with h0 | h0
                · exact h0
                · have hp : (0 : Int) < 2 ^ s := Int.pow_pos (by omega)
                  have h1 : ((0 : Nat) : Int) - 1 < 0 := by omega
                  have h2 := Int.ediv_neg_of_neg_of_pos h1 hp
                  omega
              subst hnR0
              have hE0 : gots parts = [] := by
                rcases hg : gots parts with _ | ⟨e, t⟩
                · rfl
                · have := HT.out e (by rw [hg]; simp)
                  omega
              have HEND : Hid (∀ q, GO w ow bg 0 r5 (gots parts) (.returned (.tuple #[])) (((wc.drewN q).setCell ⟨bg, 3, none⟩ (.slice none 0 0)).setCell ⟨bg, 4, none⟩ (.slice (some ⟨gst, 0, none⟩) (0 + 1) (0 + 1)))) := by
                intro q
                exact gather_end HQ5.out HG5.out HS5.out (Row.nil _ _ _ _) (Full.nil _) (by rw [hE0]; rfl) q
              have c3 := HG5.out.c3
              have c4 := HG5.out.c4
              have f3 := HG5.out.gr.2.free 3
              have f4 := HG5.out.gr.2.free 4
              have n1 : gb ≠ bg := HG5.out.box.ne HG5.out.gr (by simp)
              clear HP5 HG5 HS5 HH5 hE0
              go_upto_block 14 with fail
              go_cut [21] (fun pv w6 => pv = .slice none 0 0 ∧ w6 = wc)
              case first =>
                go_wp2
                go_loopw [21, 241] (fun p i wr => p = .slice none 0 0 ∧ i = .int .i64 0 ∧ wr = wc) (fun _ _ _ => 0)
                case atStart => exact ⟨rfl, rfl, rfl⟩
                case round =>
                  obtain ⟨rfl, rfl, rfl⟩ := hrel
                  go_wp2
                  go_meet
                  case rel => exact ⟨rfl, rfl⟩
              case rest =>
                obtain ⟨h21, hwc⟩ := hcut
                subst h21
                subst hwc
                go_wp2
                go_region
                all_goals go_wp2
                all_goals go_end0
                all_goals exact HEND.out 1
            · skip
              obtain ⟨i0, hi0, hz0, hz1, hz2⟩ := info_parts info3
              obtain ⟨F, hF⟩ : ∃ F, F = frees (gots parts) N [] := ⟨_, rfl⟩
              have HF : Hid (F = frees (gots parts) N []) := hF
              have HNW : Hid (∀ j u, (F.map (fun n : Nat => Value.int .i64 (n : Int)))[j]? = some u → wc.cell? ((⟨gst, 0, none⟩ : Addr).add j) = some u) := by
                have h := news_pre (n := N) HS5.out.2
                have e : (ints (psum (gots parts) N N)).toList.take N = F.map (fun n : Nat => Value.int .i64 (n : Int)) := by
                  rw [hF, Cnt.frees_start]; unfold ints; simp [List.map_take]
                rw [e] at h; exact h
              have HFL : Hid ((F.map (fun n : Nat => Value.int .i64 (n : Int))).length = N * 1) := by
                show _ = _
                rw [hF]; simp [Cnt.frees_len]
              have hi1 : (N : Int) ≤ (N : Int) + 1 := by omega
              clear hF
              go_upto_region 47 with fail
              go_upto_block 14 with (
                refine wpList_append_lies _ (by rfl) _ _ _ (by rfl) 0 3 i0 _ 1 8 Try.underlying22 hi0 hz0 hz1 hz2 rfl (by omega) (.slice none 0 0) 0 [] (by rfl) (World.ownsRow_nil _ _ _ _)
                  ⟨gst, 0, none⟩ N (N + 1) (F.map (fun n : Nat => Value.int .i64 (n : Int))) (by rfl) HFL.out HNW.out (by simp [Value.oneCell'])
                  hN0 (by unfold maxLen; omega) (by omega) (by omega) (wc.heap.size) rfl ?_
                intro g1 cap1 w1 hown1 hgrow hat hlt1)
              obtain ⟨⟨X, hX⟩, st7⟩ := free_at (ow := ow5) (F := F) (N := N) (by simpa using hown1) hgrow (by simpa [Value.ownBlock] using hat)
              have p2 := P2.start (N := N) HP5.out hP (st7 (fun _ => False)) (fun _ _ h => h) hX
              have HI2 : Hid (At2 (⟨gots parts, s, nR, N, gr, gs, g1, R, w1, upd ow5 g1 (7, 0, 0)⟩ : C2) 0 (.slice none 0 0) w1) := by
                rw [HF.out] at p2
                exact ⟨rv, _, sp, [], p2, Step.refl _ _ _, Nat.zero_le _⟩
              have HRS : Hid (Rs (⟨gots parts, s, nR, N, gr, gs, g1, R, w1, upd ow5 g1 (7, 0, 0)⟩ : C2)) := ⟨HP5.out.lenR, fun r cks h => ⟨HP5.out.got r cks h, by have := HP5.out.cnt r cks h; omega⟩⟩
              have sf := st7 fun _ => False
              have HG7 : Hid (Gr w1 (upd ow5 g1 (7, 0, 0)) gb bg N (.slice ps parts.length ce) (.slice none 0 0) r5) := HG5.out.step sf (fun h => h) (fun h => h)
              have HS7 : Hid (At w1 (upd ow5 g1 (7, 0, 0)) (3, 0, 0) gst 3 (ints (psum (gots parts) N N))) := HS5.out.step sf (fun h => h)
              have HH7 : Hid (At w1 (upd ow5 g1 (7, 0, 0)) (4, 0, 0) gsh 3 #[.int .i64 s]) := HH5.out.step sf (fun h => h)
              have HQ7 : Hid (Step QA w ow w1 (upd ow5 g1 (7, 0, 0))) := HQ5.out.trans (st7 QA)
              clear p2 sf hown1 hgrow hat hX st7 HF HNW HFL e0 e1 HP5 HG5 HS5 HH5
              try simp only [Nat.zero_add]
              go_cut [21] (fun pv w6 => Hid (At2 (⟨gots parts, s, nR, N, gr, gs, g1, R, w1, upd ow5 g1 (7, 0, 0)⟩ : C2) nR pv w6))
              case first =>
                refine pass2 _ _ (.slice ps parts.length ce) gb bg N gst gsh s nR gr gs g1 cap1 r5 (gots parts) R w1 (upd ow5 g1 (7, 0, 0)) HG7 HH7 HS7 HRN hs6 hnR2 HT hN HE HRS HI2 _ _ _ _ _ _ _ _ _ _ _ _ _ _ _ _ _ _ _ _ _ _ _ _ _ _ _ _ _ _ _ _ _ _ _ _ _ _ _ _ _ _ _ _ _ _ _ _ _ _ _ _ _ _ _ _ _ _ _ _ _ _ _ _ _ _ _ _ _ _ _ _ _ _ _ _ _ _ _ _ _ _ _ _ _ _ _ _ _ _ _ _ _ _ _ _ _ _ _ _ _ _ _ _ _ _ _ _ _ _ _ _ _ _ _ _ _ _ _ _ _ _ _ _ _ _ _ _ _ _ _ _ _ _ _ _ _ _ _ _ _ _ _ _ _ _ _ _ _ _ _ _ _ _ _ _ _ _ _ _ _ _ _ _ _ _ _ _ _ _ _ _ _ _ _ _ _ _ _ _ _ _ _ _ _ _ _ _ _ _ _ _ _ _ _ _ _ _ _ _ _ _ _ _ _ _ _ _ _ _ _ _ _ _ _ _ _ _ _ _ _ _ _ _ _ _ _ _ _ _ _ _ _ _ _ _ _ _ _ _ _ _ _ _ _ _ _ _ _ _ _ _ _ _ _ _ _ _ _ _ _ _ _ _ _ _ _ _ _ _ _ _ _ _ _ _ _ _ _ _ _ _ _ _ _ _ _ _ _ _ _ _ _ _ _ _ _ _ _ _ _ _ _ _ _ _ _ _ _  ?_
                intros
                rename_i w5 hw
                go_wp2
                go_meet
                case rel => exact hw
              case rest =>
                obtain ⟨rv8, ow8, sp8, pl, p2, st8, _⟩ := hcut.out
                have g8 := HG7.out.step st8 (by simp [Q2]) (by simp [Q2])
                obtain ⟨pq, cq, hps⟩ := p2.placed.shape
                subst hps
                have HEND : Hid (∀ q, GO w ow bg N r5 (gots parts) (.returned (.tuple #[])) (((wc.drewN q).setCell ⟨bg, 3, none⟩ (.slice pq pl.length cq)).setCell ⟨bg, 4, none⟩ (.slice (some ⟨gst, 0, none⟩) (N + 1) (N + 1)))) := by
                  intro q
                  have hst : Step QA w ow wc ow8 := HQ7.out.trans (st8.mono fun p hp => by
                    show p.1 ≠ 0
                    rcases hp with h | h | h | h | h | h | h | h <;> omega)
                  have hlen : (gots pl).length = cum (gots parts) N := by
                    have h1 := pl_len (fun e he => (HT.out e he).1) p2.lay HRN.out.lt
                    have h2 := p2.full.all
                    dsimp only at h1 h2
                    omega
                  exact gather_end hst g8 (HS7.out.step st8 (by simp [Q2])) p2.placed p2.full (Cnt.pl_end (fun e he => (HT.out e he).1) p2.lay HRN.out.lt hlen) q
                have e0 := g8.c0
                have c3 := g8.c3
                have c4 := g8.c4
                have f3 := g8.gr.2.free 3
                have f4 := g8.gr.2.free 4
                have n1 : gb ≠ bg := g8.box.ne g8.gr (by simp)
                clear p2 st8 g8 hcut
                go_wp2
                go_region
                all_goals go_wp2
                all_goals go_end0
                all_goals exact HEND.out 1
end Go.Proofs.Qxb6601127a.Base

