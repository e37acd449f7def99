/-
  ZZGather (22).
-/
import Derived.Test.Qxb6601127aZmem
import Derived.Test.Qxb6601127aGather
import Derived.Deep.DeepCutAuto
import Derived.Deep.CutBlock
import Derived.Deep.RegionHeld3
namespace Go.Proofs.Qxb6601127a.Base
open Go.ChangeShapes Go.WideShapes Go.ChangeAt Go.RowKit
open Cnt (Ed psum cum sortE)
set_option maxRecDepth 100000 in
set_option maxHeartbeats 4000000 in
/-- gather, where start is set -/
theorem gather_started (bg N n c : Nat) (a : Addr) (ev : Value) (r5 : Array Value) (w : World) (h : Has w bg 67 (gcells N ev (.slice (some a) n c) r5)) :
    Calls Try.prog 34 #[.pointer (some ⟨bg, 0, none⟩)] w fun e w' => e = .returned (.tuple #[]) ∧ ∃ o, w' = w.alloc o := by
  have c4 : ∀ o, (w.alloc o).cell? ⟨bg, 4, none⟩ = some (.slice (some a) n c) := fun o => (h.alloc o).cell 4
  have hq := fun w => Go.run_neq_slice_nil (P := Try.prog) w 22 3 (some a) n c Try.underlying22
  go_enter Try.func34, Try.ntmps34
  go_wp2
  try simp only [Exit.inBlock, Exit.then]
  refine bodyPost_ret (results_none rfl _ _ _) rfl ?_
  exact ⟨rfl, _, rfl⟩
theorem results_tmp5 {fn : Func} {t u v x y : Tmp} (h : fn.results = #[.tmp t, .tmp u, .tmp v, .tmp x, .tmp y]) (tmps : Array Value) (P : Program) (w : World) :
    (results fn tmps).run P w = .ok (.tuple #[tmps.getD t undef, tmps.getD u undef, tmps.getD v undef, tmps.getD x undef, tmps.getD y undef]) w := by
  simp [results, h]
def z5 : Array Value := #[.slice none 0 0, .slice none 0 0, .bool false, .slice none 0 0, .bool false]
/-- what stands behind gather -/
def ZM (w0 : World) (N : Nat) (E : List Ed) (lens : List Nat) (bg : Nat) (ss : IS) (e : Ending) (w : World) : Prop :=
  e = .returned (.tuple #[]) ∧ ∃ (ow : Ow) (a b : Nat) (ev : Value) (cks : List Ck) (sv : IS) (gc : Array Value) (P : Nat → Array Value → Prop), Step QA w0 now0 w ow ∧ At w ow (2, 0, 0) bg 67 gc ∧ gc[3]? = some ev ∧ gc[4]? = some sv.val ∧ (∀ g cs, P g cs → At w ow (3, 0, 0) g 3 cs) ∧ Row w ow (a, 0, 0) (fun k => (b, 0, k)) ev cks ∧ a < 30 ∧ b < 30 ∧ (gots cks).length = E.length ∧ cks.length ≤ 65536 ∧
    ((ss.p ≠ none ∧ sv = ss ∧ gots cks = E ∧ cks.map Ck.n = lens) ∨ (ss.p = none ∧ gots cks = sortE E N ∧ Full (cum E N) cks ∧ ∃ g, sv = ⟨some ⟨g, 0, none⟩, N + 1, (psum E N N).map fun x : Nat => (x : Int)⟩ ∧ P g (ints (psum E N N))))
theorem gather_call {w0 w : World} {N : Nat} {E : List Ed} {lens : List Nat} {bg : Nat} {ss : IS} {ev : Value} {cks : List Ck} {ow : Ow} (hz : ZB w0 N E lens bg ss.val z5 lens.length ev cks w ow) (hsum : lens.sum = E.length) (hE : E.length ≤ 65536) (hP : lens.length ≤ 65536) (hN : N ≤ 65536)
    (hnil : ss.p = none → ss.c = 0 ∧ ss.zs = []) (htl : ss.p = none → ∀ e ∈ E, 0 ≤ e.f ∧ e.f < (N : Int)) : Calls Try.prog 34 #[.pointer (some ⟨bg, 0, none⟩)] w (ZM w0 N E lens bg ss) := by
  have hg : gots cks = E := by rw [hz.got, List.take_length, hsum, List.take_length]
  have hns : cks.map Ck.n = lens := by
    apply List.ext_getElem?
    intro k
    rw [List.getElem?_map]
    by_cases hk : k < lens.length
    · obtain ⟨x, hx⟩ : ∃ x, cks[k]? = some x := ⟨_, List.getElem?_eq_getElem (by rw [hz.len]; exact hk)⟩
      rw [hx, (hz.ns k _ hx).1]; rfl
    · rw [List.getElem?_eq_none (by rw [hz.len]; omega), List.getElem?_eq_none (by omega)]; rfl
  rcases ss with ⟨sp, sc, sz⟩
  cases sp with
  | none =>
    obtain ⟨h1, h2⟩ := hnil rfl
    dsimp only at h1 h2
    subst h1
    subst h2
    have he : Entry w ow bg N ev z5 cks := by
      refine ⟨hz.gr, hz.row, fun x hx => ?_, by rw [hg]; exact htl rfl, hN, by rw [hg]; exact hE, by rw [hz.len]; exact hP⟩
      obtain ⟨k, hk, hkx⟩ := List.getElem_of_mem hx
      have := hz.ns k x (by rw [List.getElem?_eq_getElem hk, hkx])
      exact this.2.symm
    refine (gather_any bg N ev z5 cks w ow he).mono ?_
    rintro e w' ⟨rfl, ow', pv, pl, gst, st, hgr, hst, hrow, hfull, hso⟩
    rw [hg] at hst hfull hso
    have hlen : (gots pl).length = E.length := by
      rw [hso, Cnt.sort_len _ _ (fun e he => (htl rfl e he).1), Cnt.cum_all _ _ (fun e he => (htl rfl e he).2)]
    have hpl : pl.length ≤ 65536 := by
      rcases Nat.eq_zero_or_pos pl.length with h0 | h0
      · omega
      · have h1 := hfull.lt (pl.length - 1) (by omega)
        have := Cnt.cum_le E N
        omega
    exact ⟨rfl, ow', 12, 22, pv, pl, ⟨some ⟨gst, 0, none⟩, N + 1, (psum E N N).map fun x : Nat => (x : Int)⟩, _, fun g cs => g = gst ∧ cs = ints (psum E N N), hz.st.trans st, hgr, rfl, by simp [IS.val, Cnt.psum_len], by rintro g cs ⟨rfl, rfl⟩; exact hst, hrow, by omega, by omega, hlen, hpl, .inr ⟨rfl, hso, hfull, gst, rfl, rfl, rfl⟩⟩
  | some a =>
    refine (gather_started bg N sz.length sc a ev z5 w hz.gr.2).mono ?_
    rintro e w' ⟨rfl, o, rfl⟩
    have sA : ∀ Q : Pos → Prop, Step Q w ow (w.alloc o) ow := fun Q => (Step.refl Q w ow).alloc o
    have sf := sA fun _ => False
    exact ⟨rfl, ow, 10, 20, ev, cks, ⟨some a, sc, sz⟩, _, fun _ _ => False, hz.st.trans (sA QA), hz.gr.step sf (fun h => h), rfl, rfl, fun _ _ h => h.elim, hz.row.step sf (fun h => h) (fun _ _ h => h), by omega, by omega, by rw [hg], by rw [hz.len]; exact hP, .inl ⟨by simp, rfl, hg, hns⟩⟩
/-- what ZZGather answers -/
def ZR (w0 : World) (N : Nat) (E : List Ed) (lens : List Nat) (ss : IS) (e : Ending) (w : World) : Prop :=
  ∃ (sv s1 s2 s3 s4 : IS) (G : List Ed) (cks : List Ck), e = .returned (.tuple #[sv.val, s1.val, s2.val, s3.val, s4.val]) ∧ Below w0.heap.size w0 w ∧ IS.Ok .i32 w s1 ∧ IS.Ok .i32 w s2 ∧ IS.Ok .u32 w s3 ∧ IS.Ok .i64 w s4 ∧ s1.zs = G.map Ed.f ∧ s2.zs = G.map Ed.t ∧ s3.zs = G.map Ed.k ∧ s4.zs = cks.map (fun x => (x.n : Int)) ∧ G.length = E.length ∧ gots cks = G ∧
    ((ss.p ≠ none ∧ sv = ss ∧ G = E ∧ cks.map Ck.n = lens) ∨ (ss.p = none ∧ G = sortE E N ∧ Full (cum E N) cks ∧ sv.zs = (psum E N N).map (fun x : Nat => (x : Int)) ∧ IS.Ok .i64 w sv ∧ sv.p ≠ none))
theorem ne0 {w0 w : World} {ow : Ow} (st : Step QA w0 now0 w ow) {b o g : Nat} {v : Value} {p : Pos} (h : w0.cell? ⟨b, o, none⟩ = some v) (hg : ow g = p) (hp : p.1 ≠ 0) : g ≠ b := by
  rintro rfl
  have h1 := st.ow g (cell_lt h) (fun hx => hx rfl)
  rw [hg] at h1
  exact hp (by rw [h1]; rfl)
theorem is_at {k : IntKind} {w : World} {p : Option Addr} {c : Nat} {Z : List Int} (h : IS.Ok k w ⟨p, c, Z⟩) {i : Nat} (hi : i < Z.length) : ∃ b o, p = some ⟨b, o, none⟩ ∧ w.cell? ⟨b, o + i, none⟩ = some (.int k (Z.getD i 0)) := by
  obtain ⟨b, o, e1, e2⟩ := h.cells (by show 0 < Z.length; omega)
  refine ⟨b, o, e1, e2 i _ ?_⟩
  show Z[i]? = _
  rw [List.getD_eq_getElem?_getD, List.getElem?_eq_getElem hi]; rfl
set_option maxRecDepth 100000 in
set_option maxHeartbeats 8000000 in
theorem zzgather_any (N : Nat) (fp tp kp lp : Option Addr) (fc tc kc lc : Nat) (F T K L : List Int) (ss : IS) (lens : List Nat) (w : World) (hf : IS.Ok .i32 w ⟨fp, fc, F⟩) (ht : IS.Ok .i32 w ⟨tp, tc, T⟩) (hk : IS.Ok .u32 w ⟨kp, kc, K⟩) (hl : IS.Ok .i64 w ⟨lp, lc, L⟩)
    (hL : L = lens.map fun x : Nat => (x : Int)) (hsum : lens.sum = F.length) (hT : T.length = F.length) (hK : K.length = F.length) (hE : F.length ≤ 65536) (hP : lens.length ≤ 65536) (hN : N ≤ 65536) (hnil : ss.p = none → ss.c = 0 ∧ ss.zs = []) (htl : ss.p = none → ∀ f ∈ F, 0 ≤ f ∧ f < (N : Int)) :
    Calls Try.prog 22 #[.int .i64 N, .slice fp F.length fc, .slice tp F.length tc, .slice kp F.length kc, .slice lp lens.length lc, .slice ss.p ss.zs.length ss.c] w (ZR w N (edg F T K) lens ss) := by
  obtain ⟨E, hEd⟩ : ∃ E, E = edg F T K := ⟨_, rfl⟩
  have HED : Hid (E = edg F T K) := hEd
  have HEL : Hid (E.length = F.length) := by rw [hEd]; exact edg_len F T K
  have HF : Hid (IS.Ok .i32 w ⟨fp, fc, F⟩) := hf
  have HTT : Hid (IS.Ok .i32 w ⟨tp, tc, T⟩) := ht
  have HKK : Hid (IS.Ok .u32 w ⟨kp, kc, K⟩) := hk
  have HLL : Hid (IS.Ok .i64 w ⟨lp, lc, L⟩) := hl
  have HL : Hid (L = lens.map fun x : Nat => (x : Int)) := hL
  have HSU : Hid (lens.sum = F.length ∧ T.length = F.length ∧ K.length = F.length) := ⟨hsum, hT, hK⟩
  have HGC : Hid (∀ ev cks wz ow, ZB w N E lens w.heap.size ss.val z5 lens.length ev cks wz ow → Calls Try.prog 34 #[.pointer (some ⟨w.heap.size, 0, none⟩)] wz (ZM w N E lens w.heap.size ss)) := by
    intro ev cks wz ow hz
    refine gather_call hz (by rw [HEL.out]; exact hsum) (by rw [HEL.out]; exact hE) hP hN hnil (fun h0 e he => ?_)
    have h1 : e.f ∈ E.map Ed.f := List.mem_map_of_mem he
    rw [hEd, edg_f] at h1
    exact htl h0 _ h1
  have HZ0 : Hid (∃ ev cks ow, ZB w N E lens w.heap.size ss.val z5 0 ev cks (w.alloc (.cells #[.slice none 0 0, .int .i64 N, .slice none 0 0, .slice none 0 0, .slice ss.p ss.zs.length ss.c, .bool false, .slice none 0 0, .bool false] 67)) ow) := by
    have st : ∀ Q : Pos → Prop, Step Q w now0 (w.alloc (.cells #[.slice none 0 0, .int .i64 N, .slice none 0 0, .slice none 0 0, .slice ss.p ss.zs.length ss.c, .bool false, .slice none 0 0, .bool false] 67)) (upd now0 w.heap.size (2, 0, 0)) := fun Q => ((Step.refl Q w now0).alloc _).own (.inl (Nat.le_refl _)) _
    exact ⟨.slice none 0 0, [], _, st QA, ⟨upd_self _ _ _, has_new _ _ _⟩, Row.nil _ _ _ _, rfl, fun k x h => by simp at h, by simp [gots]⟩
  have hEd2 : E.length = F.length := HEL.out
  clear hf ht hk hl hL hsum hT hK hEd hnil htl
  generalize ss.p = sp at *
  generalize ss.zs.length = sn at *
  generalize ss.c = scc at *
  go_enter Try.func22, Try.ntmps22
  go_upto_block 0 with fail
  go_cut [] (fun w5 => Hid (∃ ev cks ow, ZB w N E lens w.heap.size ss.val z5 lens.length ev cks w5 ow))
  case first =>
    go_wp2
    go_loopw [18, 37] (fun pp i wr => ∃ j : Nat, j ≤ lens.length ∧ i = .int .i64 j ∧ pp = .int .i64 ((lens.take j).sum : Nat) ∧ Hid (∃ ev cks ow, ZB w N E lens w.heap.size ss.val z5 j ev cks wr ow)) (fun _ i _ => lens.length - (intOf i).toNat)
    case atStart => exact ⟨0, by omega, rfl, by simp, HZ0⟩
    case round =>
      obtain ⟨j, hj, rfl, rfl, hi⟩ := hrel
      clear HZ0
      by_cases hlt : j < lens.length
      · obtain ⟨n, hn⟩ : ∃ n, lens[j]? = some n := ⟨_, List.getElem?_eq_getElem hlt⟩
        have HN : Hid (lens[j]? = some n) := hn
        obtain ⟨p0, hp0⟩ : ∃ p0, p0 = (lens.take j).sum := ⟨_, rfl⟩
        rw [← hp0]
        have hpn : p0 + n ≤ F.length := by
          have h1 := sum_take_succ hn
          have h2 := sum_le (lens := lens) (j + 1)
          have := HSU.out.1
          omega
        have HP0 : Hid (p0 = (lens.take j).sum) := hp0
        obtain ⟨bl, ol, hlp, hlc⟩ : ∃ b o, lp = some ⟨b, o, none⟩ ∧ w.cell? ⟨b, o + j, none⟩ = some (.int .i64 (n : Int)) := by
          obtain ⟨b, o, e1, e2⟩ := HLL.out.cells (by show 0 < L.length; rw [HL.out]; simp; omega)
          exact ⟨b, o, e1, e2 j _ (by show L[j]? = _; rw [HL.out, List.getElem?_map, hn]; rfl)⟩
        subst hlp
        obtain ⟨ev, cks, ow, zb⟩ := hi.out
        have hlc2 : wr.cell? ⟨bl, ol + j, none⟩ = some (.int .i64 (n : Int)) := cell0 zb.st hlc
        have hmk : ∀ w : World, (Instr.makeSlice 68 (.int .i64 (n : Int)) (.int .i64 (n : Int))).run Try.prog w = .ok (.slice (some ⟨w.heap.size, 0, none⟩) n n) (w.alloc (.cells (ecells (List.replicate n ⟨0, 0, 0⟩)) 70)) := make70 n n (Nat.le_refl _) (by omega)
        have HZI : Hid (∃ ow, ZI w N E lens w.heap.size ss.val z5 j ev cks wr.heap.size p0 n 0 (wr.alloc (.cells (ecells (List.replicate n ⟨0, 0, 0⟩)) 70)) ow) := ⟨_, ZI.new zb p0 n⟩
        have hji : (j : Int) < (lens.length : Int) := by omega
        obtain ⟨g, hg⟩ : ∃ g, g = wr.heap.size := ⟨_, rfl⟩
        have HG : Hid (g = wr.heap.size) := hg
        rw [← hg] at HZI
        clear zb hi hn hp0 hlc hg
        go_upto_block 2 with fail
        rw [← HG.out]
        clear hmk
        go_cut [18] (fun pp w5 => pp = .int .i64 ((p0 + n : Nat) : Int) ∧ Hid (∃ ow, ZI w N E lens w.heap.size ss.val z5 j ev cks g p0 n n w5 ow))
        case first =>
          go_wp2
          go_loopw [18, 45] (fun pp i w2 => ∃ q : Nat, q ≤ n ∧ i = .int .i64 q ∧ pp = .int .i64 ((p0 + q : Nat) : Int) ∧ Hid (∃ ow, ZI w N E lens w.heap.size ss.val z5 j ev cks g p0 n q w2 ow)) (fun _ i _ => n - (intOf i).toNat)
          case atStart => exact ⟨0, by omega, rfl, rfl, HZI⟩
          case round =>
            obtain ⟨q, hq, rfl, rfl, hi2⟩ := hrel
            clear HZI hlc2
            by_cases hlt2 : q < n
            · obtain ⟨P, hPP⟩ : ∃ P, P = p0 + q := ⟨_, rfl⟩
              rw [← hPP]
              obtain ⟨ow, zi⟩ := hi2.out
              obtain ⟨bf, of', hfp, hfc⟩ := is_at (i := P) HF.out (by omega)
              obtain ⟨bt, ot, htp, htc⟩ := is_at (i := P) HTT.out (by have := HSU.out.2.1; omega)
              obtain ⟨bk, ok, hkp, hkc⟩ := is_at (i := P) HKK.out (by have := HSU.out.2.2; omega)
              subst hfp
              subst htp
              subst hkp
              have hg := zi.part.1
              have n1 := ne0 zi.zb.st hfc hg (by simp)
              have n2 := ne0 zi.zb.st htc hg (by simp)
              have n3 := ne0 zi.zb.st hkc hg (by simp)
              have cf := cell0 zi.zb.st hfc
              have ct := cell0 zi.zb.st htc
              have ck := cell0 zi.zb.st hkc
              obtain ⟨a, ha⟩ : ∃ a, (fillE E p0 n q)[q]? = some a := ⟨_, List.getElem?_eq_getElem (by rw [fill_len (by omega) hq]; exact hlt2)⟩
              obtain ⟨x0, x1, x2⟩ := ecells_at _ _ _ ha
              have g0 := (zi.part.2.cell _).trans x0
              have g1 := (zi.part.2.cell _).trans x1
              have g2 := (zi.part.2.cell _).trans x2
              have f0 := zi.part.2.free (q * 3)
              have f1 := zi.part.2.free (q * 3 + 1)
              have f2 := zi.part.2.free (q * 3 + 2)
              have he : E[p0 + q]? = some ⟨F.getD P 0, T.getD P 0, K.getD P 0⟩ := by rw [← hPP, HED.out]; exact edg_at F T K P (by omega)
              have HN2 : Hid (∃ ow, ZI w N E lens w.heap.size ss.val z5 j ev cks g p0 n (q + 1) (setE (wr.drewN 1) g q ⟨F.getD P 0, T.getD P 0, K.getD P 0⟩) ow) := ⟨ow, zi.put (by omega) hlt2 he 1⟩
              clear hfc htc hkc ha x0 x1 x2 zi hi2 he hg
              generalize F.getD P 0 = fe at *
              generalize T.getD P 0 = te at *
              generalize K.getD P 0 = ke at *
              have hPi : (P : Int) < (F.length : Int) := by omega
              have hPz : (0 : Int) ≤ (P : Int) := by omega
              have hqi : (q : Int) < (n : Int) := by omega
              have hqz : (0 : Int) ≤ (q : Int) := by omega
              have HPP : Hid (P = p0 + q) := hPP
              clear hPP
              go_wp2
              go_region_held3 (fun w' => w'.cell? ⟨bf, of' + P, none⟩ = some (.int .i32 fe) ∧ w'.cell? ⟨bt, ot + P, none⟩ = some (.int .i32 te) ∧ w'.cell? ⟨bk, ok + P, none⟩ = some (.int .u32 ke)) (go_keep) (fail)
              all_goals go_wp2
              all_goals go_roundw
              case rel => exact ⟨q + 1, by omega, by go_num, by have := HPP.out; simp only [Value.int.injEq, true_and]; omega, HN2⟩
              case measure => simp only [intOf]; omega
            · have hqe : q = n := by omega
              subst hqe
              go_wp2
              go_meet
              case rel => exact ⟨rfl, hi2⟩
        case rest =>
          clear HZI hlc2
          obtain ⟨h18, hz⟩ := hcut
          subst h18
          obtain ⟨ow, zi⟩ := hz.out
          have hcl := zi.zb.len
          obtain ⟨pe, ce, hes⟩ := zi.zb.row.shape
          rw [hcl] at hes
          subst hes
          obtain ⟨i0, hi0, hz0, hz1, hz2⟩ := info_parts info68
          have c3 : wc.cell? ⟨w.heap.size, 3, none⟩ = some (.slice pe j ce) := zi.zb.gr.2.cell 3
          have c3a : ∀ o, (wc.alloc o).cell? ⟨w.heap.size, 3, none⟩ = some (.slice pe j ce) := fun o => (zi.zb.gr.2.alloc o).cell 3
          have HB : Hid (∀ o, (wc.alloc o).ownsRow 0 68 1 (.slice pe j ce) j (cks.map Ck.val)) := by
            intro o
            have h := owns_has zi.zb.row.own fun g hg => Below.heap_alloc wc o g (zi.zb.row.own.lt g hg).2
            rw [hcl] at h; exact h
          have HB2 : Hid (∀ o w1, (wc.alloc o).grownBy w1 (Value.slice pe j ce).ownBlock → w1.cell? ⟨w.heap.size, 3, none⟩ = some (.slice pe j ce) ∧ w1.frozen? ⟨w.heap.size, 3, none⟩ = false) := by
            intro o w1 hgw
            have hh := zi.zb.gr.2.alloc o
            have hne : some w.heap.size ≠ (Value.slice pe j ce).ownBlock := fun e => absurd ((zi.zb.row.hd w.heap.size e.symm).symm.trans zi.zb.gr.1) (by simp)
            exact ⟨(hgw.cell_far ⟨w.heap.size, 3, none⟩ hh.lt hne).trans (hh.cell 3), (hgw.frozen_far ⟨w.heap.size, 3, none⟩ hh.lt hne).trans (hh.free 3)⟩
          have HPU : Hid (∀ o g1 cap1 w1, w1.ownsRow 0 68 1 (.slice (some ⟨g1, 0, none⟩) (j + 1) cap1) (j + 1) (cks.map Ck.val ++ [.slice (some ⟨g, 0, none⟩) n n]) → (wc.alloc o).grownBy w1 (Value.slice pe j ce).ownBlock → ((Value.slice pe j ce).ownBlock = some g1 ∨ g1 = wc.heap.size + 1) → ∃ ev cks ow, ZB w N E lens w.heap.size ss.val z5 (j + 1) ev cks (w1.setCell ⟨w.heap.size, 3, none⟩ (.slice (some ⟨g1, 0, none⟩) (j + 1) cap1)) ow) := by
            intro o g1 cap1 w1 h1 h2 h3
            have hp := HP0.out
            rw [hp] at zi
            obtain ⟨cks', ow1, h⟩ := zi.push HN.out (by omega) (W'' := wc.alloc o) (fun Q => (Step.refl Q _ _).alloc o) h1 h2 (by simpa using h3)
            exact ⟨_, cks', ow1, h⟩
          clear zi hz hcl
          go_wp2_with (
            refine wpList_append_lies _ (by rfl) _ _ _ (by rfl) 0 68 i0 _ 1 24 Try.underlying64 hi0 hz0 hz1 hz2 rfl (by omega) (.slice pe j ce) j (cks.map Ck.val) (by rfl) (HB.out _)
              ⟨wc.heap.size, 0, none⟩ 1 1 [.slice (some ⟨g, 0, none⟩) n n] (by rfl) (by rfl) (World.news_of_block (cs := #[.slice (some ⟨g, 0, none⟩) n n]) (t := 68) (fr := (0, 0)) (heap_alloc_new wc _)) (by simp [Value.oneCell'])
              (by omega) (by unfold maxLen; omega) (by omega) (by omega) (wc.heap.size + 1) (by simp) ?_
            intro g1 cap1 w1 hown1 hgrow hat hlt1
            have c1 := (HB2.out _ _ hgrow).1
            have f1 := (HB2.out _ _ hgrow).2
            have HNX := HPU.out _ _ _ _ hown1 hgrow hat
            clear hown1 hgrow hat)
          refine ⟨⟨j + 1, by omega, by go_num, ?_, HNX⟩, by simp only [intOf]; omega⟩
          rw [sum_take_succ HN.out, ← HP0.out]
          simp only [Value.int.injEq, true_and]
          omega
      · have hje : j = lens.length := by omega
        have HS : Hid (∃ ev cks ow, ZB w N E lens w.heap.size ss.val z5 lens.length ev cks wr ow) := by
          have h := hi.out
          rw [hje] at h; exact h
        clear hje
        go_wp2
        go_meet
        case rel => exact HS
  case rest =>
    obtain ⟨ev0, cks0, ow0, zb0⟩ := hcut.out
    have HGC2 : Hid (Calls Try.prog 34 #[.pointer (some ⟨w.heap.size, 0, none⟩)] wc (ZM w N E lens w.heap.size ss)) := HGC.out _ _ _ _ zb0
    clear zb0 hcut HGC HZ0
    go_wp2_with fail
    with_reducible refine HGC2.out.mono ?_
    rintro ee w2 ⟨rfl, ow, a, b, ev, cks, sv, gc, P, st, hgr, hc3, hc4, hsta, hrow, ha, hb, hlen, hckl, hres⟩
    clear HGC2
    obtain ⟨ow4, zo⟩ := ZO.new st hgr hsta hrow ha hb
    obtain ⟨pe, ce, hes⟩ := hrow.shape
    subst hes
    obtain ⟨W4, hW4⟩ : ∃ W4, W4 = (((w2.alloc (.cells #[] 21)).alloc (.cells #[] 21)).alloc (.cells #[] 46)).alloc (.cells #[] 3) := ⟨_, rfl⟩
    have HW4 : Hid (W4 = (((w2.alloc (.cells #[] 21)).alloc (.cells #[] 21)).alloc (.cells #[] 46)).alloc (.cells #[] 3)) := hW4
    rw [← hW4] at zo
    have c3 : ∀ o1 o2 o3 o4, ((((w2.alloc o1).alloc o2).alloc o3).alloc o4).cell? ⟨w.heap.size, 3, none⟩ = some (.slice pe cks.length ce) := fun o1 o2 o3 o4 => ((((hgr.2.alloc o1).alloc o2).alloc o3).alloc o4).cell 3 |>.trans hc3
    have HRES : Hid ((gots cks).length = E.length ∧ gc[4]? = some sv.val ∧ ((ss.p ≠ none ∧ sv = ss ∧ gots cks = E ∧ cks.map Ck.n = lens) ∨ (ss.p = none ∧ gots cks = sortE E N ∧ Full (cum E N) cks ∧ ∃ g, sv = ⟨some ⟨g, 0, none⟩, N + 1, (psum E N N).map fun x : Nat => (x : Int)⟩ ∧ P g (ints (psum E N N))))) := ⟨hlen, hc4, hres⟩
    have HZ : Hid (∃ ow, ZO w w.heap.size gc P a b (.slice pe cks.length ce) cks ((upto cks 0 0).map Ed.f) ((upto cks 0 0).map Ed.t) ((upto cks 0 0).map Ed.k) ((cks.take 0).map fun x => (x.n : Int)) (.slice (some ⟨w2.heap.size, 0, none⟩) 0 0) (.slice (some ⟨w2.heap.size + 1, 0, none⟩) 0 0) (.slice (some ⟨w2.heap.size + 2, 0, none⟩) 0 0) (.slice (some ⟨w2.heap.size + 3, 0, none⟩) 0 0) W4 ow) := ⟨ow4, by rw [upto_zero]; exact zo⟩
    clear st hgr hc3 hc4 hsta hrow hres zo hW4
    go_upto_block 4 with fail
    rw [← HW4.out]
    clear c3
    go_cut [23, 24, 25, 26] (fun v1 v2 v3 v4 w5 => Hid (∃ ow, ZO w w.heap.size gc P a b (.slice pe cks.length ce) cks ((gots cks).map Ed.f) ((gots cks).map Ed.t) ((gots cks).map Ed.k) (cks.map fun x => (x.n : Int)) v1 v2 v3 v4 w5 ow))
    case first =>
      go_wp2
      go_loopw [23, 24, 25, 26, 89] (fun v1 v2 v3 v4 i wr => ∃ j : Nat, j ≤ cks.length ∧ i = .int .i64 j ∧ Hid (∃ ow, ZO w w.heap.size gc P a b (.slice pe cks.length ce) cks ((upto cks j 0).map Ed.f) ((upto cks j 0).map Ed.t) ((upto cks j 0).map Ed.k) ((cks.take j).map fun x => (x.n : Int)) v1 v2 v3 v4 wr ow)) (fun _ _ _ _ i _ => cks.length - (intOf i).toNat)
      case atStart => exact ⟨0, by omega, rfl, HZ⟩
      case round =>
        obtain ⟨j, hj, rfl, hi⟩ := hrel
        clear HZ HW4
        by_cases hlt : j < cks.length
        · obtain ⟨x, hx⟩ : ∃ x, cks[j]? = some x := ⟨_, List.getElem?_eq_getElem hlt⟩
          have HX : Hid (cks[j]? = some x) := hx
          obtain ⟨ow5, zo⟩ := hi.out
          obtain ⟨ge, hpe, hcell⟩ : ∃ ge, pe = some ⟨ge, 0, none⟩ ∧ wr.cell? ⟨ge, j, none⟩ = some (.slice (some ⟨x.g, 0, none⟩) x.n x.c) := by
            obtain ⟨g, cap, hl⟩ := zo.row.laid (by omega)
            have h1 := hl.v
            simp only [Value.slice.injEq] at h1
            exact ⟨g, h1.1, hl.cell j x hx⟩
          subst hpe
          have HL : Hid (x.got.length = x.n) := got_len (zo.row.ck j x hx).len (zo.row.ck j x hx).le
          have hxn : x.n ≤ 65536 := by
            have h2 : x.got.length ≤ (gots cks).length := by
              obtain ⟨tl, ht⟩ := upto_pre cks (j + 1) 0
              rw [ht, ← upto_next hx]; unfold upto; rw [hx]; simp; omega
            have h3 := HRES.out.1
            have := HL.out
            omega
          obtain ⟨p4, c4, h4⟩ := zo.o4.shape
          have hz4 : ((cks.take j).map fun x => (x.n : Int)).length = j := by simp; omega
          rw [cellsOf_len, hz4] at h4
          subst h4
          obtain ⟨i0, hi0, hz0, hz1, hz2⟩ := info_parts info3
          have HB4 : Hid (∀ o, (wr.alloc o).ownsRow 0 3 1 (.slice p4 j c4) j (cellsOf .i64 ((cks.take j).map fun x => (x.n : Int)))) := by
            intro o
            have h := owns_has zo.o4.own fun g hg => Below.heap_alloc wr o g (zo.o4.own.lt g hg).2
            rw [cellsOf_len, hz4] at h; exact h
          have HA4 : Hid (∀ o g4 cap4 w1, w1.ownsRow 0 3 1 (.slice (some ⟨g4, 0, none⟩) (j + 1) cap4) (j + 1) (cellsOf .i64 ((cks.take j).map fun x => (x.n : Int)) ++ [.int .i64 (x.n : Int)]) → (wr.alloc o).grownBy w1 (Value.slice p4 j c4).ownBlock → ((Value.slice p4 j c4).ownBlock = some g4 ∨ g4 = wr.heap.size + 1) → Hid (∃ ow, ZO w w.heap.size gc P a b (.slice (some ⟨ge, 0, none⟩) cks.length ce) cks ((upto cks j 0).map Ed.f) ((upto cks j 0).map Ed.t) ((upto cks j 0).map Ed.k) ((cks.take (j + 1)).map fun x => (x.n : Int)) u23 u24 u25 (.slice (some ⟨g4, 0, none⟩) (j + 1) cap4) w1 ow)) := by
            intro o g4 cap4 w1 h1 h2 h3
            obtain ⟨ow1, z, _⟩ := zo.ap4 o (z := (x.n : Int)) (g := g4) (cap := cap4) (by rw [hz4]; exact h1) h2 h3
            rw [hz4] at z
            refine ⟨ow1, ?_⟩
            have e : ((cks.take (j + 1)).map fun x => (x.n : Int)) = ((cks.take j).map fun x => (x.n : Int)) ++ [(x.n : Int)] := by rw [List.take_add_one, hx]; simp
            rw [e]; exact z
          have hji : (j : Int) < (cks.length : Int) := by omega
          clear zo hi hx hz4
          go_upto_block 6 with (
            refine wpList_append_lies _ (by rfl) _ _ _ (by rfl) 0 3 i0 _ 1 8 Try.underlying22 hi0 hz0 hz1 hz2 rfl (by omega) (.slice p4 j c4) j (cellsOf .i64 ((cks.take j).map fun x => (x.n : Int))) (by rfl) (HB4.out _)
              ⟨wr.heap.size, 0, none⟩ 1 1 [.int .i64 (x.n : Int)] (by rfl) (by rfl) (World.news_of_block (cs := #[.int .i64 (x.n : Int)]) (t := 3) (fr := (0, 0)) (heap_alloc_new wr _)) (by simp [Value.oneCell'])
              (by omega) (by unfold maxLen; omega) (by omega) (by omega) (wr.heap.size + 1) (by simp) ?_
            intro g4 cap4 w4 hown4 hgrow4 hat4 hlt4
            have HZ4 := HA4.out _ _ _ _ hown4 hgrow4 hat4
            clear hown4 hgrow4 hat4)
          clear HA4 HB4 hcell
          go_wp2
          go_loopw [23, 24, 25, 100] (fun v1 v2 v3 i w5 => ∃ q : Nat, q ≤ x.n ∧ i = .int .i64 q ∧ Hid (∃ ow, ZO w w.heap.size gc P a b (.slice (some ⟨ge, 0, none⟩) cks.length ce) cks ((upto cks j q).map Ed.f) ((upto cks j q).map Ed.t) ((upto cks j q).map Ed.k) ((cks.take (j + 1)).map fun x => (x.n : Int)) v1 v2 v3 (.slice (some ⟨g4, 0, none⟩) (j + 1) cap4) w5 ow)) (fun _ _ _ i _ => x.n - (intOf i).toNat)
          case atStart => exact ⟨0, by omega, rfl, HZ4⟩
          case round =>
            obtain ⟨q, hq, rfl, hi2⟩ := hrel
            clear HZ4
            by_cases hlt2 : q < x.n
            · obtain ⟨e, he⟩ : ∃ e, x.got[q]? = some e := ⟨_, List.getElem?_eq_getElem (by rw [HL.out]; exact hlt2)⟩
              have hes : x.es[q]? = some e := by rw [← got_at hlt2]; exact he
              have HEE : Hid (x.got[q]? = some e) := he
              obtain ⟨be, hbe⟩ : ∃ be, be = wr.heap.size := ⟨_, rfl⟩
              obtain ⟨Wv, hWv⟩ : ∃ Wv, Wv = wr.alloc (.cells #[.int .i32 e.f, .int .i32 e.t, .int .u32 e.k] 70) := ⟨_, rfl⟩
              obtain ⟨ow5, zo5⟩ := hi2.out
              obtain ⟨d0, d1, d2⟩ := (zo5.row.ck j x HX.out).edge hes
              have HS0 : Hid (∃ ow, ZO w w.heap.size gc P a b (.slice (some ⟨ge, 0, none⟩) cks.length ce) cks ((upto cks j q).map Ed.f) ((upto cks j q).map Ed.t) ((upto cks j q).map Ed.k) ((cks.take (j + 1)).map fun x => (x.n : Int)) u23 u24 u25 (.slice (some ⟨g4, 0, none⟩) (j + 1) cap4) Wv ow ∧ At Wv ow (9, 0, 0) be 70 #[.int .i32 e.f, .int .i32 e.t, .int .u32 e.k]) := by
                rw [hWv, hbe]
                have sA : ∀ Q : Pos → Prop, Step Q wr ow5 (wr.alloc (.cells #[.int .i32 e.f, .int .i32 e.t, .int .u32 e.k] 70)) (upd ow5 wr.heap.size (9, 0, 0)) := fun Q => ((Step.refl Q wr ow5).alloc _).own (.inl (Nat.le_refl _)) _
                exact ⟨_, zo5.step sA, upd_self _ _ _, has_new _ _ _⟩
              have HWV : Hid (Wv = wr.alloc (.cells #[.int .i32 e.f, .int .i32 e.t, .int .u32 e.k] 70) ∧ be = wr.heap.size) := ⟨hWv, hbe⟩
              obtain ⟨m, hm⟩ : ∃ m, m = (upto cks j q).length := ⟨_, rfl⟩
              have hm2 : m ≤ 65536 := by
                obtain ⟨tl, ht⟩ := upto_pre cks j q
                have h1 := HRES.out.1
                rw [ht, List.length_append] at h1
                omega
              have HM : Hid (((upto cks j q).map Ed.f).length = m ∧ ((upto cks j q).map Ed.t).length = m ∧ ((upto cks j q).map Ed.k).length = m) := by
                rw [hm]; exact ⟨by simp, by simp, by simp⟩
              have hqi : (q : Int) < (x.n : Int) := by omega
              clear zo5 hi2 hes he hWv hbe hm
              go_upto_region 27 with fail
              rw [← HWV.out.1, ← HWV.out.2]
              clear d0 d1 d2
              obtain ⟨ow1, zo1, bx1⟩ := HS0.out
              obtain ⟨p1, c1, hv1⟩ := zo1.o1.shape
              rw [cellsOf_len, HM.out.1] at hv1
              subst hv1
              obtain ⟨i1, hi1, hy0, hy1, hy2⟩ := info_parts info10
              have b1 : Wv.cell? ⟨be, 0, none⟩ = some (.int .i32 e.f) := bx1.2.cell 0
              have HB1 : Hid (∀ o, (Wv.alloc o).ownsRow 0 21 1 (.slice p1 m c1) m (cellsOf .i32 ((upto cks j q).map Ed.f))) := by
                intro o
                have h := owns_has zo1.o1.own fun g hg => Below.heap_alloc Wv o g (zo1.o1.own.lt g hg).2
                rw [cellsOf_len, HM.out.1] at h; exact h
              have HA1 : Hid (∀ o g1 cap1 w1, w1.ownsRow 0 21 1 (.slice (some ⟨g1, 0, none⟩) (m + 1) cap1) (m + 1) (cellsOf .i32 ((upto cks j q).map Ed.f) ++ [.int .i32 e.f]) → (Wv.alloc o).grownBy w1 (Value.slice p1 m c1).ownBlock → ((Value.slice p1 m c1).ownBlock = some g1 ∨ g1 = Wv.heap.size + 1) → Hid (∃ ow, ZO w w.heap.size gc P a b (.slice (some ⟨ge, 0, none⟩) cks.length ce) cks ((upto cks j q).map Ed.f ++ [e.f]) ((upto cks j q).map Ed.t) ((upto cks j q).map Ed.k) ((cks.take (j + 1)).map fun x => (x.n : Int)) (.slice (some ⟨g1, 0, none⟩) (m + 1) cap1) u24 u25 (.slice (some ⟨g4, 0, none⟩) (j + 1) cap4) w1 ow ∧ At w1 ow (9, 0, 0) be 70 #[.int .i32 e.f, .int .i32 e.t, .int .u32 e.k])) := by
                intro o g1 cap1 w1 h1 h2 h3
                obtain ⟨ow', z, stz⟩ := zo1.ap1 o (z := e.f) (g := g1) (cap := cap1) (by rw [HM.out.1]; exact h1) h2 h3
                rw [HM.out.1] at z
                exact ⟨ow', z, bx1.step stz (by simp)⟩
              clear zo1 bx1 HS0
              go_cut [23] (fun vv w6 => Hid (∃ ow, ZO w w.heap.size gc P a b (.slice (some ⟨ge, 0, none⟩) cks.length ce) cks ((upto cks j q).map Ed.f ++ [e.f]) ((upto cks j q).map Ed.t) ((upto cks j q).map Ed.k) ((cks.take (j + 1)).map fun x => (x.n : Int)) vv u24 u25 (.slice (some ⟨g4, 0, none⟩) (j + 1) cap4) w6 ow ∧ At w6 ow (9, 0, 0) be 70 #[.int .i32 e.f, .int .i32 e.t, .int .u32 e.k]))
              case first =>
                go_wp2_with (
                  refine wpList_append_lies _ (by rfl) _ _ _ (by rfl) 0 21 i1 _ 1 4 Try.underlying23 hi1 hy0 hy1 hy2 rfl (by omega) (.slice p1 m c1) m (cellsOf .i32 ((upto cks j q).map Ed.f)) (by rfl) (HB1.out _)
                    ⟨Wv.heap.size, 0, none⟩ 1 1 [.int .i32 e.f] (by rfl) (by rfl) (World.news_of_block (cs := #[.int .i32 e.f]) (t := 21) (fr := (0, 0)) (heap_alloc_new Wv _)) (by simp [Value.oneCell'])
                    (by omega) (by unfold maxLen; omega) (by omega) (by omega) (Wv.heap.size + 1) (by simp) ?_
                  intro g1 cap1 w1 hown1 hgrow1 hat1 hlt1
                  have HNX := HA1.out _ _ _ _ hown1 hgrow1 hat1
                  clear hown1 hgrow1 hat1)
                go_meet
                case rel => exact HNX
              case rest =>
                clear HA1 HB1 b1
                obtain ⟨ow2, zo2, bx2⟩ := hcut.out
                obtain ⟨p2, c2, hv2⟩ := zo2.o2.shape
                rw [cellsOf_len, HM.out.2.1] at hv2
                subst hv2
                obtain ⟨i2, hi2, hy0, hy1, hy2⟩ := info_parts info10
                have b2 : wc.cell? ⟨be, 1, none⟩ = some (.int .i32 e.t) := bx2.2.cell 1
                have HB2 : Hid (∀ o, (wc.alloc o).ownsRow 0 21 1 (.slice p2 m c2) m (cellsOf .i32 ((upto cks j q).map Ed.t))) := by
                  intro o
                  have h := owns_has zo2.o2.own fun g hg => Below.heap_alloc wc o g (zo2.o2.own.lt g hg).2
                  rw [cellsOf_len, HM.out.2.1] at h; exact h
                have HA2 : Hid (∀ o g1 cap1 w1, w1.ownsRow 0 21 1 (.slice (some ⟨g1, 0, none⟩) (m + 1) cap1) (m + 1) (cellsOf .i32 ((upto cks j q).map Ed.t) ++ [.int .i32 e.t]) → (wc.alloc o).grownBy w1 (Value.slice p2 m c2).ownBlock → ((Value.slice p2 m c2).ownBlock = some g1 ∨ g1 = wc.heap.size + 1) → Hid (∃ ow, ZO w w.heap.size gc P a b (.slice (some ⟨ge, 0, none⟩) cks.length ce) cks ((upto cks j q).map Ed.f ++ [e.f]) ((upto cks j q).map Ed.t ++ [e.t]) ((upto cks j q).map Ed.k) ((cks.take (j + 1)).map fun x => (x.n : Int)) u23 (.slice (some ⟨g1, 0, none⟩) (m + 1) cap1) u25 (.slice (some ⟨g4, 0, none⟩) (j + 1) cap4) w1 ow ∧ At w1 ow (9, 0, 0) be 70 #[.int .i32 e.f, .int .i32 e.t, .int .u32 e.k])) := by
                  intro o g1 cap1 w1 h1 h2 h3
                  obtain ⟨ow', z, stz⟩ := zo2.ap2 o (z := e.t) (g := g1) (cap := cap1) (by rw [HM.out.2.1]; exact h1) h2 h3
                  rw [HM.out.2.1] at z
                  exact ⟨ow', z, bx2.step stz (by simp)⟩
                clear zo2 bx2 hcut
                go_upto_region 28 with fail
                go_cut [24] (fun vv w6 => Hid (∃ ow, ZO w w.heap.size gc P a b (.slice (some ⟨ge, 0, none⟩) cks.length ce) cks ((upto cks j q).map Ed.f ++ [e.f]) ((upto cks j q).map Ed.t ++ [e.t]) ((upto cks j q).map Ed.k) ((cks.take (j + 1)).map fun x => (x.n : Int)) u23 vv u25 (.slice (some ⟨g4, 0, none⟩) (j + 1) cap4) w6 ow ∧ At w6 ow (9, 0, 0) be 70 #[.int .i32 e.f, .int .i32 e.t, .int .u32 e.k]))
                case first =>
                  go_wp2_with (
                    refine wpList_append_lies _ (by rfl) _ _ _ (by rfl) 0 21 i2 _ 1 4 Try.underlying23 hi2 hy0 hy1 hy2 rfl (by omega) (.slice p2 m c2) m (cellsOf .i32 ((upto cks j q).map Ed.t)) (by rfl) (HB2.out _)
                      ⟨wc.heap.size, 0, none⟩ 1 1 [.int .i32 e.t] (by rfl) (by rfl) (World.news_of_block (cs := #[.int .i32 e.t]) (t := 21) (fr := (0, 0)) (heap_alloc_new wc _)) (by simp [Value.oneCell'])
                      (by omega) (by unfold maxLen; omega) (by omega) (by omega) (wc.heap.size + 1) (by simp) ?_
                    intro g1 cap1 w1 hown1 hgrow1 hat1 hlt1
                    have HNX := HA2.out _ _ _ _ hown1 hgrow1 hat1
                    clear hown1 hgrow1 hat1)
                  go_meet
                  case rel => exact HNX
                case rest =>
                  clear HA2 HB2 b2
                  obtain ⟨ow3, zo3, bx3⟩ := hcut.out
                  obtain ⟨p3, c3, hv3⟩ := zo3.o3.shape
                  rw [cellsOf_len, HM.out.2.2] at hv3
                  subst hv3
                  obtain ⟨i3, hi3, hy0, hy1, hy2⟩ := info_parts info21
                  have b3 : wc.cell? ⟨be, 2, none⟩ = some (.int .u32 e.k) := bx3.2.cell 2
                  have HB3 : Hid (∀ o, (wc.alloc o).ownsRow 0 46 1 (.slice p3 m c3) m (cellsOf .u32 ((upto cks j q).map Ed.k))) := by
                    intro o
                    have h := owns_has zo3.o3.own fun g hg => Below.heap_alloc wc o g (zo3.o3.own.lt g hg).2
                    rw [cellsOf_len, HM.out.2.2] at h; exact h
                  have HA3 : Hid (∀ o g1 cap1 w1, w1.ownsRow 0 46 1 (.slice (some ⟨g1, 0, none⟩) (m + 1) cap1) (m + 1) (cellsOf .u32 ((upto cks j q).map Ed.k) ++ [.int .u32 e.k]) → (wc.alloc o).grownBy w1 (Value.slice p3 m c3).ownBlock → ((Value.slice p3 m c3).ownBlock = some g1 ∨ g1 = wc.heap.size + 1) → Hid (∃ ow, ZO w w.heap.size gc P a b (.slice (some ⟨ge, 0, none⟩) cks.length ce) cks ((upto cks j q).map Ed.f ++ [e.f]) ((upto cks j q).map Ed.t ++ [e.t]) ((upto cks j q).map Ed.k ++ [e.k]) ((cks.take (j + 1)).map fun x => (x.n : Int)) u23 u24 (.slice (some ⟨g1, 0, none⟩) (m + 1) cap1) (.slice (some ⟨g4, 0, none⟩) (j + 1) cap4) w1 ow ∧ At w1 ow (9, 0, 0) be 70 #[.int .i32 e.f, .int .i32 e.t, .int .u32 e.k])) := by
                    intro o g1 cap1 w1 h1 h2 h3
                    obtain ⟨ow', z, stz⟩ := zo3.ap3 o (z := e.k) (g := g1) (cap := cap1) (by rw [HM.out.2.2]; exact h1) h2 h3
                    rw [HM.out.2.2] at z
                    exact ⟨ow', z, bx3.step stz (by simp)⟩
                  clear zo3 bx3 hcut
                  go_upto_region 29 with fail
                  go_wp2_with (
                    refine wpList_append_lies _ (by rfl) _ _ _ (by rfl) 0 46 i3 _ 1 4 Try.underlying38 hi3 hy0 hy1 hy2 rfl (by omega) (.slice p3 m c3) m (cellsOf .u32 ((upto cks j q).map Ed.k)) (by rfl) (HB3.out _)
                      ⟨wc.heap.size, 0, none⟩ 1 1 [.int .u32 e.k] (by rfl) (by rfl) (World.news_of_block (cs := #[.int .u32 e.k]) (t := 46) (fr := (0, 0)) (heap_alloc_new wc _)) (by simp [Value.oneCell'])
                      (by omega) (by unfold maxLen; omega) (by omega) (by omega) (wc.heap.size + 1) (by simp) ?_
                    intro g1 cap1 w1 hown1 hgrow1 hat1 hlt1
                    have HNX := HA3.out _ _ _ _ hown1 hgrow1 hat1
                    clear hown1 hgrow1 hat1)
                  have HN2 : Hid (∃ ow, ZO w w.heap.size gc P a b (.slice (some ⟨ge, 0, none⟩) cks.length ce) cks ((upto cks j (q + 1)).map Ed.f) ((upto cks j (q + 1)).map Ed.t) ((upto cks j (q + 1)).map Ed.k) ((cks.take (j + 1)).map fun x => (x.n : Int)) u23 u24 (.slice (some ⟨g1, 0, none⟩) (m + 1) cap1) (.slice (some ⟨g4, 0, none⟩) (j + 1) cap4) w1 ow) := by
                    obtain ⟨ow', z, _⟩ := HNX.out
                    refine ⟨ow', ?_⟩
                    rw [upto_more HX.out HEE.out, List.map_append, List.map_append, List.map_append]; exact z
                  exact ⟨⟨q + 1, by omega, by go_num, HN2⟩, by simp only [intOf]; omega⟩
            · have hqe : q = x.n := by omega
              have HN2 : Hid (∃ ow, ZO w w.heap.size gc P a b (.slice (some ⟨ge, 0, none⟩) cks.length ce) cks ((upto cks (j + 1) 0).map Ed.f) ((upto cks (j + 1) 0).map Ed.t) ((upto cks (j + 1) 0).map Ed.k) ((cks.take (j + 1)).map fun x => (x.n : Int)) u23 u24 u25 (.slice (some ⟨g4, 0, none⟩) (j + 1) cap4) wr ow) := by
                have h := hi2.out
                rw [hqe, ← HL.out, upto_next HX.out] at h; exact h
              clear hqe hi2
              go_wp2
              go_roundw
              case rel => exact ⟨j + 1, by omega, by go_num, HN2⟩
              case measure => simp only [intOf]; omega
        · have hje : j = cks.length := by omega
          have HS : Hid (∃ ow, ZO w w.heap.size gc P a b (.slice pe cks.length ce) cks ((gots cks).map Ed.f) ((gots cks).map Ed.t) ((gots cks).map Ed.k) (cks.map fun x => (x.n : Int)) u23 u24 u25 u26 wr ow) := by
            have h := hi.out
            rw [hje, upto_all, List.take_length] at h; exact h
          clear hje
          go_wp2
          go_meet
          case rel => exact HS
    case rest =>
      clear HZ HW4
      obtain ⟨ow, zo⟩ := hcut.out
      have c4 : wc.cell? ⟨w.heap.size, 4, none⟩ = some (.slice sv.p sv.zs.length sv.c) := (zo.gr.2.cell 4).trans HRES.out.2.1
      have HEND : Hid (ZR w N (edg F T K) lens ss (.returned (.tuple #[.slice sv.p sv.zs.length sv.c, u23, u24, u25, u26])) wc) := by
        rw [← HED.out]
        obtain ⟨s1, e1, z1, k1⟩ := zo.o1.is
        obtain ⟨s2, e2, z2, k2⟩ := zo.o2.is
        obtain ⟨s3, e3, z3, k3⟩ := zo.o3.is
        obtain ⟨s4, e4, z4, k4⟩ := zo.o4.is
        refine ⟨sv, s1, s2, s3, s4, gots cks, cks, by rw [e1, e2, e3, e4]; rfl, keep0 zo.st, k1, k2, k3, k4, z1, z2, z3, z4, HRES.out.1, rfl, ?_⟩
        rcases HRES.out.2.2 with ⟨h1, h2, h3, h4⟩ | ⟨h1, h2, h3, g, h4, h5⟩
        · exact .inl ⟨h1, h2, h3, h4⟩
        · refine .inr ⟨h1, h2, h3, by rw [h4], ?_, by rw [h4]; simp⟩
          have hat := zo.sta g _ h5
          rw [h4]
          refine ⟨fun _ => ⟨g, 0, rfl, fun i z hz => ?_⟩, by show ((psum E N N).map fun x : Nat => (x : Int)).length ≤ maxLen; rw [List.length_map, Cnt.psum_len]; unfold maxLen; omega⟩
          rw [Nat.zero_add, hat.2.cell]
          dsimp only at hz
          rw [List.getElem?_map] at hz
          obtain ⟨y, hy, hyz⟩ := Option.map_eq_some_iff.1 hz
          rw [ints_at hy, hyz]
      clear zo hcut
      go_wp2
      try simp only [Exit.inBlock, Exit.then]
      refine bodyPost_ret (results_tmp5 rfl _ _ _) rfl ?_
      exact HEND
end Go.Proofs.Qxb6601127a.Base

