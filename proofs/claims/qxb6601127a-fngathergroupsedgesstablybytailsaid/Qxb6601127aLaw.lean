/-
  THE LAW (5), its two ways: start is set; start is nil.
-/
import Derived.Test.Qxb6601127aZga
import Derived.Lib.SliceRun
import Derived.BigQuiet
namespace Go.Proofs.Qxb6601127a.Base
open Go.ChangeShapes Go.WideShapes Go.ChangeAt Go.RowKit
open Cnt (Ed psum cum sortE)
def LawP (w : World) (e : Ending) (w' : World) : Prop := e = .returned (.bool true) ∧ Below w.heap.size w w'
/-- what a clone answers -/
def CPn (k : IntKind) (w : World) (p : Option Addr) (z : List Int) (n : Nat) (e : Ending) (w' : World) : Prop :=
  ∃ q d, e = .returned (.slice q n d) ∧ IS.Ok k w' ⟨q, d, z⟩ ∧ (q = none ↔ p = none) ∧ Below w.heap.size w w'
theorem CPn.of {k : IntKind} {w : World} {p : Option Addr} {c n : Nat} {z : List Int} (hl : z.length = n) (e : Ending) (w' : World) (h : CP k w ⟨p, c, z⟩ e w') : CPn k w p z n e w' := by
  obtain ⟨⟨q, d, y⟩, he, hc⟩ := h
  have hy := hc.zs
  dsimp only at hy he
  subst hy
  exact ⟨q, d, by rw [he, hl], hc.ok, hc.nil, hc.below⟩
theorem clone10_n {w : World} {p : Option Addr} {c n : Nat} {z : List Int} (h : IS.Ok .i32 w ⟨p, c, z⟩) (hl : z.length = n) (hn : n ≤ 1048576) : Calls Try.prog 10 #[.slice p n c] w (CPn .i32 w p z n) := by
  have := (clone10_any ⟨p, c, z⟩ w h (by show z.length ≤ _; omega)).mono (CPn.of hl)
  dsimp only at this; rw [hl] at this; exact this
theorem clone21_n {w : World} {p : Option Addr} {c n : Nat} {z : List Int} (h : IS.Ok .u32 w ⟨p, c, z⟩) (hl : z.length = n) (hn : n ≤ 1048576) : Calls Try.prog 21 #[.slice p n c] w (CPn .u32 w p z n) := by
  have := (clone21_any ⟨p, c, z⟩ w h (by show z.length ≤ _; omega)).mono (CPn.of hl)
  dsimp only at this; rw [hl] at this; exact this
theorem clone9_n {w : World} {p : Option Addr} {c n : Nat} {z : List Int} (h : IS.Ok .i64 w ⟨p, c, z⟩) (hl : z.length = n) (hn : n ≤ 1048576) : Calls Try.prog 9 #[.slice p n c] w (CPn .i64 w p z n) := by
  have := (clone9_any ⟨p, c, z⟩ w h (by show z.length ≤ _; omega)).mono (CPn.of hl)
  dsimp only at this; rw [hl] at this; exact this
theorem same_n {w : World} {p q : Option Addr} {c d n : Nat} {z : List Int} (h : IS.Ok .i64 w ⟨p, c, z⟩) (h' : IS.Ok .i64 w ⟨q, d, z⟩) (hl : z.length = n) : Calls Try.prog 23 #[.slice p n c, .slice q n d] w (Tells true w) := by
  have := same_any ⟨p, c, z⟩ ⟨q, d, z⟩ w h h'
  dsimp only at this; rw [hl] at this; simpa using this
theorem lens_of {z : List Int} {n : Nat} (h : Lay z n) : ∃ lens : List Nat, z = lens.map (fun x : Nat => (x : Int)) ∧ lens.sum = n := by
  obtain ⟨h0, h1⟩ := h
  suffices H : ∀ (z : List Int), (∀ l ∈ z, 0 ≤ l) → ∃ lens : List Nat, z = lens.map (fun x : Nat => (x : Int)) ∧ (lens.sum : Int) = z.sum by
    obtain ⟨lens, e1, e2⟩ := H z h0
    exact ⟨lens, e1, by omega⟩
  intro z
  induction z with
  | nil => intro _; exact ⟨[], rfl, rfl⟩
  | cons a t ih =>
    intro h
    obtain ⟨lens, e1, e2⟩ := ih fun l hl => h l (by simp [hl])
    obtain ⟨m, hm⟩ := Int.eq_ofNat_of_zero_le (h a (by simp))
    refine ⟨m :: lens, by rw [e1, hm]; rfl, ?_⟩
    simp only [List.sum_cons]
    rw [Int.natCast_add, e2, hm]
/-- what ZZGather answers, opened -/
def ZRn (w0 : World) (N n : Nat) (E : List Ed) (lens : List Nat) (ss : IS) (e : Ending) (w : World) : Prop :=
  ∃ (q0 q1 q2 q3 q4 : Option Addr) (d0 d1 d2 d3 d4 m0 : Nat) (y0 : List Int) (G : List Ed) (cks : List Ck), e = .returned (.tuple #[.slice q0 m0 d0, .slice q1 n d1, .slice q2 n d2, .slice q3 n d3, .slice q4 cks.length d4]) ∧ y0.length = m0 ∧ Below w0.heap.size w0 w ∧ IS.Ok .i32 w ⟨q1, d1, G.map Ed.f⟩ ∧ IS.Ok .i32 w ⟨q2, d2, G.map Ed.t⟩ ∧ IS.Ok .u32 w ⟨q3, d3, G.map Ed.k⟩ ∧ IS.Ok .i64 w ⟨q4, d4, cks.map (fun x => (x.n : Int))⟩ ∧ G.length = n ∧ gots cks = G ∧
    ((ss.p ≠ none ∧ (⟨q0, d0, y0⟩ : IS) = ss ∧ G = E ∧ cks.map Ck.n = lens) ∨ (ss.p = none ∧ G = sortE E N ∧ Full (cum E N) cks ∧ y0 = (psum E N N).map (fun x : Nat => (x : Int)) ∧ IS.Ok .i64 w ⟨q0, d0, y0⟩ ∧ q0 ≠ none))
theorem ZRn.of {w0 : World} {N n : Nat} {E : List Ed} {lens : List Nat} {ss : IS} (hn : E.length = n) (e : Ending) (w : World) (h : ZR w0 N E lens ss e w) : ZRn w0 N n E lens ss e w := by
  obtain ⟨⟨q0, d0, y0⟩, ⟨q1, d1, y1⟩, ⟨q2, d2, y2⟩, ⟨q3, d3, y3⟩, ⟨q4, d4, y4⟩, G, cks, he, hb, o1, o2, o3, o4, h1, h2, h3, h4, hG, hc, hr⟩ := h
  dsimp only at h1 h2 h3 h4 hr
  subst h1
  subst h2
  subst h3
  subst h4
  exact ⟨q0, q1, q2, q3, q4, d0, d1, d2, d3, d4, y0.length, y0, G, cks, by rw [he]; simp [IS.val, hG, hn], rfl, hb, o1, o2, o3, o4, by rw [hG, hn], hc, hr⟩
theorem zz_n (N n n4 : Nat) (fp tp kp lp : Option Addr) (fc tc kc lc : Nat) (F T K L : List Int) (ss : IS) (m : Nat) (lens : List Nat) (w : World) (hf : IS.Ok .i32 w ⟨fp, fc, F⟩) (ht : IS.Ok .i32 w ⟨tp, tc, T⟩) (hk : IS.Ok .u32 w ⟨kp, kc, K⟩) (hl : IS.Ok .i64 w ⟨lp, lc, L⟩)
    (hL : L = lens.map fun x : Nat => (x : Int)) (hsum : lens.sum = n) (hF : F.length = n) (hT : T.length = n) (hK : K.length = n) (hL4 : L.length = n4) (hE : n ≤ 65536) (hP : n4 ≤ 65536) (hN : N ≤ 65536) (hm : ss.zs.length = m) (hnil : ss.p = none → ss.c = 0 ∧ ss.zs = []) (htl : ss.p = none → ∀ f ∈ F, 0 ≤ f ∧ f < (N : Int)) :
    Calls Try.prog 22 #[.int .i64 N, .slice fp n fc, .slice tp n tc, .slice kp n kc, .slice lp n4 lc, .slice ss.p m ss.c] w (ZRn w N n (edg F T K) lens ss) := by
  subst hF
  subst hm
  have h4 : lens.length = n4 := by rw [← hL4, hL]; simp
  subst h4
  exact (zzgather_any N fp tp kp lp fc tc kc lc F T K L ss lens w hf ht hk hl hL hsum hT hK hE hP hN hnil htl).mono (ZRn.of (edg_len F T K))
set_option maxRecDepth 100000 in
set_option maxHeartbeats 8000000 in
theorem law_some (N : Nat) (p1 p2 p3 p4 : Option Addr) (c1 c2 c3 c4 c5 n n4 n5 : Nat) (z1 z2 z3 z4 z5 : List Int) (a5 : Addr) (w : World) (k1 : IS.Ok .i32 w ⟨p1, c1, z1⟩) (k2 : IS.Ok .i32 w ⟨p2, c2, z2⟩) (k3 : IS.Ok .u32 w ⟨p3, c3, z3⟩) (k4 : IS.Ok .i64 w ⟨p4, c4, z4⟩) (k5 : IS.Ok .i64 w ⟨some a5, c5, z5⟩)
    (e1 : z1.length = n) (e2 : z2.length = n) (e3 : z3.length = n) (e4 : z4.length = n4) (e5 : z5.length = n5) (g1 : n ≤ 65536) (g4 : n4 ≤ 65536) (g5 : n5 ≤ 131072) (g6 : 4 * n + 4 * n + 4 * n + 8 * n4 + 8 * n5 ≤ 1048576) (gN : N ≤ 65536) :
    Calls Try.prog 5 #[.int .i64 (N : Int), .slice p1 n c1, .slice p2 n c2, .slice p3 n c3, .slice p4 n4 c4, .slice (some a5) n5 c5] w (LawP w) := by
  have HZB : Hid (Calls Try.prog 18 #[.int .i64 (N : Int), .slice p1 n c1, .slice p2 n c2, .slice p3 n c3, .slice p4 n4 c4, .slice (some a5) n5 c5] w (SomeBool w)) := zzBytes_any _ _ _ _ _ _ n c1 n c2 n c3 n4 c4 n5 c5 w (by unfold maxLen; omega) (by unfold maxLen; omega) (by unfold maxLen; omega) (by unfold maxLen; omega) (by unfold maxLen; omega)
  have HLY : Hid (Calls Try.prog 19 #[.slice p4 n4 c4, .int .i64 (n : Int)] w (LH z4 n w)) := by
    have h := layout_any ⟨p4, c4, z4⟩ n w k4 (by omega)
    dsimp only at h; rw [e4] at h; exact h
  have K1 : Hid (IS.Ok .i32 w ⟨p1, c1, z1⟩ ∧ z1.length = n) := ⟨k1, e1⟩
  have K2 : Hid (IS.Ok .i32 w ⟨p2, c2, z2⟩ ∧ z2.length = n) := ⟨k2, e2⟩
  have K3 : Hid (IS.Ok .u32 w ⟨p3, c3, z3⟩ ∧ z3.length = n) := ⟨k3, e3⟩
  have K4 : Hid (IS.Ok .i64 w ⟨p4, c4, z4⟩ ∧ z4.length = n4) := ⟨k4, e4⟩
  have K5 : Hid (IS.Ok .i64 w ⟨some a5, c5, z5⟩ ∧ z5.length = n5) := ⟨k5, e5⟩
  have h1 : ¬ (65536 : Int) < (n : Int) := by omega
  have h4 : ¬ (65536 : Int) < (n4 : Int) := by omega
  have h5 : ¬ (131072 : Int) < (n5 : Int) := by omega
  have h6 : ¬ (1048576 : Int) < 4 * (n : Int) + 4 * (n : Int) + 4 * (n : Int) + 8 * (n4 : Int) + 8 * (n5 : Int) := by omega
  have h7 : ¬ (N : Int) < 0 := by omega
  have h8 : ¬ (65536 : Int) < (N : Int) := by omega
  have hq := fun w => Lib.run_eql_slice_nil (P := Try.prog) w 22 3 (some a5) n5 c5 0 0 Try.underlying22
  clear k1 k2 k3 k4 k5 e1 e2 e3 e4 e5
  go_enter Try.func5, Try.ntmps5
  go_wp2_with fail
  with_reducible refine HZB.out.mono ?_
  rintro e w' ⟨b, rfl, hw⟩
  subst hw
  clear HZB
  cases b with
  | false =>
    go_wp2
    go_ret
    exact ⟨rfl, Below.refl _ _⟩
  | true =>
    go_wp2_with fail
    with_reducible refine HLY.out.mono ?_
    rintro e w ⟨hw, hx⟩
    subst hw
    clear HLY
    rcases hx with rfl | ⟨rfl, hlay⟩
    · go_wp2
      go_ret
      exact ⟨rfl, Below.refl _ _⟩
    obtain ⟨lens, hL, hsum⟩ := lens_of hlay
    have HLN : Hid (z4 = lens.map (fun x : Nat => (x : Int)) ∧ lens.sum = n) := ⟨hL, hsum⟩
    clear hL hsum hlay
    have HC1 : Hid (Calls Try.prog 10 #[.slice p1 n c1] w (CPn .i32 w p1 z1 n)) := clone10_n K1.out.1 K1.out.2 (by omega)
    go_wp2_with fail
    with_reducible refine HC1.out.mono ?_
    rintro e w1 ⟨q1, d1, rfl, o1, _, b1⟩
    clear HC1
    have HC2 : Hid (Calls Try.prog 10 #[.slice p2 n c2] w1 (CPn .i32 w1 p2 z2 n)) := clone10_n (K2.out.1.below b1) K2.out.2 (by omega)
    have J1 : Hid (IS.Ok .i32 w1 ⟨q1, d1, z1⟩ ∧ Below w.heap.size w w1) := ⟨o1, b1⟩
    clear o1 b1
    go_wp2_with fail
    with_reducible refine HC2.out.mono ?_
    rintro e w2 ⟨q2, d2, rfl, o2, _, b2⟩
    clear HC2
    have J2 : Hid (IS.Ok .i32 w2 ⟨q1, d1, z1⟩ ∧ IS.Ok .i32 w2 ⟨q2, d2, z2⟩ ∧ Below w.heap.size w w2) := ⟨J1.out.1.below b2, o2, below_trans J1.out.2 b2⟩
    have HC3 : Hid (Calls Try.prog 21 #[.slice p3 n c3] w2 (CPn .u32 w2 p3 z3 n)) := clone21_n (K3.out.1.below J2.out.2.2) K3.out.2 (by omega)
    clear o2 b2 J1
    go_wp2_with fail
    with_reducible refine HC3.out.mono ?_
    rintro e w3 ⟨q3, d3, rfl, o3, _, b3⟩
    clear HC3
    have J3 : Hid (IS.Ok .i32 w3 ⟨q1, d1, z1⟩ ∧ IS.Ok .i32 w3 ⟨q2, d2, z2⟩ ∧ IS.Ok .u32 w3 ⟨q3, d3, z3⟩ ∧ Below w.heap.size w w3) := ⟨J2.out.1.below b3, J2.out.2.1.below b3, o3, below_trans J2.out.2.2 b3⟩
    have HC4 : Hid (Calls Try.prog 9 #[.slice p4 n4 c4] w3 (CPn .i64 w3 p4 z4 n4)) := clone9_n (K4.out.1.below J3.out.2.2.2) K4.out.2 (by omega)
    clear o3 b3 J2
    go_wp2_with fail
    with_reducible refine HC4.out.mono ?_
    rintro e w4 ⟨q4, d4, rfl, o4, _, b4⟩
    clear HC4
    have J4 : Hid (IS.Ok .i32 w4 ⟨q1, d1, z1⟩ ∧ IS.Ok .i32 w4 ⟨q2, d2, z2⟩ ∧ IS.Ok .u32 w4 ⟨q3, d3, z3⟩ ∧ IS.Ok .i64 w4 ⟨q4, d4, z4⟩ ∧ Below w.heap.size w w4) := ⟨J3.out.1.below b4, J3.out.2.1.below b4, J3.out.2.2.1.below b4, o4, below_trans J3.out.2.2.2 b4⟩
    clear o4 b4 J3
    have HC5 : Hid (Calls Try.prog 9 #[.slice (some a5) n5 c5] w4 (CPn .i64 w4 (some a5) z5 n5)) := clone9_n (K5.out.1.below J4.out.2.2.2.2) K5.out.2 (by omega)
    go_wp2_with fail
    with_reducible refine HC5.out.mono ?_
    rintro e w5 ⟨q5, d5, rfl, o5, hn5, b5⟩
    clear HC5
    obtain ⟨r5, rfl⟩ : ∃ r5, q5 = some r5 := by
      cases q5 with
      | none => exact absurd (hn5.1 rfl) (by simp)
      | some r => exact ⟨r, rfl⟩
    have HC6 : Hid (Calls Try.prog 9 #[.slice (some r5) n5 d5] w5 (CPn .i64 w5 (some r5) z5 n5)) := clone9_n o5 K5.out.2 (by omega)
    have J5 : Hid (IS.Ok .i32 w5 ⟨q1, d1, z1⟩ ∧ IS.Ok .i32 w5 ⟨q2, d2, z2⟩ ∧ IS.Ok .u32 w5 ⟨q3, d3, z3⟩ ∧ IS.Ok .i64 w5 ⟨q4, d4, z4⟩ ∧ IS.Ok .i64 w5 ⟨some r5, d5, z5⟩ ∧ Below w.heap.size w w5) := ⟨J4.out.1.below b5, J4.out.2.1.below b5, J4.out.2.2.1.below b5, J4.out.2.2.2.1.below b5, o5, below_trans J4.out.2.2.2.2 b5⟩
    clear o5 b5 J4 hn5
    go_wp2_with fail
    with_reducible refine HC6.out.mono ?_
    rintro e w6 ⟨q6, d6, rfl, o6, hn6, b6⟩
    clear HC6
    obtain ⟨r6, rfl⟩ : ∃ r6, q6 = some r6 := by
      cases q6 with
      | none => exact absurd (hn6.1 rfl) (by simp)
      | some r => exact ⟨r, rfl⟩
    have J6 : Hid (IS.Ok .i32 w6 ⟨q1, d1, z1⟩ ∧ IS.Ok .i32 w6 ⟨q2, d2, z2⟩ ∧ IS.Ok .u32 w6 ⟨q3, d3, z3⟩ ∧ IS.Ok .i64 w6 ⟨q4, d4, z4⟩ ∧ IS.Ok .i64 w6 ⟨some r5, d5, z5⟩ ∧ IS.Ok .i64 w6 ⟨some r6, d6, z5⟩ ∧ Below w.heap.size w w6) := ⟨J5.out.1.below b6, J5.out.2.1.below b6, J5.out.2.2.1.below b6, J5.out.2.2.2.1.below b6, J5.out.2.2.2.2.1.below b6, o6, below_trans J5.out.2.2.2.2.2 b6⟩
    clear o6 b6 J5 hn6
    have HZZ : Hid (Calls Try.prog 22 #[.int .i64 N, .slice q1 n d1, .slice q2 n d2, .slice q3 n d3, .slice q4 n4 d4, .slice (some r6) n5 d6] w6 (ZRn w6 N n (edg z1 z2 z3) lens ⟨some r6, d6, z5⟩)) := zz_n N n n4 q1 q2 q3 q4 d1 d2 d3 d4 z1 z2 z3 z4 ⟨some r6, d6, z5⟩ n5 lens w6 J6.out.1 J6.out.2.1 J6.out.2.2.1 J6.out.2.2.2.1 HLN.out.1 HLN.out.2 K1.out.2 K2.out.2 K3.out.2 K4.out.2 g1 g4 gN K5.out.2 (fun h => by simp at h) (fun h => by simp at h)
    go_wp2_with fail
    with_reducible refine HZZ.out.mono ?_
    rintro e w7 ⟨t0, t1, t2, t3, t4, v0, v1, v2, v3, v4, m0, y0, G, cks, rfl, hy0, b7, o1, o2, o3, o4, hGn, hgc, hres⟩
    clear HZZ
    rcases hres with ⟨_, hss, hG, hns⟩ | ⟨habs, _⟩
    case inr => exact absurd habs (by simp)
    simp only [IS.mk.injEq] at hss
    obtain ⟨rfl, rfl, rfl⟩ := hss
    obtain rfl : m0 = n5 := by rw [← hy0]; exact K5.out.2
    have hcl : cks.length = n4 := by
      have h := congrArg List.length hns
      rw [List.length_map] at h
      rw [h, ← K4.out.2, HLN.out.1, List.length_map]
    have hz4 : cks.map (fun x => (x.n : Int)) = z4 := by
      rw [HLN.out.1, ← hns, List.map_map]; rfl
    rw [hG, edg_f] at o1
    rw [hG, edg_t _ _ _ (by rw [K2.out.2, K1.out.2])] at o2
    rw [hG, edg_k _ _ _ (by rw [K3.out.2, K1.out.2])] at o3
    rw [hz4] at o4
    rw [hcl]
    have HSM1 : Hid (Calls Try.prog 23 #[.slice (some r6) m0 v0, .slice (some r5) m0 d5] w7 (Tells true w7)) := same_n (J6.out.2.2.2.2.2.1.below b7) (J6.out.2.2.2.2.1.below b7) K5.out.2
    have J7 : Hid (IS.Ok .i32 w7 ⟨q1, d1, z1⟩ ∧ IS.Ok .i32 w7 ⟨q2, d2, z2⟩ ∧ IS.Ok .u32 w7 ⟨q3, d3, z3⟩ ∧ IS.Ok .i64 w7 ⟨q4, d4, z4⟩ ∧ Below w.heap.size w w7) := ⟨J6.out.1.below b7, J6.out.2.1.below b7, J6.out.2.2.1.below b7, J6.out.2.2.2.1.below b7, below_trans J6.out.2.2.2.2.2.2 b7⟩
    have O7 : Hid (IS.Ok .i32 w7 ⟨t1, v1, z1⟩ ∧ IS.Ok .i32 w7 ⟨t2, v2, z2⟩ ∧ IS.Ok .u32 w7 ⟨t3, v3, z3⟩ ∧ IS.Ok .i64 w7 ⟨t4, v4, z4⟩) := ⟨o1, o2, o3, o4⟩
    have hq5 := fun w => Lib.run_eql_slice_nil (P := Try.prog) w 22 3 (some r6) m0 v0 0 0 Try.underlying22
    have hq6 := fun w => Go.run_neq_slice_nil (P := Try.prog) w 22 3 (some r5) m0 d5 Try.underlying22
    clear o1 o2 o3 o4 J6 b7 hG hns hgc hcl hz4 hGn hq
    go_wp2_with fail
    with_reducible refine HSM1.out.mono ?_
    rintro e w8 ⟨rfl, b8⟩
    clear HSM1
    have HSM2 : Hid (Calls Try.prog 23 #[.slice t4 n4 v4, .slice q4 n4 d4] w8 (Tells true w8)) := same_n (O7.out.2.2.2.below b8) (J7.out.2.2.2.1.below b8) K4.out.2
    have J8 : Hid (IS.Ok .i32 w8 ⟨q1, d1, z1⟩ ∧ IS.Ok .i32 w8 ⟨q2, d2, z2⟩ ∧ IS.Ok .u32 w8 ⟨q3, d3, z3⟩ ∧ IS.Ok .i32 w8 ⟨t1, v1, z1⟩ ∧ IS.Ok .i32 w8 ⟨t2, v2, z2⟩ ∧ IS.Ok .u32 w8 ⟨t3, v3, z3⟩ ∧ Below w.heap.size w w8) := ⟨J7.out.1.below b8, J7.out.2.1.below b8, J7.out.2.2.1.below b8, O7.out.1.below b8, O7.out.2.1.below b8, O7.out.2.2.1.below b8, below_trans J7.out.2.2.2.2 b8⟩
    clear b8 J7 O7
    go_wp2_with fail
    with_reducible refine HSM2.out.mono ?_
    rintro e w9 ⟨rfl, b9⟩
    clear HSM2
    have J9 : Hid (∀ w', Below w9.heap.size w9 w' → IS.Ok .i32 w' ⟨q1, d1, z1⟩ ∧ IS.Ok .i32 w' ⟨q2, d2, z2⟩ ∧ IS.Ok .u32 w' ⟨q3, d3, z3⟩ ∧ IS.Ok .i32 w' ⟨t1, v1, z1⟩ ∧ IS.Ok .i32 w' ⟨t2, v2, z2⟩ ∧ IS.Ok .u32 w' ⟨t3, v3, z3⟩ ∧ Below w.heap.size w w') := by
      intro w' b
      have bb := below_trans b9 b
      exact ⟨J8.out.1.below bb, J8.out.2.1.below bb, J8.out.2.2.1.below bb, J8.out.2.2.2.1.below bb, J8.out.2.2.2.2.1.below bb, J8.out.2.2.2.2.2.1.below bb, below_trans J8.out.2.2.2.2.2.2 bb⟩
    clear b9 J8 hq5 hq6
    go_wp2
    go_loopw [20] (fun i wr => ∃ q : Nat, q ≤ n ∧ i = .int .i64 q ∧ Hid (Below w9.heap.size w9 wr)) (fun i _ => n - (intOf i).toNat)
    case atStart => exact ⟨0, by omega, rfl, Below.refl _ _⟩
    case round =>
      obtain ⟨q, hq, rfl, hi⟩ := hrel
      by_cases hlt : q < n
      · obtain ⟨u1, u2, u3, u4, u5, u6, _⟩ := J9.out wr hi.out
        obtain ⟨x1, y1, rfl, c1'⟩ := is_at (i := q) u1 (by rw [K1.out.2]; exact hlt)
        obtain ⟨x2, y2, rfl, c2'⟩ := is_at (i := q) u2 (by rw [K2.out.2]; exact hlt)
        obtain ⟨x3, y3, rfl, c3'⟩ := is_at (i := q) u3 (by rw [K3.out.2]; exact hlt)
        obtain ⟨x4, y4, rfl, c4'⟩ := is_at (i := q) u4 (by rw [K1.out.2]; exact hlt)
        obtain ⟨x5, y5, rfl, c5'⟩ := is_at (i := q) u5 (by rw [K2.out.2]; exact hlt)
        obtain ⟨x6, y6, rfl, c6'⟩ := is_at (i := q) u6 (by rw [K3.out.2]; exact hlt)
        have HB : Hid (∀ k, Below w9.heap.size w9 (wr.drewN k)) := fun k => hi.out.trans ((below_drewN k).mono hi.out.size)
        have hqi : (q : Int) < (n : Int) := by omega
        clear u1 u2 u3 u4 u5 u6 hi
        generalize z1.getD q 0 = fe at *
        generalize z2.getD q 0 = te at *
        generalize z3.getD q 0 = ke at *
        go_wp2
        go_quiet (fail)
        go_wp2
        go_roundw
        case rel => exact ⟨q + 1, by omega, by go_num, HB.out _⟩
        case measure => simp only [intOf]; omega
      · have HE : Hid (Below w.heap.size w wr) := (J9.out wr hi.out).2.2.2.2.2.2
        clear hi
        go_wp2
        go_ret
        exact ⟨rfl, HE⟩
set_option maxRecDepth 100000 in
set_option maxHeartbeats 8000000 in
theorem law_nil (N : Nat) (p1 p2 p3 p4 : Option Addr) (c1 c2 c3 c4 n n4 : Nat) (z1 z2 z3 z4 : List Int) (w : World) (k1 : IS.Ok .i32 w ⟨p1, c1, z1⟩) (k2 : IS.Ok .i32 w ⟨p2, c2, z2⟩) (k3 : IS.Ok .u32 w ⟨p3, c3, z3⟩) (k4 : IS.Ok .i64 w ⟨p4, c4, z4⟩)
    (e1 : z1.length = n) (e2 : z2.length = n) (e3 : z3.length = n) (e4 : z4.length = n4) (hfi : ∀ f ∈ z1, -2147483648 ≤ f ∧ f ≤ 2147483647) (g1 : n ≤ 65536) (g4 : n4 ≤ 65536) (g6 : 4 * n + 4 * n + 4 * n + 8 * n4 ≤ 1048576) (gN : N ≤ 65536) :
    Calls Try.prog 5 #[.int .i64 (N : Int), .slice p1 n c1, .slice p2 n c2, .slice p3 n c3, .slice p4 n4 c4, .slice none 0 0] w (LawP w) := by
  have HZB : Hid (Calls Try.prog 18 #[.int .i64 (N : Int), .slice p1 n c1, .slice p2 n c2, .slice p3 n c3, .slice p4 n4 c4, .slice none 0 0] w (SomeBool w)) := zzBytes_any _ _ _ _ _ _ n c1 n c2 n c3 n4 c4 0 0 w (by unfold maxLen; omega) (by unfold maxLen; omega) (by unfold maxLen; omega) (by unfold maxLen; omega) (by unfold maxLen; omega)
  have HLY : Hid (Calls Try.prog 19 #[.slice p4 n4 c4, .int .i64 (n : Int)] w (LH z4 n w)) := by
    have h := layout_any ⟨p4, c4, z4⟩ n w k4 (by omega)
    dsimp only at h; rw [e4] at h; exact h
  have HTL : Hid (Calls Try.prog 20 #[.slice p1 n c1, .int .i64 (N : Int)] w (TR z1 N w)) := by
    have h := tails_any ⟨p1, c1, z1⟩ N w k1 hfi
    dsimp only at h; rw [e1] at h; exact h
  have K1 : Hid (IS.Ok .i32 w ⟨p1, c1, z1⟩ ∧ z1.length = n) := ⟨k1, e1⟩
  have K2 : Hid (IS.Ok .i32 w ⟨p2, c2, z2⟩ ∧ z2.length = n) := ⟨k2, e2⟩
  have K3 : Hid (IS.Ok .u32 w ⟨p3, c3, z3⟩ ∧ z3.length = n) := ⟨k3, e3⟩
  have K4 : Hid (IS.Ok .i64 w ⟨p4, c4, z4⟩ ∧ z4.length = n4) := ⟨k4, e4⟩
  have h1 : ¬ (65536 : Int) < (n : Int) := by omega
  have h4 : ¬ (65536 : Int) < (n4 : Int) := by omega
  have h6 : ¬ (1048576 : Int) < 4 * (n : Int) + 4 * (n : Int) + 4 * (n : Int) + 8 * (n4 : Int) := by omega
  have h7 : ¬ (N : Int) < 0 := by omega
  have h8 : ¬ (65536 : Int) < (N : Int) := by omega
  have hq := fun w => Lib.run_eql_slice_nil (P := Try.prog) w 22 3 none 0 0 0 0 Try.underlying22
  clear k1 k2 k3 k4  e1 e2 e3 e4  hfi
  go_enter Try.func5, Try.ntmps5
  go_wp2_with fail
  with_reducible refine HZB.out.mono ?_
  rintro e w' ⟨b, rfl, hw⟩
  subst hw
  clear HZB
  cases b with
  | false =>
    go_wp2
    go_ret
    exact ⟨rfl, Below.refl _ _⟩
  | true =>
    go_wp2_with fail
    with_reducible refine HLY.out.mono ?_
    rintro e w ⟨hw, hx⟩
    subst hw
    clear HLY
    rcases hx with rfl | ⟨rfl, hlay⟩
    · go_wp2
      go_ret
      exact ⟨rfl, Below.refl _ _⟩
    obtain ⟨lens, hL, hsum⟩ := lens_of hlay
    have HLN : Hid (z4 = lens.map (fun x : Nat => (x : Int)) ∧ lens.sum = n) := ⟨hL, hsum⟩
    clear hL hsum hlay
    have HC1 : Hid (Calls Try.prog 10 #[.slice p1 n c1] w (CPn .i32 w p1 z1 n)) := clone10_n K1.out.1 K1.out.2 (by omega)
    go_wp2_with fail
    with_reducible refine HTL.out.mono ?_
    rintro e w' ⟨hw, hx⟩
    subst hw
    clear HTL
    rcases hx with rfl | ⟨rfl, htl⟩
    · go_wp2
      go_ret
      exact ⟨rfl, Below.refl _ _⟩
    have HTN : Hid (∀ f ∈ z1, 0 ≤ f ∧ f < (N : Int)) := htl
    clear htl
    go_wp2_with fail
    with_reducible refine HC1.out.mono ?_
    rintro e w1 ⟨q1, d1, rfl, o1, _, b1⟩
    clear HC1
    have HC2 : Hid (Calls Try.prog 10 #[.slice p2 n c2] w1 (CPn .i32 w1 p2 z2 n)) := clone10_n (K2.out.1.below b1) K2.out.2 (by omega)
    have J1 : Hid (IS.Ok .i32 w1 ⟨q1, d1, z1⟩ ∧ Below w'.heap.size w' w1) := ⟨o1, b1⟩
    clear o1 b1
    go_wp2_with fail
    with_reducible refine HC2.out.mono ?_
    rintro e w2 ⟨q2, d2, rfl, o2, _, b2⟩
    clear HC2
    have J2 : Hid (IS.Ok .i32 w2 ⟨q1, d1, z1⟩ ∧ IS.Ok .i32 w2 ⟨q2, d2, z2⟩ ∧ Below w'.heap.size w' w2) := ⟨J1.out.1.below b2, o2, below_trans J1.out.2 b2⟩
    have HC3 : Hid (Calls Try.prog 21 #[.slice p3 n c3] w2 (CPn .u32 w2 p3 z3 n)) := clone21_n (K3.out.1.below J2.out.2.2) K3.out.2 (by omega)
    clear o2 b2 J1
    go_wp2_with fail
    with_reducible refine HC3.out.mono ?_
    rintro e w3 ⟨q3, d3, rfl, o3, _, b3⟩
    clear HC3
    have J3 : Hid (IS.Ok .i32 w3 ⟨q1, d1, z1⟩ ∧ IS.Ok .i32 w3 ⟨q2, d2, z2⟩ ∧ IS.Ok .u32 w3 ⟨q3, d3, z3⟩ ∧ Below w'.heap.size w' w3) := ⟨J2.out.1.below b3, J2.out.2.1.below b3, o3, below_trans J2.out.2.2 b3⟩
    have HC4 : Hid (Calls Try.prog 9 #[.slice p4 n4 c4] w3 (CPn .i64 w3 p4 z4 n4)) := clone9_n (K4.out.1.below J3.out.2.2.2) K4.out.2 (by omega)
    clear o3 b3 J2
    go_wp2_with fail
    with_reducible refine HC4.out.mono ?_
    rintro e w4 ⟨q4, d4, rfl, o4, _, b4⟩
    clear HC4
    have J4 : Hid (IS.Ok .i32 w4 ⟨q1, d1, z1⟩ ∧ IS.Ok .i32 w4 ⟨q2, d2, z2⟩ ∧ IS.Ok .u32 w4 ⟨q3, d3, z3⟩ ∧ IS.Ok .i64 w4 ⟨q4, d4, z4⟩ ∧ Below w'.heap.size w' w4) := ⟨J3.out.1.below b4, J3.out.2.1.below b4, J3.out.2.2.1.below b4, o4, below_trans J3.out.2.2.2 b4⟩
    clear o4 b4 J3
    have HC5 : Hid (Calls Try.prog 9 #[.slice none 0 0] w4 fun e w' => e = .returned (.slice none 0 0) ∧ w' = w4) := clone9_nil 0 0 w4
    go_wp2_with fail
    with_reducible refine HC5.out.mono ?_
    rintro e w5 ⟨rfl, rfl⟩
    go_wp2_with fail
    with_reducible refine HC5.out.mono ?_
    rintro e w6 ⟨rfl, rfl⟩
    clear HC5
    have HZZ : Hid (Calls Try.prog 22 #[.int .i64 N, .slice q1 n d1, .slice q2 n d2, .slice q3 n d3, .slice q4 n4 d4, .slice none 0 0] w6 (ZRn w6 N n (edg z1 z2 z3) lens ⟨none, 0, []⟩)) := zz_n N n n4 q1 q2 q3 q4 d1 d2 d3 d4 z1 z2 z3 z4 ⟨none, 0, []⟩ 0 lens w6 J4.out.1 J4.out.2.1 J4.out.2.2.1 J4.out.2.2.2.1 HLN.out.1 HLN.out.2 K1.out.2 K2.out.2 K3.out.2 K4.out.2 g1 g4 gN rfl (fun _ => ⟨rfl, rfl⟩) (fun _ => HTN.out)
    go_wp2_with fail
    with_reducible refine HZZ.out.mono ?_
    rintro e w7 ⟨t0, t1, t2, t3, t4, v0, v1, v2, v3, v4, m0, y0, G, cks, rfl, hy0, b7, o1, o2, o3, o4, hGn, hgc, hres⟩
    clear HZZ
    rcases hres with ⟨habs, _⟩ | ⟨_, hG, hfull, hyy, o0, hq0⟩
    case inl => exact absurd rfl habs
    obtain ⟨r0, rfl⟩ : ∃ r0, t0 = some r0 := by
      cases t0 with
      | none => exact absurd rfl hq0
      | some r => exact ⟨r, rfl⟩
    subst hyy
    obtain rfl : m0 = N + 1 := by rw [← hy0, List.length_map, Cnt.psum_len]
    obtain ⟨E, hE⟩ : ∃ E, E = edg z1 z2 z3 := ⟨_, rfl⟩
    rw [← hE] at hG hfull o0
    have hEl : E.length = n := by rw [hE, edg_len, K1.out.2]
    have hEf : E.map Ed.f = z1 := by rw [hE]; exact edg_f z1 z2 z3
    have hEt : ∀ e ∈ E, 0 ≤ e.f ∧ e.f < (N : Int) := by
      intro e he
      have h1 : e.f ∈ E.map Ed.f := List.mem_map_of_mem he
      rw [hEf] at h1
      exact HTN.out _ h1
    have hcum : cum E N = n := by rw [Cnt.cum_all E N (fun e he => (hEt e he).2), hEl]
    rw [hcum] at hfull
    have hcl : n ≤ 512 * cks.length ∧ (0 < cks.length → 512 * (cks.length - 1) < n) := by
      have h1 := hfull.all
      rw [hgc, hGn] at h1
      exact ⟨by omega, fun h => hfull.lt _ (by omega)⟩
    have HOR : Hid (Calls Try.prog 12 #[.slice q1 n d1, .slice none 0 0] w7 (MO z1 n w7)) := by
      have h := order_any ⟨q1, d1, z1⟩ w7 (J4.out.1.below b7) (by show z1.length ≤ _; rw [K1.out.2]; exact g1)
      dsimp only at h; rw [K1.out.2] at h; exact h
    have J7 : Hid (IS.Ok .i32 w7 ⟨q1, d1, z1⟩ ∧ IS.Ok .i32 w7 ⟨q2, d2, z2⟩ ∧ IS.Ok .u32 w7 ⟨q3, d3, z3⟩ ∧ Below w'.heap.size w' w7) := ⟨J4.out.1.below b7, J4.out.2.1.below b7, J4.out.2.2.1.below b7, below_trans J4.out.2.2.2.2 b7⟩
    have O7 : Hid (IS.Ok .i32 w7 ⟨t1, v1, G.map Ed.f⟩ ∧ IS.Ok .i32 w7 ⟨t2, v2, G.map Ed.t⟩ ∧ IS.Ok .u32 w7 ⟨t3, v3, G.map Ed.k⟩ ∧ IS.Ok .i64 w7 ⟨t4, v4, cks.map (fun x => (x.n : Int))⟩ ∧ IS.Ok .i64 w7 ⟨some r0, v0, (psum E N N).map (fun x : Nat => (x : Int))⟩) := ⟨o1, o2, o3, o4, o0⟩
    have HEE : Hid (E = edg z1 z2 z3 ∧ E.length = n ∧ E.map Ed.f = z1 ∧ (∀ e ∈ E, 0 ≤ e.f ∧ e.f < (N : Int)) ∧ G = sortE E N ∧ G.length = n) := ⟨hE, hEl, hEf, hEt, hG, hGn⟩
    have HFU : Hid (Full n cks ∧ n ≤ 512 * cks.length ∧ (0 < cks.length → 512 * (cks.length - 1) < n)) := ⟨hfull, hcl⟩
    have hq6 := fun w => Go.run_neq_slice_nil (P := Try.prog) w 22 3 none 0 0 Try.underlying22
    have hckl : cks.length ≤ 65536 := by omega
    clear o1 o2 o3 o4 o0 J4 b7 hG hgc hcl hGn hfull hE hEl hEf hEt hcum hq0 hy0 hq
    go_wp2_with fail
    with_reducible refine HOR.out.mono ?_
    rintro e w8 ⟨g, L, rfl, hL, hrun, b8⟩
    clear HOR
    have HLL : Hid (∀ k, k < n → ∃ i, L[k]? = some i ∧ i < n ∧ G[k]? = some ⟨z1.getD i 0, z2.getD i 0, z3.getD i 0⟩) := by
      obtain ⟨h1, h2, h3, h4, h5, h6⟩ := HEE.out
      have hk : keyOf z1 = fun i => (E.map Ed.f).getD i 0 := by rw [h3]; rfl
      have hmap : L.map (fun i => E[i]?) = (sortE E N).map some := Cnt.order_sort h4 (by rw [h2, ← hk]; exact hrun)
      intro k hk2
      obtain ⟨e, he⟩ : ∃ e, G[k]? = some e := ⟨_, List.getElem?_eq_getElem (by omega)⟩
      have h7 : (L.map (fun i => E[i]?))[k]? = some (some e) := by rw [hmap, List.getElem?_map, ← h5, he]; rfl
      rw [List.getElem?_map] at h7
      obtain ⟨i, hi1, hi2⟩ := Option.map_eq_some_iff.1 h7
      have hi3 := (List.getElem?_eq_some_iff.1 hi2).1
      refine ⟨i, hi1, by omega, ?_⟩
      rw [he, ← hi2, h1]
      exact edg_at z1 z2 z3 i (by rw [K1.out.2]; omega)
    have J8 : Hid (∀ w', Below w8.heap.size w8 w' → IS.Ok .i32 w' ⟨q1, d1, z1⟩ ∧ IS.Ok .i32 w' ⟨q2, d2, z2⟩ ∧ IS.Ok .u32 w' ⟨q3, d3, z3⟩ ∧ IS.Ok .i32 w' ⟨t1, v1, G.map Ed.f⟩ ∧ IS.Ok .i32 w' ⟨t2, v2, G.map Ed.t⟩ ∧ IS.Ok .u32 w' ⟨t3, v3, G.map Ed.k⟩ ∧ IS.Ok .i64 w' ⟨t4, v4, cks.map (fun x => (x.n : Int))⟩ ∧ IS.Ok .i64 w' ⟨some r0, v0, (psum E N N).map (fun x : Nat => (x : Int))⟩ ∧ Has w' g 3 (ints L)) := by
      intro w2 b
      have bb := below_trans b8 b
      obtain ⟨a1, a2, a3, _⟩ := J7.out
      obtain ⟨a5, a6, a7, a8, a9⟩ := O7.out
      exact ⟨a1.below bb, a2.below bb, a3.below bb, a5.below bb, a6.below bb, a7.below bb, a8.below bb, a9.below bb, hL.below b hL.lt⟩
    have HBW : Hid (∀ w2, Below w8.heap.size w8 w2 → Below w'.heap.size w' w2) := fun w2 b => below_trans J7.out.2.2.2 (below_trans b8 b)
    have HBD : Hid (∀ w2 k, Below w8.heap.size w8 w2 → Below w8.heap.size w8 (w2.drewN k)) := fun w2 k b => b.trans ((below_drewN k).mono b.size)
    clear hL hrun b8 J7 O7 hq6
    go_wp2
    go_loopw [22] (fun i wr => ∃ q : Nat, q ≤ n ∧ i = .int .i64 q ∧ Hid (Below w8.heap.size w8 wr)) (fun i _ => n - (intOf i).toNat)
    case atStart => exact ⟨0, by omega, rfl, Below.refl _ _⟩
    case round =>
      obtain ⟨q, hq, rfl, hi⟩ := hrel
      by_cases hlt : q < n
      · skip
        obtain ⟨u1, u2, u3, u4, u5, u6, _, _, u9⟩ := J8.out wr hi.out
        obtain ⟨i, hLi, hin, hGi⟩ := HLL.out q hlt
        have hg2 := HEE.out.2.2.2.2.2
        obtain ⟨x1, y1, rfl, c1'⟩ := is_at (i := i) u1 (by rw [K1.out.2]; exact hin)
        obtain ⟨x2, y2, rfl, c2'⟩ := is_at (i := i) u2 (by rw [K2.out.2]; exact hin)
        obtain ⟨x3, y3, rfl, c3'⟩ := is_at (i := i) u3 (by rw [K3.out.2]; exact hin)
        obtain ⟨x4, y4, rfl, c4'⟩ := is_at (i := q) u4 (by rw [List.length_map]; omega)
        obtain ⟨x5, y5, rfl, c5'⟩ := is_at (i := q) u5 (by rw [List.length_map]; omega)
        obtain ⟨x6, y6, rfl, c6'⟩ := is_at (i := q) u6 (by rw [List.length_map]; omega)
        rw [List.getD_eq_getElem?_getD, List.getElem?_map, hGi, Option.map_some, Option.getD_some] at c4' c5' c6'
        have co : wr.cell? ⟨g, q, none⟩ = some (.int .i64 (i : Int)) := by rw [u9.cell, ints_at hLi]
        have HB : Hid (∀ k, Below w8.heap.size w8 (wr.drewN k)) := fun k => HBD.out wr k hi.out
        have hqi : (q : Int) < (n : Int) := by omega
        have hii : (i : Int) < (n : Int) := by omega
        clear u1 u2 u3 u4 u5 u6 u9 hi hLi hGi hg2
        dsimp only at c4' c5' c6'
        generalize z1.getD i 0 = fe at *
        generalize z2.getD i 0 = te at *
        generalize z3.getD i 0 = ke at *
        go_wp2
        go_quiet (fail)
        go_wp2
        go_roundw
        case rel => exact ⟨q + 1, by omega, by go_num, HB.out _⟩
        case measure => simp only [intOf]; omega
      · have HCU : Hid (∀ v, cum E v ≤ n) := fun v => by rw [← HEE.out.2.1]; exact Cnt.cum_le E v
        have HC0 : Hid (cum E 0 = 0) := Cnt.cum_zero E (fun e he => (HEE.out.2.2.2.1 e he).1)
        have HLT : Hid (∀ (k v i : Nat), k < n → L[k]? = some i → (z1.getD i 0 < (v : Int) ↔ k < cum E v)) := by
          intro k v i hk hi2
          obtain ⟨i', h1, _, h3⟩ := HLL.out k hk
          rw [hi2] at h1
          cases h1
          obtain ⟨_, _, _, h4, h5, _⟩ := HEE.out
          rw [h5] at h3
          exact Cnt.sort_lt (n := v) (fun e he => (h4 e he).1) h3
        go_wp2
        go_loopw [24, 25] (fun kk nn wr => ∃ v : Nat, v ≤ N + 1 ∧ nn = .int .i64 v ∧ kk = .int .i64 (cum E (v - 1) : Nat) ∧ Hid (Below w8.heap.size w8 wr)) (fun _ nn _ => N + 1 - (intOf nn).toNat)
        case atStart => exact ⟨0, by omega, rfl, by rw [Nat.zero_sub, HC0.out]; rfl, hi⟩
        case round =>
          obtain ⟨v, hv, rfl, rfl, hi2⟩ := hrel
          clear hi
          by_cases hvN : v ≤ N
          · have hvi : (v : Int) ≤ (N : Int) := by omega
            obtain ⟨ka, hka⟩ : ∃ ka, ka = cum E (v - 1) := ⟨_, rfl⟩
            obtain ⟨kb, hkb⟩ : ∃ kb, kb = cum E v := ⟨_, rfl⟩
            rw [← hka]
            have hab : ka ≤ kb := by rw [hka, hkb]; exact Cnt.cum_mono E (by omega)
            have hbn : kb ≤ n := by rw [hkb]; exact HCU.out v
            have HKB : Hid (kb = cum E v) := hkb
            clear hka hkb
            go_wp2
            go_loopw [24] (fun kk wr => ∃ k : Nat, k ≤ kb ∧ kk = .int .i64 k ∧ Hid (Below w8.heap.size w8 wr)) (fun kk _ => n - (intOf kk).toNat)
            case atStart => exact ⟨ka, hab, rfl, hi2⟩
            case round =>
              obtain ⟨k, hk, rfl, hi3⟩ := hrel
              clear hi2
              by_cases hkn : k < n
              · skip
                obtain ⟨u1, _, _, _, _, _, _, u8, u9⟩ := J8.out wr hi3.out
                obtain ⟨i, hLi, hin, hGi⟩ := HLL.out k hkn
                obtain ⟨x1, y1, rfl, c1'⟩ := is_at (i := i) u1 (by rw [K1.out.2]; exact hin)
                have co : wr.cell? ⟨g, k, none⟩ = some (.int .i64 (i : Int)) := by rw [u9.cell, ints_at hLi]
                have hki : (k : Int) < (n : Int) := by omega
                have hii : (i : Int) < (n : Int) := by omega
                have hiff := HLT.out k v i hkn hLi
                obtain ⟨hf0, hf1⟩ : 0 ≤ z1.getD i 0 ∧ z1.getD i 0 < (N : Int) := by
                  have hil : i < z1.length := by rw [K1.out.2]; exact hin
                  have e : z1.getD i 0 = z1[i] := by rw [List.getD_eq_getElem?_getD, List.getElem?_eq_getElem hil]; rfl
                  rw [e]; exact HTN.out _ (List.getElem_mem hil)
                have hwf : IntKind.i64.wrap (z1.getD i 0) = z1.getD i 0 := by rw [IntKind.wrap_i64]; omega
                obtain ⟨bg, og, hr0, c8'⟩ := is_at (i := v) u8 (by rw [List.length_map, Cnt.psum_len]; omega)
                cases hr0
                rw [List.getD_eq_getElem?_getD, List.getElem?_map, Cnt.psum_at _ _ _ _ hvN, if_pos hvN, Option.map_some, Option.getD_some, ← HKB.out] at c8'
                by_cases hkb2 : k < kb
                · have hz : z1.getD i 0 < (v : Int) := hiff.2 (by rw [← HKB.out]; exact hkb2)
                  clear u1 u8 u9 hLi hGi hiff
                  generalize z1.getD i 0 = fe at *
                  go_wp2
                  exact ⟨⟨k + 1, by omega, by go_num, hi3⟩, by simp only [intOf]; omega⟩
                · have hz : ¬ z1.getD i 0 < (v : Int) := fun h => hkb2 (by rw [HKB.out]; exact hiff.1 h)
                  obtain rfl : k = kb := by omega
                  clear u1 u8 u9 hLi hGi hiff
                  generalize z1.getD i 0 = fe at *
                  go_wp2
                  exact ⟨⟨v + 1, by omega, by go_num, by rw [Nat.add_sub_cancel, ← HKB.out], hi3⟩, by simp only [intOf]; omega⟩
              · obtain ⟨_, _, _, _, _, _, _, u8, _⟩ := J8.out wr hi3.out
                obtain ⟨bg, og, hr0, c8'⟩ := is_at (i := v) u8 (by rw [List.length_map, Cnt.psum_len]; omega)
                cases hr0
                rw [List.getD_eq_getElem?_getD, List.getElem?_map, Cnt.psum_at _ _ _ _ hvN, if_pos hvN, Option.map_some, Option.getD_some, ← HKB.out] at c8'
                obtain rfl : k = kb := by omega
                have hki : ¬ (k : Int) < (n : Int) := by omega
                clear u8
                go_wp2
                exact ⟨⟨v + 1, by omega, by go_num, by rw [Nat.add_sub_cancel, ← HKB.out], hi3⟩, by simp only [intOf]; omega⟩
          · have hvi : ¬ (v : Int) ≤ (N : Int) := by omega
            obtain ⟨hfu, hc1, hc2⟩ := HFU.out
            go_upto_region 51 with fail
            go_cut [26] (fun pp wd => pp = .int .i64 (cks.length : Int) ∧ wd = wr)
            case first =>
              go_wp2
              go_meet
              case rel =>
                refine ⟨?_, rfl⟩
                simp only [Value.int.injEq, true_and]
                rcases Nat.eq_zero_or_pos cks.length with h0 | h0
                · omega
                · have := hc2 h0
                  omega
            case rest =>
              obtain ⟨h26, hwd⟩ := hcut
              subst h26
              subst hwd
              clear hfu
              go_wp2
              go_loopw [27] (fun i w2 => ∃ j : Nat, j ≤ cks.length ∧ i = .int .i64 j ∧ Hid (Below w8.heap.size w8 w2)) (fun i _ => cks.length - (intOf i).toNat)
              case atStart => exact ⟨0, by omega, rfl, hi2⟩
              case round =>
                obtain ⟨j, hj, rfl, hi4⟩ := hrel
                clear hi2
                by_cases hjl : j < cks.length
                · obtain ⟨_, _, _, _, _, _, u7, _, _⟩ := J8.out wr hi4.out
                  obtain ⟨x, hx⟩ : ∃ x, cks[j]? = some x := ⟨_, List.getElem?_eq_getElem hjl⟩
                  obtain ⟨b4, o4, rfl, c7'⟩ := is_at (i := j) u7 (by rw [List.length_map]; exact hjl)
                  rw [List.getD_eq_getElem?_getD, List.getElem?_map, hx, Option.map_some, Option.getD_some] at c7'
                  have hxn := (HFU.out.1.n j x hx).1
                  have hji : (j : Int) < (cks.length : Int) := by omega
                  have hpos := hc2 (by omega)
                  by_cases hje : j + 1 = cks.length
                  · have hb : ((j : Int) == (cks.length : Int) - 1) = true := by simp; omega
                    rw [show (x.n : Int) = (n : Int) - (j : Int) * 512 from by omega] at c7'
                    clear u7 hx hxn
                    go_wp2
                    exact ⟨⟨j + 1, by omega, by go_num, hi4⟩, by simp only [intOf]; omega⟩
                  · have hb : ((j : Int) == (cks.length : Int) - 1) = false := by simp; omega
                    rw [show (x.n : Int) = 512 from by omega] at c7'
                    clear u7 hx hxn
                    go_wp2
                    exact ⟨⟨j + 1, by omega, by go_num, hi4⟩, by simp only [intOf]; omega⟩
                · have HE : Hid (Below w'.heap.size w' wr) := HBW.out wr hi4.out
                  clear hi4
                  go_wp2
                  go_ret
                  exact ⟨rfl, HE⟩
end Go.Proofs.Qxb6601127a.Base

