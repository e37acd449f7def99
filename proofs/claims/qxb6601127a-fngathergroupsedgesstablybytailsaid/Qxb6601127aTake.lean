/-
  THE SPARES: take (37), give (38).
-/
import Derived.Test.Qxb6601127aOwn
import Derived.Deep.RegionLaw
namespace Go.Proofs.Qxb6601127a.Base
open Go.ChangeShapes Go.WideShapes Go.ChangeAt Go.RowKit
open Cnt (Ed)

def zed : Value := .agg #[.int .i32 0, .int .i32 0, .int .u32 0]
theorem info70 : (Try.prog.info? 70).map (fun i => (i.zero, i.size, i.bytes)) = some (some zed, 3, 12) := by kernel_rfl
theorem info68 : (Try.prog.info? 68).map (fun i => (i.zero, i.size, i.bytes)) = some (some (.slice none 0 0), 1, 24) := by kernel_rfl
theorem info64 : (Try.prog.info? 64).map (fun i => (i.zero, i.size, i.bytes)) = some (some (.slice none 0 0), 1, 24) := by kernel_rfl
theorem zeds (n : Nat) : madeCells zed.cells (n * 3) = ecells (List.replicate n ⟨0, 0, 0⟩) := by
  apply Array.ext
  · rw [size_madeCells, ecells_size]; simp; omega
  · intro i h1 h2
    have hi : i < n * 3 := by rwa [size_madeCells] at h1
    have hz : zed.cells = #[.int .i32 0, .int .i32 0, .int .u32 0] := rfl
    have hj : i / 3 < n := by omega
    obtain ⟨a, b, c⟩ := ecells_at (List.replicate n ⟨0, 0, 0⟩) (i / 3) ⟨0, 0, 0⟩ (by rw [List.getElem?_replicate, if_pos hj])
    have key : (ecells (List.replicate n ⟨0, 0, 0⟩))[i]? = some (zed.cells[i % 3]!) := by
      rw [hz]
      have h3 : i % 3 = 0 ∨ i % 3 = 1 ∨ i % 3 = 2 := by omega
      rcases h3 with h3 | h3 | h3
      · rw [h3, show i = i / 3 * 3 from by omega]; simpa using a
      · rw [h3, show i = i / 3 * 3 + 1 from by omega]; simpa using b
      · rw [h3, show i = i / 3 * 3 + 2 from by omega]; simpa using c
    have l : (madeCells zed.cells (n * 3))[i] = zed.cells[i % 3]! := by
      simp only [madeCells, Array.getElem_map, Array.getElem_range]
      rfl
    rw [l]
    rw [Array.getElem?_eq_getElem h2] at key
    exact (Option.some.inj key).symm
/-- make([]edge, l, c) -/
theorem make70 (l c : Nat) (hl : l ≤ c) (hc : c ≤ 65536) (w : World) : (Instr.makeSlice 68 (.int .i64 (l : Int)) (.int .i64 (c : Int))).run Try.prog w = .ok (.slice (some ⟨w.heap.size, 0, none⟩) l c) (w.alloc (.cells (ecells (List.replicate c ⟨0, 0, 0⟩)) 70)) := by
  obtain ⟨i, hi, hz0, hz1, hz2⟩ := info_parts info70
  have h := run_make (P := Try.prog) w 68 70 i zed Try.underlying68 hi hz0 .i64 .i64 l c (by omega) (by omega) (by rw [hz2]; omega) (by omega)
  rw [h, hz1]
  simp only [Int.toNat_natCast]
  rw [zeds]

/-- the spares, gs the variable's block -/
structure Spares (w : World) (ow : Ow) (gs : Nat) (sv : Value) (sp : List Ck) : Prop where
  var : At w ow (8, 0, 0) gs 85 #[sv]
  row : Row w ow (11, 0, 0) (fun j => (21, 0, j)) sv sp
  full : ∀ x ∈ sp, x.c = 512
def Sq (p : Pos) : Prop := p.1 = 8 ∨ p.1 = 11 ∨ p.1 = 21
theorem Spares.step {Q : Pos → Prop} {w w' : World} {ow ow' : Ow} {gs : Nat} {sv : Value} {sp : List Ck} (h : Spares w ow gs sv sp) (k : Step Q w ow w' ow') (hq : ∀ p, Sq p → ¬ Q p) : Spares w' ow' gs sv sp :=
  ⟨h.var.step k (hq _ (.inl rfl)), h.row.step k (hq _ (.inr (.inl rfl))) (fun _ _ => hq _ (.inr (.inr rfl))), h.full⟩
/-- what take leaves -/
def TK (w : World) (ow : Ow) (gs : Nat) (sp : List Ck) (n : Nat) (pn : Pos) (e : Ending) (w' : World) : Prop :=
  ∃ (x : Ck) (ow' : Ow) (sv' : Value) (sp' : List Ck), e = .returned x.val ∧ x.n = 0 ∧ x.c = n ∧ sp'.length ≤ sp.length ∧ CkAt w' ow' pn x ∧ Spares w' ow' gs sv' sp' ∧ Step Sq w ow w' ow'
set_option maxRecDepth 100000 in
set_option maxHeartbeats 2000000 in
theorem take_make (gs n : Nat) (sv : Value) (sp : List Ck) (pn : Pos) (w : World) (ow : Ow) (hs : Spares w ow gs sv sp) (hn : n ≤ 512) (hc : n = 512 → sp = []) :
    Calls Try.prog 37 #[.pointer (some ⟨gs, 0, none⟩), .int .i64 n] w (TK w ow gs sp n pn) := by
  obtain ⟨ps, cs, hv⟩ := hs.row.shape
  subst hv
  have c0 : w.cell? ⟨gs, 0, none⟩ = some (.slice ps sp.length cs) := hs.var.has.cell 0
  have HS : Hid (TK w ow gs sp n pn (.returned (.slice (some ⟨w.heap.size, 0, none⟩) 0 n)) (w.alloc (.cells (ecells (List.replicate n ⟨0, 0, 0⟩)) 70))) := by
    have st : Step Sq w ow (w.alloc (.cells (ecells (List.replicate n ⟨0, 0, 0⟩)) 70)) (upd ow w.heap.size pn) := ((Step.refl Sq w ow).alloc _).own (.inl (Nat.le_refl _)) _
    have st' : Step (fun _ => False) w ow (w.alloc (.cells (ecells (List.replicate n ⟨0, 0, 0⟩)) 70)) (upd ow w.heap.size pn) := ((Step.refl _ w ow).alloc _).own (.inl (Nat.le_refl _)) _
    refine ⟨⟨w.heap.size, 0, n, List.replicate n ⟨0, 0, 0⟩⟩, upd ow w.heap.size pn, .slice ps sp.length cs, sp, rfl, rfl, rfl, Nat.le_refl _, ⟨⟨upd_self _ _ _, has_new _ _ _⟩, by simp, by simp⟩, hs.step st' (fun _ _ h => h), st⟩
  by_cases h5 : n = 512
  · have h0 := hc h5
    subst h0
    subst h5
    clear hc hs
    have hmk : ∀ w : World, (Instr.makeSlice 68 (.int .i64 0) (.int .i64 512)).run Try.prog w = .ok (.slice (some ⟨w.heap.size, 0, none⟩) 0 512) (w.alloc (.cells (ecells (List.replicate 512 ⟨0, 0, 0⟩)) 70)) := make70 0 512 (by omega) (by omega)
    go_enter Try.func37, Try.ntmps37
    go_wp2
    go_ret
    exact HS.out
  · have h5' : ¬ ((n : Int) = 512) := by omega
    clear hc hs
    have hmk : ∀ w : World, (Instr.makeSlice 68 (.int .i64 0) (.int .i64 (n : Int))).run Try.prog w = .ok (.slice (some ⟨w.heap.size, 0, none⟩) 0 n) (w.alloc (.cells (ecells (List.replicate n ⟨0, 0, 0⟩)) 70)) := make70 0 n (by omega) (by omega)
    go_enter Try.func37, Try.ntmps37
    go_wp2
    go_ret
    exact HS.out
set_option maxRecDepth 100000 in
set_option maxHeartbeats 2000000 in
theorem take_pop (gs : Nat) (sv : Value) (sp : List Ck) (y : Ck) (pn : Pos) (w : World) (ow : Ow) (hs : Spares w ow gs sv (sp ++ [y])) (hsp : sp.length ≤ 1000000) :
    Calls Try.prog 37 #[.pointer (some ⟨gs, 0, none⟩), .int .i64 512] w (TK w ow gs (sp ++ [y]) 512 pn) := by
  obtain ⟨g, cs, hl⟩ := hs.row.laid (by simp)
  have hv := hl.v
  subst hv
  rw [List.length_append, List.length_singleton] at hs hl
  have hyk := hs.row.ck sp.length y (by simp)
  have hyc : y.c = 512 := hs.full y (by simp)
  have c0 : w.cell? ⟨gs, 0, none⟩ = some (.slice (some ⟨g, 0, none⟩) (sp.length + 1) cs) := hs.var.has.cell 0
  have f0 : w.frozen? ⟨gs, 0, none⟩ = false := hs.var.has.free 0
  have c1 : w.cell? ⟨g, sp.length, none⟩ = some (.slice (some ⟨y.g, 0, none⟩) y.n 512) := by rw [← hyc]; exact hl.cell sp.length y (by simp)
  have hle : sp.length + 1 ≤ cs := by simpa using hl.le
  have HS : Hid (TK w ow gs (sp ++ [y]) 512 pn (.returned (.slice (some ⟨y.g, 0, none⟩) 0 512)) (w.setCell ⟨gs, 0, none⟩ (.slice (some ⟨g, 0, none⟩) sp.length cs))) := by
    have st1 := hs.var.stepset 0 (.slice (some ⟨g, 0, none⟩) sp.length cs)
    have hrow := (Row.shrink hs.row hl).step st1 (by simp) (by simp)
    have hy1 := hyk.step st1 (by simp)
    have st2 : Step (fun q => q = (21, 0, sp.length)) (w.setCell ⟨gs, 0, none⟩ (.slice (some ⟨g, 0, none⟩) sp.length cs)) ow (w.setCell ⟨gs, 0, none⟩ (.slice (some ⟨g, 0, none⟩) sp.length cs)) (upd ow y.g pn) := (Step.refl _ _ _).own (.inr hyk.at'.1) _
    have hv1 := (hs.var.set 0 (.slice (some ⟨g, 0, none⟩) sp.length cs)).step st2 (by simp)
    refine ⟨{ y with n := 0 }, upd ow y.g pn, .slice (some ⟨g, 0, none⟩) sp.length cs, sp, ?_, rfl, hyc, by simp, (hy1.move pn).relen 0 (Nat.zero_le _), ⟨?_, hrow.step st2 (by simp) (fun j hj => by simp; omega), fun x hx => hs.full x (by simp [hx])⟩, (st1.mono fun p hp => ?_).trans (st2.mono fun p hp => ?_)⟩
    · show _ = Ending.returned (.slice (some ⟨y.g, 0, none⟩) 0 y.c); rw [hyc]
    · simpa using hv1
    · rw [hp]; exact .inl rfl
    · rw [hp]; exact .inr (.inr rfl)
  clear hs hl hyk hyc
  have q1 : (sp.length : Int) < ((sp.length + 1 : Nat) : Int) := by omega
  go_enter Try.func37, Try.ntmps37
  go_wp2
  go_ret
  exact HS.out
theorem take_any (gs n : Nat) (sv : Value) (sp : List Ck) (pn : Pos) (w : World) (ow : Ow) (hs : Spares w ow gs sv sp) (hn : n ≤ 512) (hsp : sp.length ≤ 1000000) :
    Calls Try.prog 37 #[.pointer (some ⟨gs, 0, none⟩), .int .i64 n] w (TK w ow gs sp n pn) := by
  rcases List.eq_nil_or_concat sp with e | ⟨sp', y, e⟩
  · exact take_make gs n sv sp pn w ow hs hn (fun _ => e)
  · by_cases h5 : n = 512
    · subst h5 e
      rw [List.concat_eq_append] at hs hsp ⊢
      exact take_pop gs sv sp' y pn w ow hs (by simp at hsp; omega)
    · exact take_make gs n sv sp pn w ow hs hn (fun h => absurd h h5)
/-- what give leaves -/
def GV (w : World) (ow : Ow) (gs : Nat) (sp : List Ck) (pp : Pos) (e : Ending) (w' : World) : Prop :=
  ∃ (ow' : Ow) (sv' : Value) (sp' : List Ck), e = .returned (.tuple #[]) ∧ sp'.length ≤ sp.length + 1 ∧ Spares w' ow' gs sv' sp' ∧ Step (fun p => Sq p ∨ p = pp) w ow w' ow'
theorem give_law {w w1 : World} {ow : Ow} {gs : Nat} {sv : Value} {sp : List Ck} {x : Ck} {pp : Pos} (hs : Spares w ow gs sv sp) (hx : CkAt w ow pp x) (hpp : ¬ Sq pp) (h5 : x.c = 512) (o : Obj)
    {gg cap : Nat} (hown : w1.ownsRow 0 68 1 (.slice (some ⟨gg, 0, none⟩) (sp.length + 1) cap) (sp.length + 1) (sp.map Ck.val ++ [.slice (some ⟨x.g, 0, none⟩) 0 512])) (hgrow : ((w.alloc o).drew).grownBy w1 sv.ownBlock) (hat : sv.ownBlock = some gg ∨ gg = w.heap.size + 1) :
    GV w ow gs sp pp (.returned (.tuple #[])) (w1.setCell ⟨gs, 0, none⟩ (.slice (some ⟨gg, 0, none⟩) (sp.length + 1) cap)) := by
  have hpp8 : pp.1 ≠ 8 ∧ pp.1 ≠ 11 ∧ pp.1 ≠ 21 := ⟨fun h => hpp (.inl h), fun h => hpp (.inr (.inl h)), fun h => hpp (.inr (.inr h))⟩
  obtain ⟨W, hW⟩ : ∃ W, W = (w.alloc o).drew := ⟨_, rfl⟩
  have st0 : ∀ Q : Pos → Prop, Step Q w ow W ow := fun Q => by rw [hW]; exact ((Step.refl Q w ow).alloc o).drewN 1
  have hsz : W.heap.size = w.heap.size + 1 := by rw [hW]; simp
  rw [← hW] at hgrow
  have hs0 := hs.step (st0 (fun _ => False)) (fun _ _ h => h)
  have hx0 := hx.step (st0 (fun _ => False)) (fun h => h)
  have stM : Step (fun q => q = pp) W ow W (upd ow x.g (21, 0, sp.length)) := (Step.refl _ _ _).own (.inr hx0.at'.1) _
  have hsM := hs0.step stM (fun p hp e => hpp (e ▸ hp))
  have hxM := (hx0.move (21, 0, sp.length)).relen 0 (Nat.zero_le _)
  have hval : (Ck.val { x with n := 0 }) = .slice (some ⟨x.g, 0, none⟩) 0 512 := by unfold Ck.val; simp [h5]
  rw [← hval] at hown
  obtain ⟨hR, stA⟩ := hsM.row.append hxM (fun j _ => by simp) hown hgrow (by rw [hsz]; exact hat)
  have hv1 := hsM.var.step stA (by simp)
  have stV := hv1.stepset 0 (.slice (some ⟨gg, 0, none⟩) (sp.length + 1) cap)
  have hR1 := hR.step stV (by simp) (by simp)
  have hv2 := hv1.set 0 (.slice (some ⟨gg, 0, none⟩) (sp.length + 1) cap)
  refine ⟨_, _, sp ++ [{ x with n := 0 }], rfl, by simp, ⟨by simpa using hv2, hR1, fun y hy => ?_⟩, ((st0 _).trans ((stM.mono fun p hp => .inr hp).trans (stA.mono fun p hp => .inl ?_))).trans (stV.mono fun p hp => .inl ?_)⟩
  · rw [List.mem_append, List.mem_singleton] at hy
    rcases hy with hy | rfl
    · exact hs.full y hy
    · exact h5
  · rw [hp]; exact .inl rfl
  · rw [hp]; exact .inr (.inl rfl)
theorem owns_alloc_drew {w : World} {base e size : Nat} {v : Value} {n : Nat} {xs : List Value} (h : w.ownsRow base e size v n xs) (o : Obj) : ((w.alloc o).drew).ownsRow base e size v n xs :=
  owns_has h fun g hg => Below.heap_alloc w o g (h.lt g hg).2
set_option maxRecDepth 100000 in
set_option maxHeartbeats 2000000 in
theorem give_any (gs : Nat) (sv : Value) (sp : List Ck) (x : Ck) (pp : Pos) (w : World) (ow : Ow) (hs : Spares w ow gs sv sp) (hx : CkAt w ow pp x) (hpp : ¬ Sq pp) (hsp : sp.length ≤ 1000000) :
    Calls Try.prog 38 #[.pointer (some ⟨gs, 0, none⟩), .slice (some ⟨x.g, 0, none⟩) x.n x.c] w (GV w ow gs sp pp) := by
  by_cases h5 : x.c = 512
  · have HL : Hid (∀ (o : Obj) w1 gg cap, w1.ownsRow 0 68 1 (.slice (some ⟨gg, 0, none⟩) (sp.length + 1) cap) (sp.length + 1) (sp.map Ck.val ++ [.slice (some ⟨x.g, 0, none⟩) 0 512]) → ((w.alloc o).drew).grownBy w1 sv.ownBlock → (sv.ownBlock = some gg ∨ gg = w.heap.size + 1) → GV w ow gs sp pp (.returned (.tuple #[])) (w1.setCell ⟨gs, 0, none⟩ (.slice (some ⟨gg, 0, none⟩) (sp.length + 1) cap))) := by
      intro o w1 gg cap h1 h2 h3
      exact give_law hs hx hpp h5 o h1 h2 h3
    have HN : Hid (some gs ≠ sv.ownBlock ∧ gs < w.heap.size + 1) := ⟨fun e => absurd ((hs.row.hd gs e.symm).symm.trans hs.var.1) (by simp), Nat.lt_succ_of_lt hs.var.lt⟩
    obtain ⟨ps, cs, hv⟩ := hs.row.shape
    have c0 : w.cell? ⟨gs, 0, none⟩ = some sv := hs.var.has.cell 0
    have f0 : w.frozen? ⟨gs, 0, none⟩ = false := hs.var.has.free 0
    have lg := hs.var.lt
    have HC : Hid (∀ o : Obj, ((w.alloc o).drew).cell? ⟨gs, 0, none⟩ = some sv) := fun o => ((hs.var.has.alloc o).drewN 1).cell 0
    have HF : Hid (∀ o : Obj, ((w.alloc o).drew).frozen? ⟨gs, 0, none⟩ = false) := fun o => ((hs.var.has.alloc o).drewN 1).free 0
    have HO : Hid (w.ownsRow 0 68 1 sv sp.length (sp.map Ck.val)) := hs.row.own
    obtain ⟨i0, hi0, hz0, hz1, hz2⟩ := info_parts info68
    have hxn := hx.le
    rw [h5] at hxn ⊢
    generalize x.n = xn at *
    generalize x.g = xg at *
    clear hs hx h5 hv
    go_enter Try.func38, Try.ntmps38
    go_wp2_with fail
    go_region_law
      ((refine step_append_lies _ (by rfl) _ _ _ (by rfl) 0 68 i0 _ 1 24 Try.underlying85 hi0 hz0 hz1 hz2 rfl (by omega) sv sp.length (sp.map Ck.val) (by rfl) (owns_alloc_drew HO.out _)
            ⟨w.heap.size, 0, none⟩ 1 1 [.slice (some ⟨xg, 0, none⟩) 0 512] (by rfl) (by rfl) (World.news_of_block (cs := #[.slice (some ⟨xg, 0, none⟩) 0 512]) (t := 68) (fr := (0, 0)) (heap_alloc_new w _)) (by simp [Value.oneCell'])
            (by omega) (by unfold maxLen; omega) (by omega) (by omega) (w.heap.size + 1) (by simp) ?_; intro gg cap w1 hown1 hgrow hat hlt
        have c1 : w1.cell? ⟨gs, 0, none⟩ = some sv := (hgrow.cell_far _ (by simp; omega) HN.out.1).trans (HC.out _)
        have f2 : w1.frozen? ⟨gs, 0, none⟩ = false := (hgrow.frozen_far _ (by simp; omega) HN.out.1).trans (HF.out _)))
    all_goals go_wp2
    all_goals go_end0
    all_goals exact HL.out _ _ _ _ hown1 hgrow hat
  · have h5' : ¬ ((x.c : Int) = 512) := by omega
    have HS : Hid (GV w ow gs sp pp (.returned (.tuple #[])) w) := ⟨ow, sv, sp, rfl, by omega, hs, Step.refl _ _ _⟩
    clear hs hx
    go_enter Try.func38, Try.ntmps38
    go_wp2
    go_end0
    exact HS.out
end Go.Proofs.Qxb6601127a.Base
