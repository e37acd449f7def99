import Derived.Test.Qxb6601127aMerge
import Derived.Deep.DeepCutAuto
namespace Go.Proofs.Qxb6601127a.Base
open Go.ChangeShapes Go.WideShapes Go.ChangeAt Go.RowKit

theorem made_has {w : World} {g n t base : Nat} {z : Value} (h : w.ownsRow base t 1 (.slice (some ⟨g, 0, none⟩) n n) n (madeCells #[z] n).toList) : Has w g t (List.replicate n z).toArray := by
  rcases h.2 with ⟨h', _⟩ | ⟨g', cap, cur, h1, _, h3, _, _, h4, h5⟩
  · cases h'
  · simp at h1
    obtain ⟨rfl, rfl⟩ := h1
    have e : cur = (List.replicate n z).toArray := by
      rw [made_zero, List.take_of_length_le (by simp [h4])] at h5
      rw [← h5]
    rw [← e]; exact h3
theorem zeros_ints (n : Nat) : (List.replicate n (Value.int .i64 0)).toArray = ints (List.replicate n 0) := by simp [ints]
def keyOf (Fl : List Int) : Nat → Int := fun i => Fl.getD i 0
/-- the order is laid in new memory -/
def MO (Fl : List Int) (n : Nat) (w : World) (e : Ending) (w' : World) : Prop :=
  ∃ g L, e = .returned (.slice (some ⟨g, 0, none⟩) n n) ∧ Has w' g 3 (ints L) ∧ Srt.Run (keyOf Fl) 0 n L ∧ Below w.heap.size w w'
/-- the first k places laid -/
theorem fill_set (n k : Nat) (h : k < n) : (List.range k ++ List.replicate (n - k) 0).set k k = List.range (k + 1) ++ List.replicate (n - (k + 1)) 0 := by
  rw [List.set_append_right _ _ (by simp), List.length_range, Nat.sub_self, show n - k = (n - (k + 1)) + 1 from by omega, List.replicate_succ, List.set_cons_zero, List.range_succ]
  simp
theorem fill_at (n k : Nat) (h : k < n) : (List.range k ++ List.replicate (n - k) 0)[k]? = some 0 := by
  rw [List.getElem?_append_right (by simp), List.length_range, Nat.sub_self, List.getElem?_replicate, if_pos (by omega)]
/-- the two rows of the sort -/
structure Two (w : World) (gx gy n : Nat) (L Y : List Nat) (wr : World) : Prop where
  x : Has wr gx 3 (ints L)
  y : Has wr gy 3 (ints Y)
  ne : gx ≠ gy
  bx : w.heap.size ≤ gx
  by' : w.heap.size ≤ gy
  ly : Y.length = n
  below : Below w.heap.size w wr
theorem Two.write {w wr : World} {gx gy n : Nat} {L Y : List Nat} (h : Two w gx gy n L Y wr) (k v : Nat) : Two w gx gy n L (Y.set k v) (wr.setCell ⟨gy, k, none⟩ (.int .i64 (v : Int))) :=
  ⟨h.x.other h.ne k _, by rw [← ints_set]; exact h.y.set k _, h.ne, h.bx, h.by', by simpa using h.ly, h.below.setCell h.by' _⟩
theorem Two.later {w wr : World} {gx gy n : Nat} {L Y : List Nat} (h : Two w gx gy n L Y wr) (q : Nat) : Two w gx gy n L Y (wr.drewN q) :=
  ⟨h.x.drewN q, h.y.drewN q, h.ne, h.bx, h.by', h.ly, h.below.trans ((below_drewN q).mono h.below.size)⟩
theorem Two.swap {w wr : World} {gx gy n : Nat} {L Y : List Nat} (h : Two w gx gy n L Y wr) (hl : L.length = n) : Two w gy gx n Y L wr := ⟨h.y, h.x, fun e => h.ne e.symm, h.by', h.bx, hl, h.below⟩
theorem Two.at {w wr : World} {gx gy n : Nat} {L Y : List Nat} (h : Two w gx gy n L Y wr) {j v : Nat} (hj : L[j]? = some v) : wr.cell? ⟨gx, j, none⟩ = some (.int .i64 (v : Int)) := by
  rw [h.x.cell j, ints_at hj]
theorem Two.room {w wr : World} {gx gy n : Nat} {L Y : List Nat} (h : Two w gx gy n L Y wr) {j : Nat} (hj : j < n) : wr.frozen? ⟨gy, j, none⟩ = false ∧ ∃ u, wr.cell? ⟨gy, j, none⟩ = some u :=
  ⟨h.y.free j, by rw [h.y.cell j]; exact ⟨_, ints_at (List.getElem?_eq_getElem (by rw [h.ly]; exact hj))⟩⟩

theorem info3 : (Try.prog.info? 3).map (fun i => (i.zero, i.size, i.bytes)) = some (some (.int .i64 0), 1, 8) := by kernel_rfl
set_option maxRecDepth 100000 in
set_option maxHeartbeats 2000000 in
theorem order_pos (ba oa n c : Nat) (Fl : List Int) (w : World) (hl : Fl.length = n) (hn : n ≤ 65536) (h0 : 0 < n)
    (hc : ∀ (i : Nat) z, Fl[i]? = some z → w.cell? ⟨ba, oa + i, none⟩ = some (.int .i32 z)) :
    Calls Try.prog 12 #[.slice (some ⟨ba, oa, none⟩) n c, .slice none 0 0] w (MO Fl n w) := by
  have HF : Hid (∀ i, i < n → w.cell? ⟨ba, oa + i, none⟩ = some (.int .i32 (keyOf Fl i))) := by
    intro i hi
    have h := hc i Fl[i] (List.getElem?_eq_getElem (by omega))
    rw [h]; unfold keyOf; rw [List.getD_eq_getElem?_getD, List.getElem?_eq_getElem (by omega)]; rfl
  clear hc hl
  obtain ⟨i0, hi, hz0, hz1, hz2⟩ := info_parts info3
  go_enter Try.func12, Try.ntmps12
  go_wp2_with (at_make; refine wpList_make_full _ rfl (.tmp 18) (.tmp 18) 22 rfl w.heap.size 3 i0 (.int .i64 0) 1 Try.underlying22 hi hz0 hz1 .i64 .i64 _ _ n rfl rfl rfl rfl (by rw [hz2]; omega) (by unfold maxLen; omega) (Nat.le_refl _) ?_)
  intro w1 hown1 hgrow1
  have H1 : Hid (Has w1 w.heap.size 3 (ints (List.range 0 ++ List.replicate (n - 0) 0)) ∧ Below w.heap.size w w1) := by
    refine ⟨?_, (Below.refl _ _).grown hgrow1 (Nat.le_refl _) (by intro k h; cases h)⟩
    have h := made_has hown1
    rw [zeros_ints] at h; simpa using h
  clear hown1 hgrow1
  go_wp2
  go_loopw [7] (fun i wr => ∃ k : Nat, k ≤ n ∧ i = .int .i64 k ∧ Hid (Has wr w.heap.size 3 (ints (List.range k ++ List.replicate (n - k) 0)) ∧ Below w.heap.size w wr)) (fun i _ => n - (intOf i).toNat)
  case atStart => exact ⟨0, by omega, rfl, H1⟩
  case round =>
    obtain ⟨k, hk, rfl, hrow⟩ := hrel
    clear H1
    by_cases hlt : k < n
    · have c1 := hrow.out.1.cell k
      rw [ints_at (fill_at n k hlt)] at c1
      have f1 := hrow.out.1.free k
      have HS : Hid (Has (wr.setCell ⟨w.heap.size, k, none⟩ (.int .i64 (k : Int))) w.heap.size 3 (ints (List.range (k + 1) ++ List.replicate (n - (k + 1)) 0)) ∧ Below w.heap.size w (wr.setCell ⟨w.heap.size, k, none⟩ (.int .i64 (k : Int)))) := by
        refine ⟨?_, hrow.out.2.setCell (Nat.le_refl _) _⟩
        have h := hrow.out.1.set k (.int .i64 (k : Int))
        rw [ints_set, fill_set n k hlt] at h; exact h
      go_wp2
      go_roundw
      case rel => exact ⟨k + 1, by omega, by go_num, HS⟩
      case measure => simp only [intOf]; omega
    · have hkn : k = n := by omega
      subst hkn
      have hx : Has wr w.heap.size 3 (ints (List.range k)) := by have h := hrow.out.1; rw [Nat.sub_self] at h; simpa using h
      have hbel := hrow.out.2
      have hsz := hbel.size
      clear hrow
      have HX : Hid (Has wr w.heap.size 3 (ints (List.range k)) ∧ Below w.heap.size w wr) := ⟨hx, hbel⟩
      clear hx hbel
      go_wp2_with (at_make; refine wpList_make_full _ rfl (.tmp 29) (.tmp 29) 22 rfl w.heap.size 3 i0 (.int .i64 0) 1 Try.underlying22 hi hz0 hz1 .i64 .i64 _ _ k rfl rfl rfl rfl (by rw [hz2]; omega) (by unfold maxLen; omega) hsz ?_)
      intro w2 hown2 hgrow2
      have hxl := HX.out.1.lt
      have H2 : Hid (Two w w.heap.size wr.heap.size k (List.range k) (List.replicate k 0) w2) := by
        have hb2 : Below wr.heap.size wr w2 := (Below.refl _ _).grown hgrow2 (Nat.le_refl _) (by intro k h; cases h)
        refine ⟨HX.out.1.below hb2 hxl, by have h := made_has hown2; rw [zeros_ints] at h; exact h, by omega, Nat.le_refl _, hsz, by simp, below_trans HX.out.2 hb2⟩
      clear hown2 hgrow2
      go_wp2
      go_loopw [6, 8, 9] (fun x y s wr2 => ∃ (gx gy sN : Nat) (L Y : List Nat), x = .slice (some ⟨gx, 0, none⟩) k k ∧ y = .slice (some ⟨gy, 0, none⟩) k k ∧ s = .int .i64 sN ∧ 1 ≤ sN ∧ sN ≤ 131072 ∧ Hid (Srt.Runs (keyOf Fl) k sN L) ∧ Hid (Two w gx gy k L Y wr2)) (fun _ _ s _ => k - (intOf s).toNat)
      case atStart => exact ⟨_, _, 1, _, _, rfl, rfl, rfl, by omega, by omega, Srt.runs_start _ _, H2⟩
      case round =>
        obtain ⟨gx, gy, sN, L, Y0, rfl, rfl, rfl, hs1, hs2, hruns, htwo0⟩ := hrel
        clear H2 HX
        by_cases hsk : sN < k
        · go_wp2
          go_loopw [10] (fun lo wr3 => ∃ (q l : Nat) (Y : List Nat), lo = .int .i64 l ∧ Hid (l = q * (2 * sN)) ∧ l < k + 2 * sN ∧ Hid (Srt.Pass (keyOf Fl) k sN L Y q) ∧ Hid (Two w gx gy k L Y wr3)) (fun lo _ => k - (intOf lo).toNat)
          case atStart => exact ⟨0, 0, Y0, rfl, by simp [Hid], by omega, Srt.pass_start _ _ _ _ _ htwo0.out.ly, htwo0⟩
          case round =>
            obtain ⟨q, l, Y, rfl, hlq, hlk, hpass, htwo⟩ := hrel
            by_cases hlo : l < k
            · obtain ⟨md, hmd⟩ : ∃ md : Nat, md = min (l + sN) k := ⟨_, rfl⟩
              obtain ⟨hd, hhd⟩ : ∃ hd : Nat, hd = min (l + 2 * sN) k := ⟨_, rfl⟩
              have hm1 : l ≤ md := by omega
              have hm2 : md ≤ hd := by omega
              have hm3 : hd ≤ k := by omega
              have HMD : Hid (md = min (l + sN) k ∧ hd = min (l + 2 * sN) k) := ⟨hmd, hhd⟩
              clear hmd hhd
              go_upto_if 48 with (fail)
              go_cut [11] (fun m wc => m = .int .i64 (md : Int) ∧ wc = wr)
              case first =>
                by_cases hc1 : l + sN ≤ k
                · have e1 : ((l : Int) + sN) = (md : Int) := by have := HMD.out.1; omega
                  have E1 : Hid (((l : Int) + sN) = (md : Int)) := e1
                  clear e1
                  go_wp2
                  go_meet
                  case rel => exact ⟨by rw [← E1.out], rfl⟩
                · have e1 : k = md := by have := HMD.out.1; omega
                  have E1 : Hid (k = md) := e1
                  clear e1
                  go_wp2
                  go_meet
                  case rel => exact ⟨by rw [← E1.out], rfl⟩
              case rest =>
                obtain ⟨hcu, hwc⟩ := hcut
                subst hcu hwc
                go_upto_if 56 with (fail)
                go_cut [12] (fun m wc2 => m = .int .i64 (hd : Int) ∧ wc2 = wc)
                case first =>
                  by_cases hc1 : l + 2 * sN ≤ k
                  · have e1 : ((l : Int) + 2 * sN) = (hd : Int) := by have := HMD.out.2; omega
                    have E1 : Hid (((l : Int) + 2 * sN) = (hd : Int)) := e1
                    clear e1
                    go_wp2
                    go_meet
                    case rel => exact ⟨by rw [← E1.out], rfl⟩
                  · have e1 : k = hd := by have := HMD.out.2; omega
                    have E1 : Hid (k = hd) := e1
                    clear e1
                    go_wp2
                    go_meet
                    case rel => exact ⟨by rw [← E1.out], rfl⟩
                case rest =>
                  obtain ⟨hcu, hwc⟩ := hcut
                  subst hcu hwc
                  go_wp2
                  go_loopw [13, 14, 15] (fun i j kk wr4 => ∃ (p r : Nat) (Y4 : List Nat), i = .int .i64 ((l + p : Nat) : Int) ∧ j = .int .i64 ((md + r : Nat) : Int) ∧ kk = .int .i64 ((l + p + r : Nat) : Int) ∧ l + p ≤ md ∧ md + r ≤ hd ∧ Hid (Srt.Pass (keyOf Fl) k sN L Y4 q) ∧ Hid (Srt.Mid (keyOf Fl) (Srt.win L l md) (Srt.win L md hd) Y4 l p r) ∧ Hid (Two w gx gy k L Y4 wr4)) (fun i j _ _ => md + hd - ((intOf i).toNat + (intOf j).toNat))
                  case atStart => exact ⟨0, 0, Y, rfl, rfl, rfl, by omega, by omega, hpass, Srt.mid_start _ _ _ _ _, htwo⟩
                  case round =>
                    obtain ⟨p, r, Y4, rfl, rfl, rfl, hp, hr, hpass4, hmid4, htwo4⟩ := hrel
                    clear hpass htwo
                    by_cases hlp : l + p < md
                    · by_cases hlr : md + r < hd
                      · obtain ⟨a, ha⟩ : ∃ a, L[l + p]? = some a := ⟨_, List.getElem?_eq_getElem (by rw [hruns.out.len]; omega)⟩
                        obtain ⟨b, hb⟩ : ∃ b, L[md + r]? = some b := ⟨_, List.getElem?_eq_getElem (by rw [hruns.out.len]; omega)⟩
                        have hak := Srt.runs_lt hruns.out hs1 ha
                        have hbk := Srt.runs_lt hruns.out hs1 hb
                        have c1 := htwo4.out.at ha
                        have c2 := htwo4.out.at hb
                        have g1 : ((l + p : Nat) : Int) < (k : Int) := by omega
                        have g2 : ((md + r : Nat) : Int) < (k : Int) := by omega
                        obtain ⟨f3, u, c3⟩ := htwo4.out.room (j := l + p + r) (by omega)
                        have HBF : Hid (∀ Q, Calls Try.prog 32 #[.slice (some ⟨ba, oa, none⟩) k c, .slice none 0 0, .int .i64 (b : Int), .int .i64 (a : Int)] (wr.drewN Q) (Quietly (decide (keyOf Fl b < keyOf Fl a)) (wr.drewN Q))) := by
                          intro Q
                          exact before_any ba oa k c b a _ _ _ hbk hak (cell_below htwo4.out.below (HF.out b hbk)) (cell_below htwo4.out.below (HF.out a hak))
                        have HAB : Hid (L[l + p]? = some a ∧ L[md + r]? = some b) := ⟨ha, hb⟩
                        clear ha hb
                        cases hdec : decide (keyOf Fl b < keyOf Fl a)
                        · rw [hdec] at HBF
                          have HS : Hid (Srt.Pass (keyOf Fl) k sN L (Y4.set (l + p + r) a) q ∧ Srt.Mid (keyOf Fl) (Srt.win L l md) (Srt.win L md hd) (Y4.set (l + p + r) a) l (p + 1) r ∧ ∀ Q, Two w gx gy k L (Y4.set (l + p + r) a) ((wr.drewN Q).setCell ⟨gy, l + p + r, none⟩ (.int .i64 (a : Int)))) := by
                            refine ⟨Srt.pass_write hpass4.out (by rw [← hlq.out]; omega), Srt.mid_left hmid4.out (by rw [Srt.win_at _ _ _ _ (by omega)]; exact HAB.out.1) (by rw [htwo4.out.ly]; omega) (fun b' hb' => ?_), fun Q => (htwo4.out.later Q).write _ _⟩
                            rw [Srt.win_at _ _ _ _ (by omega), HAB.out.2] at hb'; cases hb'
                            unfold Srt.le; simp at hdec ⊢; exact hdec
                          clear hdec
                          go_wp2
                          go_quiet ((go_at_call 32; exact Calls.quiet_of (HBF.out _)))
                          go_wp2
                          go_roundw
                          case rel => exact ⟨p + 1, r, _, by go_num, by go_num, by go_num, by omega, by omega, HS.out.1, HS.out.2.1, HS.out.2.2 _⟩
                          case measure => simp [intOf]; omega
                        · rw [hdec] at HBF
                          have HS : Hid (Srt.Pass (keyOf Fl) k sN L (Y4.set (l + p + r) b) q ∧ Srt.Mid (keyOf Fl) (Srt.win L l md) (Srt.win L md hd) (Y4.set (l + p + r) b) l p (r + 1) ∧ ∀ Q, Two w gx gy k L (Y4.set (l + p + r) b) ((wr.drewN Q).setCell ⟨gy, l + p + r, none⟩ (.int .i64 (b : Int)))) := by
                            refine ⟨Srt.pass_write hpass4.out (by rw [← hlq.out]; omega), Srt.mid_right hmid4.out (by rw [Srt.win_at _ _ _ _ (by omega)]; exact HAB.out.2) (by rw [htwo4.out.ly]; omega) (fun a' ha' => ?_), fun Q => (htwo4.out.later Q).write _ _⟩
                            rw [Srt.win_at _ _ _ _ (by omega), HAB.out.1] at ha'; cases ha'
                            unfold Srt.le; simp at hdec ⊢; exact hdec
                          clear hdec
                          go_wp2
                          go_quiet ((go_at_call 32; exact Calls.quiet_of (HBF.out _)))
                          go_wp2
                          go_roundw
                          case rel => exact ⟨p, r + 1, _, by go_num, by go_num, by go_num, by omega, by omega, HS.out.1, HS.out.2.1, HS.out.2.2 _⟩
                          case measure => simp [intOf]; omega
                      · have hex : l + p < md → md + r = hd := fun _ => by omega
                        have HEX : Hid (l + p < md → md + r = hd) := hex
                        clear hex
                        go_wp2
                        go_loopw [13, 15] (fun i kk wr5 => ∃ (p5 : Nat) (Y5 : List Nat), i = .int .i64 ((l + p5 : Nat) : Int) ∧ kk = .int .i64 ((l + p5 + r : Nat) : Int) ∧ l + p5 ≤ md ∧ Hid (l + p5 < md → md + r = hd) ∧ Hid (Srt.Pass (keyOf Fl) k sN L Y5 q) ∧ Hid (Srt.Mid (keyOf Fl) (Srt.win L l md) (Srt.win L md hd) Y5 l p5 r) ∧ Hid (Two w gx gy k L Y5 wr5)) (fun i _ _ => md - (intOf i).toNat)
                        case atStart => exact ⟨p, Y4, rfl, rfl, hp, HEX, hpass4, hmid4, htwo4⟩
                        case round =>
                          obtain ⟨p5, Y5, rfl, rfl, hp5, hex5, hpass5, hmid5, htwo5⟩ := hrel
                          clear hpass4 hmid4 htwo4 HEX
                          by_cases hlt5 : l + p5 < md
                          · have hrr := hex5.out hlt5
                            obtain ⟨a, ha⟩ : ∃ a, L[l + p5]? = some a := ⟨_, List.getElem?_eq_getElem (by rw [hruns.out.len]; omega)⟩
                            have c2 := htwo5.out.at ha
                            obtain ⟨f3, u, c3⟩ := htwo5.out.room (j := l + p5 + r) (by omega)
                            have HS : Hid (Srt.Pass (keyOf Fl) k sN L (Y5.set (l + p5 + r) a) q ∧ Srt.Mid (keyOf Fl) (Srt.win L l md) (Srt.win L md hd) (Y5.set (l + p5 + r) a) l (p5 + 1) r ∧ Two w gx gy k L (Y5.set (l + p5 + r) a) (wr.setCell ⟨gy, l + p5 + r, none⟩ (.int .i64 (a : Int)))) := by
                              refine ⟨Srt.pass_write hpass5.out (by rw [← hlq.out]; omega), Srt.mid_left hmid5.out (by rw [Srt.win_at _ _ _ _ (by omega)]; exact ha) (by rw [htwo5.out.ly]; omega) (fun b hb => ?_), htwo5.out.write _ _⟩
                              rw [List.getElem?_eq_none (by rw [Srt.win_len _ _ _ (by rw [hruns.out.len]; omega)]; omega)] at hb; cases hb
                            have HAV : Hid (L[l + p5]? = some a) := ha
                            have HRR : Hid (md + r = hd) := hrr
                            clear ha hrr
                            go_wp2
                            go_roundw
                            case rel => exact ⟨p5 + 1, _, by go_num, by go_num, by omega, fun _ => HRR.out, HS.out.1, HS.out.2.1, HS.out.2.2⟩
                            case measure => simp only [intOf]; omega
                          · clear hex5
                            go_wp2
                            go_loopw [14, 15] (fun j kk wr6 => ∃ (r6 : Nat) (Y6 : List Nat), j = .int .i64 ((md + r6 : Nat) : Int) ∧ kk = .int .i64 ((l + p5 + r6 : Nat) : Int) ∧ md + r6 ≤ hd ∧ Hid (Srt.Pass (keyOf Fl) k sN L Y6 q) ∧ Hid (Srt.Mid (keyOf Fl) (Srt.win L l md) (Srt.win L md hd) Y6 l p5 r6) ∧ Hid (Two w gx gy k L Y6 wr6)) (fun j _ _ => hd - (intOf j).toNat)
                            case atStart => exact ⟨r, Y5, rfl, rfl, hr, hpass5, hmid5, htwo5⟩
                            case round =>
                              obtain ⟨r6, Y6, rfl, rfl, hr6, hpass6, hmid6, htwo6⟩ := hrel
                              clear hpass5 hmid5 htwo5
                              by_cases hlt6 : md + r6 < hd
                              · obtain ⟨b, hb⟩ : ∃ b, L[md + r6]? = some b := ⟨_, List.getElem?_eq_getElem (by rw [hruns.out.len]; omega)⟩
                                have c2 := htwo6.out.at hb
                                obtain ⟨f3, u, c3⟩ := htwo6.out.room (j := l + p5 + r6) (by omega)
                                have HS : Hid (Srt.Pass (keyOf Fl) k sN L (Y6.set (l + p5 + r6) b) q ∧ Srt.Mid (keyOf Fl) (Srt.win L l md) (Srt.win L md hd) (Y6.set (l + p5 + r6) b) l p5 (r6 + 1) ∧ Two w gx gy k L (Y6.set (l + p5 + r6) b) (wr.setCell ⟨gy, l + p5 + r6, none⟩ (.int .i64 (b : Int)))) := by
                                  refine ⟨Srt.pass_write hpass6.out (by rw [← hlq.out]; omega), Srt.mid_right hmid6.out (by rw [Srt.win_at _ _ _ _ (by omega)]; exact hb) (by rw [htwo6.out.ly]; omega) (fun a ha => ?_), htwo6.out.write _ _⟩
                                  rw [List.getElem?_eq_none (by rw [Srt.win_len _ _ _ (by rw [hruns.out.len]; omega)]; omega)] at ha; cases ha
                                have HBV : Hid (L[md + r6]? = some b) := hb
                                clear hb
                                go_wp2
                                go_roundw
                                case rel => exact ⟨r6 + 1, _, by go_num, by go_num, by omega, HS.out.1, HS.out.2.1, HS.out.2.2⟩
                                case measure => simp only [intOf]; omega
                              · have HNX : Hid (Srt.Pass (keyOf Fl) k sN L Y6 (q + 1)) := by
                                  refine Srt.pass_next hpass6.out ?_
                                  have e := Srt.mid_end hmid6.out (by rw [Srt.win_len _ _ _ (by rw [hruns.out.len]; omega)]; omega) (by rw [Srt.win_len _ _ _ (by rw [hruns.out.len]; omega)]; omega)
                                  rw [show l + p5 + r6 = hd from by omega] at e
                                  rw [← hlq.out, ← HMD.out.1, ← HMD.out.2]; exact e
                                go_wp2
                                go_roundw
                                case rel => exact ⟨q + 1, l + 2 * sN, Y6, by go_num, by show l + 2 * sN = (q + 1) * (2 * sN); rw [Nat.add_mul, Nat.one_mul, ← hlq.out], by omega, HNX, htwo6⟩
                                case measure => simp only [intOf]; omega

                    · have hex : l + p < md → md + r = hd := fun h => absurd h hlp
                      have HEX : Hid (l + p < md → md + r = hd) := hex
                      clear hex
                      go_wp2
                      go_loopw [13, 15] (fun i kk wr5 => ∃ (p5 : Nat) (Y5 : List Nat), i = .int .i64 ((l + p5 : Nat) : Int) ∧ kk = .int .i64 ((l + p5 + r : Nat) : Int) ∧ l + p5 ≤ md ∧ Hid (l + p5 < md → md + r = hd) ∧ Hid (Srt.Pass (keyOf Fl) k sN L Y5 q) ∧ Hid (Srt.Mid (keyOf Fl) (Srt.win L l md) (Srt.win L md hd) Y5 l p5 r) ∧ Hid (Two w gx gy k L Y5 wr5)) (fun i _ _ => md - (intOf i).toNat)
                      case atStart => exact ⟨p, Y4, rfl, rfl, hp, HEX, hpass4, hmid4, htwo4⟩
                      case round =>
                        obtain ⟨p5, Y5, rfl, rfl, hp5, hex5, hpass5, hmid5, htwo5⟩ := hrel
                        clear hpass4 hmid4 htwo4 HEX
                        by_cases hlt5 : l + p5 < md
                        · have hrr := hex5.out hlt5
                          obtain ⟨a, ha⟩ : ∃ a, L[l + p5]? = some a := ⟨_, List.getElem?_eq_getElem (by rw [hruns.out.len]; omega)⟩
                          have c2 := htwo5.out.at ha
                          obtain ⟨f3, u, c3⟩ := htwo5.out.room (j := l + p5 + r) (by omega)
                          have HS : Hid (Srt.Pass (keyOf Fl) k sN L (Y5.set (l + p5 + r) a) q ∧ Srt.Mid (keyOf Fl) (Srt.win L l md) (Srt.win L md hd) (Y5.set (l + p5 + r) a) l (p5 + 1) r ∧ Two w gx gy k L (Y5.set (l + p5 + r) a) (wr.setCell ⟨gy, l + p5 + r, none⟩ (.int .i64 (a : Int)))) := by
                            refine ⟨Srt.pass_write hpass5.out (by rw [← hlq.out]; omega), Srt.mid_left hmid5.out (by rw [Srt.win_at _ _ _ _ (by omega)]; exact ha) (by rw [htwo5.out.ly]; omega) (fun b hb => ?_), htwo5.out.write _ _⟩
                            rw [List.getElem?_eq_none (by rw [Srt.win_len _ _ _ (by rw [hruns.out.len]; omega)]; omega)] at hb; cases hb
                          have HAV : Hid (L[l + p5]? = some a) := ha
                          have HRR : Hid (md + r = hd) := hrr
                          clear ha hrr
                          go_wp2
                          go_roundw
                          case rel => exact ⟨p5 + 1, _, by go_num, by go_num, by omega, fun _ => HRR.out, HS.out.1, HS.out.2.1, HS.out.2.2⟩
                          case measure => simp only [intOf]; omega
                        · clear hex5
                          go_wp2
                          go_loopw [14, 15] (fun j kk wr6 => ∃ (r6 : Nat) (Y6 : List Nat), j = .int .i64 ((md + r6 : Nat) : Int) ∧ kk = .int .i64 ((l + p5 + r6 : Nat) : Int) ∧ md + r6 ≤ hd ∧ Hid (Srt.Pass (keyOf Fl) k sN L Y6 q) ∧ Hid (Srt.Mid (keyOf Fl) (Srt.win L l md) (Srt.win L md hd) Y6 l p5 r6) ∧ Hid (Two w gx gy k L Y6 wr6)) (fun j _ _ => hd - (intOf j).toNat)
                          case atStart => exact ⟨r, Y5, rfl, rfl, hr, hpass5, hmid5, htwo5⟩
                          case round =>
                            obtain ⟨r6, Y6, rfl, rfl, hr6, hpass6, hmid6, htwo6⟩ := hrel
                            clear hpass5 hmid5 htwo5
                            by_cases hlt6 : md + r6 < hd
                            · obtain ⟨b, hb⟩ : ∃ b, L[md + r6]? = some b := ⟨_, List.getElem?_eq_getElem (by rw [hruns.out.len]; omega)⟩
                              have c2 := htwo6.out.at hb
                              obtain ⟨f3, u, c3⟩ := htwo6.out.room (j := l + p5 + r6) (by omega)
                              have HS : Hid (Srt.Pass (keyOf Fl) k sN L (Y6.set (l + p5 + r6) b) q ∧ Srt.Mid (keyOf Fl) (Srt.win L l md) (Srt.win L md hd) (Y6.set (l + p5 + r6) b) l p5 (r6 + 1) ∧ Two w gx gy k L (Y6.set (l + p5 + r6) b) (wr.setCell ⟨gy, l + p5 + r6, none⟩ (.int .i64 (b : Int)))) := by
                                refine ⟨Srt.pass_write hpass6.out (by rw [← hlq.out]; omega), Srt.mid_right hmid6.out (by rw [Srt.win_at _ _ _ _ (by omega)]; exact hb) (by rw [htwo6.out.ly]; omega) (fun a ha => ?_), htwo6.out.write _ _⟩
                                rw [List.getElem?_eq_none (by rw [Srt.win_len _ _ _ (by rw [hruns.out.len]; omega)]; omega)] at ha; cases ha
                              have HBV : Hid (L[md + r6]? = some b) := hb
                              clear hb
                              go_wp2
                              go_roundw
                              case rel => exact ⟨r6 + 1, _, by go_num, by go_num, by omega, HS.out.1, HS.out.2.1, HS.out.2.2⟩
                              case measure => simp only [intOf]; omega
                            · have HNX : Hid (Srt.Pass (keyOf Fl) k sN L Y6 (q + 1)) := by
                                refine Srt.pass_next hpass6.out ?_
                                have e := Srt.mid_end hmid6.out (by rw [Srt.win_len _ _ _ (by rw [hruns.out.len]; omega)]; omega) (by rw [Srt.win_len _ _ _ (by rw [hruns.out.len]; omega)]; omega)
                                rw [show l + p5 + r6 = hd from by omega] at e
                                rw [← hlq.out, ← HMD.out.1, ← HMD.out.2]; exact e
                              go_wp2
                              go_roundw
                              case rel => exact ⟨q + 1, l + 2 * sN, Y6, by go_num, by show l + 2 * sN = (q + 1) * (2 * sN); rw [Nat.add_mul, Nat.one_mul, ← hlq.out], by omega, HNX, htwo6⟩
                              case measure => simp only [intOf]; omega
            · have hfin : Srt.Runs (keyOf Fl) k (2 * sN) Y := Srt.pass_end hpass.out hruns.out (by rw [← hlq.out]; omega)
              have HN : Hid (Srt.Runs (keyOf Fl) k (2 * sN) Y ∧ Two w gy gx k Y L wr) := ⟨hfin, htwo.out.swap hruns.out.len⟩
              clear hfin
              go_wp2
              go_roundw
              case rel => exact ⟨gy, gx, 2 * sN, Y, L, rfl, rfl, by go_num, by omega, by omega, HN.out.1, HN.out.2⟩
              case measure => simp only [intOf]; omega
        · go_wp2
          go_ret
          exact ⟨gx, L, rfl, htwo0.out.x, Srt.runs_end hruns.out (by omega), htwo0.out.below⟩
set_option maxRecDepth 100000 in
theorem order_zero (p : Option Addr) (c : Nat) (w : World) : Calls Try.prog 12 #[.slice p 0 c, .slice none 0 0] w (MO [] 0 w) := by
  obtain ⟨i0, hi, hz0, hz1, hz2⟩ := info_parts info3
  go_enter Try.func12, Try.ntmps12
  go_wp2_with (at_make; refine wpList_make_full _ rfl (.tmp 18) (.tmp 18) 22 rfl w.heap.size 3 i0 (.int .i64 0) 1 Try.underlying22 hi hz0 hz1 .i64 .i64 _ _ 0 rfl rfl rfl rfl (by rw [hz2]; omega) (by unfold maxLen; omega) (Nat.le_refl _) ?_)
  intro w1 hown1 hgrow1
  have hb1 : Below w.heap.size w w1 := (Below.refl _ _).grown hgrow1 (Nat.le_refl _) (by intro k h; cases h)
  have hx : Has w1 w.heap.size 3 (ints []) := by have h := made_has hown1; rw [zeros_ints] at h; exact h
  have HX : Hid (Has w1 w.heap.size 3 (ints []) ∧ Below w.heap.size w w1) := ⟨hx, hb1⟩
  have hsz := hb1.size
  have hxl := hx.lt
  clear hown1 hgrow1 hb1 hx
  go_wp2
  refine wp_loop_rounds 1 ?_
  rw [rounds_succ]
  go_wp2_with (at_make; refine wpList_make_full _ rfl (.tmp 29) (.tmp 29) 22 rfl w.heap.size 3 i0 (.int .i64 0) 1 Try.underlying22 hi hz0 hz1 .i64 .i64 _ _ 0 rfl rfl rfl rfl (by rw [hz2]; omega) (by unfold maxLen; omega) hsz ?_)
  intro w2 hown2 hgrow2
  have HX2 : Hid (Has w2 w.heap.size 3 (ints []) ∧ Below w.heap.size w w2) := by
    have hb2 : Below w1.heap.size w1 w2 := (Below.refl _ _).grown hgrow2 (Nat.le_refl _) (by intro k h; cases h)
    exact ⟨HX.out.1.below hb2 hxl, below_trans HX.out.2 hb2⟩
  clear hown2 hgrow2 HX
  go_wp2
  refine wp_loop_rounds 1 ?_
  rw [rounds_succ]
  go_wp2
  go_ret
  exact ⟨_, [], rfl, HX2.out.1, ⟨by simp, by simp⟩, HX2.out.2⟩
set_option maxRecDepth 100000 in
theorem order_any (s : IS) (w : World) (hs : IS.Ok .i32 w s) (hn : s.zs.length ≤ 65536) : Calls Try.prog 12 #[.slice s.p s.zs.length s.c, .slice none 0 0] w (MO s.zs s.zs.length w) := by
  by_cases h0 : 0 < s.zs.length
  · obtain ⟨b, o, e', hc⟩ := hs.cells h0
    rw [e']; exact order_pos b o _ _ _ w rfl hn h0 hc
  · have e' : s.zs = [] := List.eq_nil_of_length_eq_zero (by omega)
    rw [e']; exact order_zero _ _ w
end Go.Proofs.Qxb6601127a.Base
