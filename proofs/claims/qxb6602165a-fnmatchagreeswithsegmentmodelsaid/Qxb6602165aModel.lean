/-
  WALK of the seat b6602165a: modelMatch (14): the set simulation over the segments.
-/
import Derived.Test.Qxb6602165aSeg
import Derived.Deep.RegionWith
namespace Go.Proofs.Qxb6602165a
open Go.RowKit Plain

def upTo (f : Nat → Bool) (j i : Nat) : Bool := if i < j then f i else false
theorem upTo_step (f : Nat → Bool) (j : Nat) (i : Nat) : (if i = j then f j else upTo f j i) = upTo f (j + 1) i := by
  unfold upTo
  by_cases e : i = j
  · subst e
    rw [if_pos rfl, if_pos (Nat.lt_succ_self _)]
  · rw [if_neg e]
    by_cases e2 : i < j
    · rw [if_pos e2, if_pos (by omega)]
    · rw [if_neg e2, if_neg (by omega)]

theorem Row.drew {B : Nat} {w : World} {ao : Option Addr} {n : Nat} {f : Nat → Value} (h : Row B w ao n f) : Row B w.drew ao n f := h.below (Below.refl _ _).drew

set_option maxHeartbeats 16000000 in
theorem modelMatch14 (p : Nat → Nat) (n : Nat) (hp : Prg p n) {B : Nat} (ao ao2 : Option Addr) (c c2 M : Nat) (S mm : Nat → Nat) (nm : Nat → ByteArray) (K : Nat) (w : World) (hB : B ≤ w.heap.size) (hr : Row B w ao n (pv p)) (hr2 : Row B w ao2 K (nv nm)) (hP : Path (p := p) (n := n) 0 M S mm)
    (hK : K ≤ 4096) (hz : ∀ k, k < K → (nm k).size ≤ 1048576) :
    Calls Try.prog 14 #[.slice ao n c, .slice ao2 K c2] w fun e w' => e = .returned (.bool (pathAcc p n M S mm nm K)) ∧ Below w.heap.size w w' := by
  have hn := hp.len
  obtain ⟨i0, hi, hz0, hz1, hz2⟩ := info_parts Try.info4
  have HI := hide (And.intro hi (And.intro hz0 (And.intro hz1 hz2)))
  have HSg := hide (segments17 p n hp ao c M S mm w hB hr hP)
  have HRB := hide (fun W (hW : Below w.heap.size w W) => And.intro (hr.below (hW.mono hB)) (hr2.below (hW.mono hB)))
  have HP := hide hP
  have HZ := hide hz
  have HPg := hide hp
  have hM : M ≤ n + 1 := by
    have := path_le hP M (Nat.le_refl _)
    rw [hP.last] at this
    exact this
  clear hi hz0 hz1 hz2 hr hr2 hp hP hz
  go_enter Try.func14, Try.ntmps14
  go_wp2_with fail
  refine (unhide HSg).mono ?_
  rintro e w1 ⟨aoS, cS, aoE, cE, rfl, hrow1, hrow2, hb1⟩
  have hz1 : w.heap.size ≤ w1.heap.size := hb1.size
  have HR1 := hide (fun W (hW : Below w1.heap.size w1 W) => And.intro (unhide HRB W (hb1.trans (hW.mono hz1))) (And.intro (hrow1.below hW) (hrow2.below hW)))
  have HWA := hide (fun W (hW : Below w1.heap.size w1 W) => hb1.trans (hW.mono hz1))
  have HBB : Hid (B ≤ w1.heap.size) := Nat.le_trans hB hz1
  clear hrow1 hrow2 hb1 HSg HRB hz1 hB
  go_wp2_with (at_make; refine wpList_make_full _ rfl _ _ 42 rfl w1.heap.size 4 i0 _ 1 Try.underlying42 (unhide HI).1 (unhide HI).2.1 (unhide HI).2.2.1 _ _ _ _ M rfl rfl rfl rfl (by rw [(unhide HI).2.2.2]; omega) (by unfold maxLen; omega) (Nat.le_refl _) ?_; intro w2 hown hgrow; have HM := hide (And.intro (bools_made hown) (Below.grown (Below.refl w1.heap.size w1) hgrow (Nat.le_refl _) (fun j hj => by cases hj))); clear hown hgrow)
  obtain ⟨g0, hg0⟩ : ∃ g0, g0 = w1.heap.size := ⟨_, rfl⟩
  rw [← hg0] at HM HR1 HWA HBB ⊢
  clear hg0
  go_loopw [9] (fun i wr => ∃ j : Nat, j ≤ M ∧ i = .int .i64 j ∧ Hid (Bools wr g0 M (upTo (stD p n S) j)) ∧ Hid (Below g0 w1 wr)) (fun i _ => M - (intOf i).toNat)
  case atStart => exact ⟨0, Nat.zero_le _, rfl, (unhide HM).1.congr (fun j _ => by simp [upTo]), (unhide HM).2⟩
  case round =>
    clear HM
    obtain ⟨j, hj, rfl, HX, HW⟩ := hrel
    have hA := unhide HR1 wr (unhide HW)
    by_cases hjm : j < M
    · have hSn := (unhide HP).le j hjm
      have hpt := (unhide HP).part j hjm
      have hEn := hpt.seg.le _ (Nat.le_refl (mm j))
      have hds := part_deepSeg hpt
      have HD := hide (isDeepSeg18 p n (unhide HPg) ao c (S j) (it p n (S j) (mm j)) wr.drew hA.1.1.drew hSn hEn)
      rw [hds] at HD
      rcases hA.2.1 with h0 | ⟨b, off, rfl, _, hc⟩
      · omega
      rcases hA.2.2 with h0 | ⟨b2, off2, rfl, _, hc2⟩
      · omega
      have c3 : wr.cell? ⟨b, off + j, none⟩ = some (.int .i64 (S j : Int)) := hc j hjm
      have c4 : wr.cell? ⟨b2, off2 + j, none⟩ = some (.int .i64 (it p n (S j) (mm j) : Int)) := hc2 j hjm
      have c5 := (unhide HX).cell j hjm
      have f5 := (unhide HX).frozen j
      have HN := hide (((unhide HX).set j (stD p n S j)).congr (fun i _ => upTo_step (stD p n S) j i))
      have HV2 := hide ((unhide HW).setCell (p := ⟨g0, j, none⟩) (Nat.le_refl _) (.bool (stD p n S j)))
      have HST : Hid (deepB p n (S j) = stD p n S j) := rfl
      rw [unhide HST] at HD
      clear hc hc2 hA hpt hds HX
      generalize it p n (S j) (mm j) = y at *
      generalize stD p n S j = dj at *
      generalize S j = z at *
      go_wp2
      go_region_with (go_at_call 18; refine (unhide HD).mono ?_; rintro e w' ⟨rfl, rfl⟩)
      all_goals (
        go_wp2
        go_roundw
        case rel => exact ⟨j + 1, hjm, by go_num, (unhide HN).drew, (unhide HV2).drew⟩
        case measure => (simp [intOf]; omega))
    · have hjm2 : j = M := by omega
      have HDp : Hid (Bools wr g0 M (stD p n S)) := (unhide HX).congr (fun i hi => by unfold upTo; rw [if_pos (by omega)])
      have hg0 : g0 < wr.heap.size := (unhide HX).lt
      clear hjm2 HX hA
      obtain ⟨wd, hwd⟩ : ∃ wd : World, wd = wr := ⟨_, rfl⟩
      subst hwd
      have HRA := hide (fun W (hW : Below wd.heap.size wd W) => And.intro (unhide HR1 W ((unhide HW).trans (hW.mono (Nat.le_of_lt hg0)))) ((unhide HDp).below hW hg0))
      have HWB := hide (fun W (hW : Below wd.heap.size wd W) => unhide HWA W ((unhide HW).trans (hW.mono (Nat.le_of_lt hg0))))
      have HB2 : Hid (g0 < wd.heap.size) := hg0
      clear HR1 HWA HDp hg0 HW
      go_wp2_with (at_make; refine wpList_make_full _ rfl _ _ 42 rfl wd.heap.size 4 i0 _ 1 Try.underlying42 (unhide HI).1 (unhide HI).2.1 (unhide HI).2.2.1 _ _ _ _ (M + 1) rfl rfl (by simp) (by simp) (by rw [(unhide HI).2.2.2]; omega) (by unfold maxLen; omega) (Nat.le_refl _) ?_; intro w3 hown hgrow; have HM := hide (And.intro (bools_made hown) (Below.grown (Below.refl wd.heap.size wd) hgrow (Nat.le_refl _) (fun j hj => by cases hj))); clear hown hgrow; have c0 := (unhide HM).1.cell 0 (by omega); have f0 := (unhide HM).1.frozen 0)
      have hst0 : Bools (w3.setCell ⟨wd.heap.size, 0, none⟩ (.bool true)) wd.heap.size (M + 1) (fun j => j == 0) := ((unhide HM).1.set 0 true).congr (fun j _ => by by_cases e : j = 0 <;> simp [e])
      have hbl0 : Below wd.heap.size wd (w3.setCell ⟨wd.heap.size, 0, none⟩ (.bool true)) := (unhide HM).2.setCell (p := ⟨wd.heap.size, 0, none⟩) (Nat.le_refl _) (.bool true)
      have HCl := hide (closeDeep29 (stD p n S) (fun j => j == 0) M wd.heap.size (some ⟨g0, 0, none⟩) M _ (by omega) ((unhide HRA _ hbl0).2.row (unhide HB2)) hst0)
      have HBl0 := hide hbl0
      clear hst0 hbl0 HM c0 f0
      refine (unhide HCl).mono ?_
      rintro e w4 ⟨rfl, hbo, hb4⟩
      have H4 : Hid (Bools w4 wd.heap.size (M + 1) (run M (stD p n S) (mtD p n S mm nm) 0)) := hbo
      have HB4 := hide ((unhide HBl0).trans hb4)
      clear hbo hb4 HCl HBl0
      obtain ⟨B2, hB2⟩ : ∃ B2, B2 = wd.heap.size := ⟨_, rfl⟩
      rw [← hB2] at HRA HWB HB2 H4 HB4 ⊢
      clear hB2
      go_wp2
      go_loopw [10, 11] (fun v i wr => ∃ g t : Nat, t ≤ K ∧ v = .slice (some ⟨g, 0, none⟩) (M + 1) (M + 1) ∧ i = .int .i64 t ∧ Hid (Bools wr g (M + 1) (run M (stD p n S) (mtD p n S mm nm) t)) ∧ Hid (B2 ≤ g) ∧ Hid (Below B2 wd wr)) (fun _ i _ => K - (intOf i).toNat)
      case atStart => exact ⟨B2, 0, Nat.zero_le _, rfl, rfl, H4, Nat.le_refl _, HB4⟩
      case round =>
        clear H4 HB4
        obtain ⟨g, t, ht, rfl, rfl, HX, HG, HW⟩ := hrel
        have hglt : Hid (g < wr.heap.size) := (unhide HX).lt
        by_cases hlt : t < K
        · go_wp2_with (at_make; refine wpList_make_full _ rfl _ _ 42 rfl wr.heap.size 4 i0 _ 1 Try.underlying42 (unhide HI).1 (unhide HI).2.1 (unhide HI).2.2.1 _ _ _ _ (M + 1) rfl rfl (by simp) (by simp) (by rw [(unhide HI).2.2.2]; omega) (by unfold maxLen; omega) (Nat.le_refl _) ?_; intro w5 hown hgrow; have HM := hide (And.intro (bools_made hown) (Below.grown (Below.refl wr.heap.size wr) hgrow (Nat.le_refl _) (fun j hj => by cases hj))); clear hown hgrow)
          obtain ⟨wo, hwo⟩ : ∃ wo : World, wo = wr := ⟨_, rfl⟩
          subst hwo
          obtain ⟨g2, hg2⟩ : ∃ g2, g2 = wo.heap.size := ⟨_, rfl⟩
          rw [← hg2] at HM hglt ⊢
          clear hg2
          go_loopw [13] (fun i wr => ∃ j : Nat, j ≤ M ∧ i = .int .i64 j ∧ Hid (Bools wr g2 (M + 1) (stpj (stD p n S) (fun j => mtD p n S mm nm j t) (run M (stD p n S) (mtD p n S mm nm) t) j)) ∧ Hid (Below g2 wo wr)) (fun i _ => M - (intOf i).toNat)
          case atStart => exact ⟨0, Nat.zero_le _, rfl, (unhide HM).1.congr (fun j _ => stpj_zero j), (unhide HM).2⟩
          case round =>
            clear HM
            obtain ⟨j, hj, rfl, HY, HV⟩ := hrel
            have HBW := hide ((unhide HW).trans ((unhide HV).mono (Nat.le_trans (unhide HG) (Nat.le_of_lt (unhide hglt)))))
            have hA := unhide HRA wr (unhide HBW)
            by_cases hjm : j < M
            · have hpt := (unhide HP).part j hjm
              have hzt := unhide HZ t hlt
              have hg2w : g2 < wr.heap.size := (unhide HY).lt
              have hBw : B ≤ wr.heap.size := Nat.le_trans (unhide HBB) (Nat.le_trans (Nat.le_of_lt (unhide HB2)) (Nat.le_trans (unhide HG) (Nat.le_trans (Nat.le_of_lt (unhide hglt)) (Nat.le_of_lt hg2w))))
              have HSA := hide (segAccepts22 p n (unhide HPg) ao c (S j) (mm j) (nm t) wr.drew hBw hA.1.1.1.drew hpt.seg hzt)
              have HMT : Hid (segAcc p n (S j) (mm j) (nm t) = mtD p n S mm nm j t) := rfl
              rw [unhide HMT] at HSA
              rcases hA.1.2.1 with h0 | ⟨b, off, rfl, _, hc⟩
              · omega
              rcases hA.1.2.2 with h0 | ⟨b2, off2, rfl, _, hc2⟩
              · omega
              rcases hA.1.1.2 with h0 | ⟨b3, off3, rfl, _, hc3⟩
              · omega
              have c3 : wr.cell? ⟨b, off + j, none⟩ = some (.int .i64 (S j : Int)) := hc j hjm
              have c4 : wr.cell? ⟨b2, off2 + j, none⟩ = some (.int .i64 (it p n (S j) (mm j) : Int)) := hc2 j hjm
              have c5 : wr.cell? ⟨b3, off3 + t, none⟩ = some (.string (nm t)) := hc3 t hlt
              have c6 := hA.2.cell j hjm
              have c1 := ((unhide HX).below (unhide HV) (unhide hglt)).cell j (by omega)
              have c2 := (unhide HY).cell j (by omega)
              have f2 := (unhide HY).frozen j
              have hg2' := hide hg2w
              clear hc hc2 hc3 hA hpt hBw hg2w
              generalize it p n (S j) (mm j) = y at *
              cases h1 : run M (stD p n S) (mtD p n S mm nm) t j
              · rw [h1] at c1
                have HN := hide ((unhide HY).congr (fun i _ => stpj_same (.inl h1) i))
                clear h1 HY HSA
                go_wp2
                go_roundw
                case rel => exact ⟨j + 1, hjm, by go_num, HN, HV⟩
                case measure => simp [intOf]; omega
              · rw [h1] at c1
                cases h2 : stD p n S j
                · rw [h2] at c6
                  cases h4 : mtD p n S mm nm j t
                  · rw [h4] at HSA
                    have HN := hide ((unhide HY).congr (fun i _ => stpj_same (mt := fun j => mtD p n S mm nm j t) (.inr ⟨h2, h4⟩) i))
                    clear h1 h2 h4 HY
                    go_wp2
                    go_region_with (go_at_call 22; refine (unhide HSA).mono ?_; rintro e w6 ⟨rfl, hb6⟩)
                    all_goals (
                      have HN2 := hide (((unhide HN).drew).below hb6 (unhide hg2'))
                      have HV2 := hide ((unhide HV).drew.trans (hb6.mono (Nat.le_of_lt (unhide hg2'))))
                      clear hb6
                      go_wp2
                      go_roundw
                      case rel => exact ⟨j + 1, hjm, by go_num, HN2, HV2⟩
                      case measure => (simp [intOf]; omega))
                  · rw [h4] at HSA
                    have HO := hide (fun i => stpj_one (mt := fun j => mtD p n S mm nm j t) h1 h2 h4 i)
                    clear h1 h2 h4
                    go_wp2
                    go_region_with (go_at_call 22; refine (unhide HSA).mono ?_; rintro e w6 ⟨rfl, hb6⟩)
                    all_goals (
                      have HY6 := hide (((unhide HY).drew).below hb6 (unhide hg2'))
                      have HV6 := hide ((unhide HV).drew.trans (hb6.mono (Nat.le_of_lt (unhide hg2'))))
                      have HN2 := hide (((unhide HY6).set (j + 1) true).congr (fun i _ => unhide HO i))
                      have HV2 := hide ((unhide HV6).setCell (p := ⟨g2, j + 1, none⟩) (Nat.le_refl _) (.bool true))
                      have c9 := (unhide HY6).cell (j + 1) (by omega)
                      have f9 := (unhide HY6).frozen (j + 1)
                      clear hb6 HY6 HV6
                      go_wp2
                      go_roundw
                      case rel => exact ⟨j + 1, hjm, by go_num, HN2, HV2⟩
                      case measure => (simp [intOf]; omega))
                · rw [h2] at c6
                  have HN := hide (((unhide HY).set j true).congr (fun i _ => stpj_star h1 h2 i))
                  have HV2 := hide ((unhide HV).setCell (p := ⟨g2, j, none⟩) (Nat.le_refl _) (.bool true))
                  clear h1 h2 HY HSA
                  go_wp2
                  go_roundw
                  case rel => exact ⟨j + 1, hjm, by go_num, HN, HV2⟩
                  case measure => simp [intOf]; omega
            · have hjm2 : j = M := by omega
              subst hjm2
              have hB2g : B2 ≤ g2 := Nat.le_trans (unhide HG) (Nat.le_of_lt (unhide hglt))
              have HCl := hide (closeDeep29 (stD p n S) (stp j (stD p n S) (fun i => mtD p n S mm nm i t) (run j (stD p n S) (mtD p n S mm nm) t)) j g2 (some ⟨g0, 0, none⟩) j wr (by omega) (hA.2.row (Nat.lt_of_lt_of_le (unhide HB2) hB2g)) ((unhide HY).congr (fun i hi => stpj_full i hi)))
              clear hA HY
              have hgB : Hid (B2 ≤ g2) := hB2g
              clear hB2g
              go_wp2_with fail
              refine (unhide HCl).mono ?_
              rintro e w7 ⟨rfl, hbo, hb7⟩
              have H7 : Hid (Bools w7 g2 (j + 1) (run j (stD p n S) (mtD p n S mm nm) (t + 1))) := hbo
              have HW7 := hide ((unhide HW).trans (((unhide HV).trans hb7).mono (unhide hgB)))
              clear hbo hb7 HCl
              go_wp2
              go_roundw
              case rel => exact ⟨g2, t + 1, hlt, rfl, by go_num, H7, hgB, HW7⟩
              case measure => simp [intOf]; omega
        · have htx : t = K := by omega
          have hcell : wr.cell? ⟨g, M, none⟩ = some (.bool (pathAcc p n M S mm nm K)) := by
            rw [(unhide HX).cell M (by omega), htx]
            rfl
          have HE := hide (unhide HWB wr (unhide HW))
          clear htx HX
          go_wp2
          go_ret
          exact ⟨rfl, unhide HE⟩

end Go.Proofs.Qxb6602165a
