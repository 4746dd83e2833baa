/-
  WALK of the seat b6602165a: segAccepts (22): the set simulation over one segment.
-/
import Derived.Test.Qxb6602165aClose
namespace Go.Proofs.Qxb6602165a
open Go.RowKit Plain

/-- One step of the simulation, done for the places below j. -/
def stpj (st mt v : Nat → Bool) (j : Nat) : Nat → Bool
  | 0 => decide (0 < j) && v 0 && st 0
  | i + 1 => (decide (i + 1 < j) && v (i + 1) && st (i + 1)) || (decide (i < j) && v i && !st i && mt i)

theorem dlt (a j : Nat) : decide (a < j + 1) = (decide (a < j) || decide (a = j)) := by
  rw [Bool.eq_iff_iff]
  simp only [Bool.or_eq_true, decide_eq_true_eq]
  omega

section
variable {st mt v : Nat → Bool} {j : Nat}
theorem stpj_same (h : v j = false ∨ (st j = false ∧ mt j = false)) (i : Nat) : stpj st mt v j i = stpj st mt v (j + 1) i := by
  cases i with
  | zero =>
    simp only [stpj, dlt]
    by_cases e : 0 = j
    · subst e; rcases h with h | ⟨h, h'⟩ <;> simp [h]
    · simp [e]
  | succ i =>
    simp only [stpj, dlt]
    by_cases e : i + 1 = j
    · have e2 : i ≠ j := by omega
      subst e; rcases h with h | ⟨h, h'⟩ <;> simp [h]
    · by_cases e2 : i = j
      · subst e2; rcases h with h | ⟨h, h'⟩ <;> simp [*]
      · simp [e, e2]
theorem stpj_star (h1 : v j = true) (h2 : st j = true) (i : Nat) : (if i = j then true else stpj st mt v j i) = stpj st mt v (j + 1) i := by
  cases i with
  | zero =>
    simp only [stpj, dlt]
    by_cases e : 0 = j
    · subst e; simp [h1, h2]
    · simp [e]
  | succ i =>
    simp only [stpj, dlt]
    by_cases e : i + 1 = j
    · have e2 : i ≠ j := by omega
      subst e; simp [h1, h2]
    · by_cases e2 : i = j
      · subst e2; simp [h2]
      · simp [e, e2]
theorem stpj_one (h1 : v j = true) (h2 : st j = false) (h3 : mt j = true) (i : Nat) : (if i = j + 1 then true else stpj st mt v j i) = stpj st mt v (j + 1) i := by
  cases i with
  | zero =>
    simp only [stpj, dlt]
    by_cases e : 0 = j
    · subst e; simp [h2]
    · simp [e]
  | succ i =>
    simp only [stpj, dlt]
    by_cases e : i + 1 = j
    · have e2 : i ≠ j := by omega
      have e3 : ¬ (i + 1 = j + 1) := by omega
      subst e; simp [h2]
    · by_cases e2 : i = j
      · subst e2; simp [h1, h2, h3]
      · simp [e, e2]
theorem stpj_zero (i : Nat) : false = stpj st mt v 0 i := by
  cases i <;> simp [stpj]
theorem stpj_full {m : Nat} (i : Nat) (hi : i < m + 1) : stpj st mt v m i = stp m st mt v i := by
  cases i with
  | zero => rfl
  | succ i =>
    have : i < m := by omega
    simp [stpj, stp, this]
end

set_option maxHeartbeats 16000000 in
theorem segAccepts22 (p : Nat → Nat) (n : Nat) (hp : Prg p n) {B : Nat} (ao : Option Addr) (c s m : Nat) (x : ByteArray) (w : World) (hB : B ≤ w.heap.size) (hr : Row B w ao n (pv p)) (hs : Seg p n s m) (hx : x.size ≤ 1048576) :
    Calls Try.prog 22 #[.slice ao n c, .int .i64 s, .int .i64 (it p n s m : Int), .string x] w fun e w' => e = .returned (.bool (segAcc p n s m x)) ∧ Below w.heap.size w w' := by
  have hn := hp.len
  obtain ⟨i0, hi, hz0, hz1, hz2⟩ := info_parts Try.info4
  have HI := hide (And.intro hi (And.intro hz0 (And.intro hz1 hz2)))
  have HEl := hide (elemStarts24 p n hp ao c s m w hB hr hs)
  have HRB := hide (fun W (hW : Below w.heap.size w W) => hr.below (hW.mono hB))
  have HS := hide hs
  have HPg := hide hp
  have hmn : m ≤ n := by
    have := it_ge (p := p) (n := n) s m
    have := hs.le m (Nat.le_refl _)
    omega
  clear hi hz0 hz1 hz2 hs hr hp
  generalize it p n s m = e0 at *
  go_enter Try.func22, Try.ntmps22
  go_wp2_with fail
  refine (unhide HEl).mono ?_
  rintro e w1 ⟨ao', c', rfl, hrow, hb1⟩
  have HRow := hide hrow
  have HB1 := hide hb1
  clear hrow hb1 HEl
  have hz1 : w.heap.size ≤ w1.heap.size := (unhide HB1).size
  go_wp2_with (at_make; refine wpList_make_full _ rfl _ _ 42 rfl w1.heap.size 4 i0 _ 1 Try.underlying42 (unhide HI).1 (unhide HI).2.1 (unhide HI).2.2.1 _ _ _ _ (m + 1) rfl rfl (by simp) (by simp) (by rw [(unhide HI).2.2.2]; omega) (by unfold maxLen; omega) (Nat.le_refl _) ?_; intro w2 hown hgrow; have HM := hide (And.intro (bools_made hown) (Below.grown (Below.refl w1.heap.size w1) hgrow (Nat.le_refl _) (fun j hj => by cases hj))); clear hown hgrow; have c0 := (unhide HM).1.cell 0 (by omega); have f0 := (unhide HM).1.frozen 0)
  have hst0 : Bools (w2.setCell ⟨w1.heap.size, 0, none⟩ (.bool true)) w1.heap.size (m + 1) (fun j => j == 0) := ((unhide HM).1.set 0 true).congr (fun j _ => by by_cases e : j = 0 <;> simp [e])
  have hbl0 : Below w1.heap.size w1 (w2.setCell ⟨w1.heap.size, 0, none⟩ (.bool true)) := (unhide HM).2.setCell (p := ⟨w1.heap.size, 0, none⟩) (Nat.le_refl _) (.bool true)
  have HCl := hide (closeStars32 p n (unhide HPg) s m (fun j => j == 0) w1.heap.size ao ao' c c' _ (unhide HS) (((unhide HRB _ ((unhide HB1).trans (hbl0.mono hz1))).mono (by omega))) ((unhide HRow).below hbl0) hst0)
  have HBl0 := hide hbl0
  clear hst0 hbl0 HM c0 f0
  refine (unhide HCl).mono ?_
  rintro e w3 ⟨rfl, hbo, hb3⟩
  have H3 : Hid (Bools w3 w1.heap.size (m + 1) (run m (stB p n s) (mtB p n s x) 0)) := hbo
  have HB3 := hide ((unhide HBl0).trans hb3)
  clear hbo hb3 HCl HBl0
  obtain ⟨B1, hB1⟩ : ∃ B1, B1 = w1.heap.size := ⟨_, rfl⟩
  rw [← hB1] at HRow H3 HB3 hz1
  have HRA := hide (fun W (hW : Below B1 w1 W) => And.intro (unhide HRB W ((unhide HB1).trans (hW.mono hz1))) ((unhide HRow).below hW))
  have HWA := hide (fun W (hW : Below B1 w1 W) => (unhide HB1).trans (hW.mono hz1))
  have HBB : Hid (B ≤ B1) := Nat.le_trans hB hz1
  rw [← hB1]
  clear HRow HRB HB1 hB1 hB hz1
  go_wp2
  go_loopw [11, 12] (fun v i wr => ∃ g t : Nat, t ≤ x.size ∧ v = .slice (some ⟨g, 0, none⟩) (m + 1) (m + 1) ∧ i = .int .i64 t ∧ Hid (Bools wr g (m + 1) (run m (stB p n s) (mtB p n s x) t)) ∧ Hid (B1 ≤ g) ∧ Hid (Below B1 w1 wr)) (fun _ i _ => x.size - (intOf i).toNat)
  case atStart => exact ⟨B1, 0, Nat.zero_le _, rfl, rfl, H3, Nat.le_refl _, HB3⟩
  case round =>
    clear H3 HB3
    obtain ⟨g, t, ht, rfl, rfl, HX, HG, HW⟩ := hrel
    have hglt : Hid (g < wr.heap.size) := (unhide HX).lt
    by_cases hlt : t < x.size
    · have HbT := hide (bt_eq hlt)
      go_wp2_with (at_make; refine wpList_make_full _ rfl _ _ 42 rfl wr.heap.size 4 i0 _ 1 Try.underlying42 (unhide HI).1 (unhide HI).2.1 (unhide HI).2.2.1 _ _ _ _ (m + 1) rfl rfl (by simp) (by simp) (by rw [(unhide HI).2.2.2]; omega) (by unfold maxLen; omega) (Nat.le_refl _) ?_; intro w2 hown hgrow; have HM := hide (And.intro (bools_made hown) (Below.grown (Below.refl wr.heap.size wr) hgrow (Nat.le_refl _) (fun j hj => by cases hj))); clear hown hgrow)
      obtain ⟨wo, hwo⟩ : ∃ wo : World, wo = wr := ⟨_, rfl⟩
      subst hwo
      obtain ⟨g2, hg2⟩ : ∃ g2, g2 = wo.heap.size := ⟨_, rfl⟩
      rw [← hg2] at HM hglt ⊢
      clear hg2
      go_loopw [15] (fun i wr => ∃ j : Nat, j ≤ m ∧ i = .int .i64 j ∧ Hid (Bools wr g2 (m + 1) (stpj (stB p n s) (fun j => mtB p n s x j t) (run m (stB p n s) (mtB p n s x) t) j)) ∧ Hid (Below g2 wo wr)) (fun i _ => m - (intOf i).toNat)
      case atStart => exact ⟨0, Nat.zero_le _, rfl, (unhide HM).1.congr (fun j _ => stpj_zero j), (unhide HM).2⟩
      case round =>
        clear HM
        obtain ⟨j, hj, rfl, HY, HV⟩ := hrel
        have hA := unhide HRA wr ((unhide HW).trans ((unhide HV).mono (Nat.le_trans (unhide HG) (Nat.le_of_lt (unhide hglt)))))
        by_cases hjm : j < m
        · have hkn := (unhide HS).lt j hjm
          have hok := (unhide HS).ok j hjm
          have HBy := hide (byteElem33 p n (unhide HPg) ao c (it p n s j) (x[t]'hlt).toNat _ wr hA.1 hkn hok)
          rcases hA.1 with h0 | ⟨b, off, rfl, _, hc⟩
          · omega
          rcases hA.2 with h0 | ⟨b2, off2, rfl, _, hc2⟩
          · omega
          have c3 : wr.cell? ⟨b2, off2 + j, none⟩ = some (.int .i64 (it p n s j : Int)) := hc2 j hjm
          have c0 : wr.cell? ⟨b, off + it p n s j, none⟩ = some (.int .u8 (p (it p n s j) : Int)) := hc _ hkn
          have c1 := ((unhide HX).below (unhide HV) (unhide hglt)).cell j (by omega)
          have c2 := (unhide HY).cell j (by omega)
          have f2 := (unhide HY).frozen j
          have c4 := (unhide HY).cell (j + 1) (by omega)
          have f4 := (unhide HY).frozen (j + 1)
          have HST : Hid (stB p n s j = decide (p (it p n s j) = 42)) := rfl
          have HMT : Hid (mtB p n s x j t = bem p (it p n s j) (x[t]'hlt).toNat) := by unfold Hid mtB; rw [unhide HbT]
          clear hc hc2 hA hok
          generalize it p n s j = k at *
          cases h1 : run m (stB p n s) (mtB p n s x) t j
          · rw [h1] at c1
            have HN := hide ((unhide HY).congr (fun i _ => stpj_same (.inl h1) i))
            clear h1 HY
            go_wp2
            go_roundw
            case rel => exact ⟨j + 1, hjm, by go_num, HN, HV⟩
            case measure => simp [intOf]; omega
          · rw [h1] at c1
            by_cases e : p k = 42
            · have b1 : ((p k : Int) == 42) = true := beq_yes (b := 42) e
              have h2 : stB p n s j = true := by rw [unhide HST]; exact decide_eq_true e
              have HN := hide (((unhide HY).set j true).congr (fun i _ => stpj_star h1 h2 i))
              have HV2 := hide ((unhide HV).setCell (p := ⟨g2, j, none⟩) (Nat.le_refl _) (.bool true))
              clear h1 h2 e HY
              go_wp2
              go_roundw
              case rel => exact ⟨j + 1, hjm, by go_num, HN, HV2⟩
              case measure => simp [intOf]; omega
            · have b1 : ((p k : Int) == 42) = false := beq_no (b := 42) e
              have h2 : stB p n s j = false := by rw [unhide HST]; exact decide_eq_false e
              cases h3 : bem p k (x[t]'hlt).toNat
              · rw [h3] at HBy
                have h4 : mtB p n s x j t = false := (unhide HMT).trans h3
                have HN := hide ((unhide HY).congr (fun i _ => stpj_same (.inr ⟨h2, h4⟩) i))
                clear h1 h2 h3 h4 e HY
                go_wp2_with fail
                refine (unhide HBy).mono ?_
                rintro e w5 ⟨rfl, rfl⟩
                go_wp2
                go_roundw
                case rel => exact ⟨j + 1, hjm, by go_num, HN, HV⟩
                case measure => simp [intOf]; omega
              · rw [h3] at HBy
                have h4 : mtB p n s x j t = true := (unhide HMT).trans h3
                have HN := hide (((unhide HY).set (j + 1) true).congr (fun i _ => stpj_one (mt := fun j => mtB p n s x j t) h1 h2 h4 i))
                have HV2 := hide ((unhide HV).setCell (p := ⟨g2, j + 1, none⟩) (Nat.le_refl _) (.bool true))
                clear h1 h2 h3 h4 e HY
                go_wp2_with fail
                refine (unhide HBy).mono ?_
                rintro e w5 ⟨rfl, rfl⟩
                go_wp2
                go_roundw
                case rel => exact ⟨j + 1, hjm, by go_num, HN, HV2⟩
                case measure => simp [intOf]; omega
        · have hjm2 : j = m := by omega
          subst hjm2
          have hB1g : B1 ≤ g2 := Nat.le_trans (unhide HG) (Nat.le_of_lt (unhide hglt))
          have HCl := hide (closeStars32 p n (unhide HPg) s j (stp j (stB p n s) (fun i => mtB p n s x i t) (run j (stB p n s) (mtB p n s x) t)) g2 ao ao' c c' wr (unhide HS) (hA.1.mono (Nat.le_trans (unhide HBB) hB1g)) (hA.2.mono hB1g) ((unhide HY).congr (fun i hi => stpj_full i hi)))
          clear hA HY
          have hgB : Hid (B1 ≤ g2) := hB1g
          clear hB1g
          go_wp2_with fail
          refine (unhide HCl).mono ?_
          rintro e w5 ⟨rfl, hbo, hb5⟩
          have H5 : Hid (Bools w5 g2 (j + 1) (run j (stB p n s) (mtB p n s x) (t + 1))) := hbo
          have HW5 := hide ((unhide HW).trans (((unhide HV).trans hb5).mono (unhide hgB)))
          clear hbo hb5 HCl
          go_wp2
          go_roundw
          case rel => exact ⟨g2, t + 1, hlt, rfl, by go_num, H5, hgB, HW5⟩
          case measure => simp [intOf]; omega
    · have htx : t = x.size := by omega
      have hcell : wr.cell? ⟨g, m, none⟩ = some (.bool (segAcc p n s m x)) := by
        rw [(unhide HX).cell m (by omega), htx]
        rfl
      have HE := hide (unhide HWA wr (unhide HW))
      clear htx HX
      go_wp2
      go_ret
      exact ⟨rfl, unhide HE⟩

end Go.Proofs.Qxb6602165a
