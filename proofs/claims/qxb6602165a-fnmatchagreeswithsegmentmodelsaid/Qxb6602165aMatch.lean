/-
  WALK of the seat b6602165a: Match (13): the greedy search over the segments.
-/
import Derived.Test.Qxb6602165aName
namespace Go.Proofs.Qxb6602165a
open Go.RowKit Plain

section
variable {p : Nat → Nat} {n : Nat}

theorem part_deep {s m : Nat} (h : Part (p := p) (n := n) s m) (hd : deepB p n s = true) : m = 2 ∧ it p n s m = s + 2 := by
  obtain ⟨h1, h2, h3⟩ := of_decide_eq_true hd
  have i1 : it p n s 1 = s + 1 := it_star (p := p) (n := n) (s := s) (j := 0) h2
  have hm0 : m ≠ 0 := by
    intro e
    have := h.seg.fin
    rw [e] at this
    have e0 : it p n s 0 = s := rfl
    rw [e0] at this
    omega
  have hm1 : m ≠ 1 := by
    intro e
    have := h.seg.fin
    rw [e, i1] at this
    omega
  obtain ⟨_, hm⟩ := h.adj 0 (by omega) h2 (by show p (it p n s 1) = 42; rw [i1]; exact h3)
  refine ⟨hm, ?_⟩
  rw [hm]
  have := it_star (p := p) (n := n) (s := s) (j := 1) (by rw [i1]; exact h3)
  rw [this, i1]

theorem part_deepSeg {s m : Nat} (h : Part (p := p) (n := n) s m) : deepSegB p s (it p n s m) = deepB p n s := by
  rw [Bool.eq_iff_iff]
  constructor
  · intro hd
    obtain ⟨h1, h2, h3⟩ := of_decide_eq_true hd
    have := h.seg.le m (Nat.le_refl _)
    exact decide_eq_true ⟨by omega, h2, h3⟩
  · intro hd
    obtain ⟨h1, h2, h3⟩ := of_decide_eq_true hd
    exact decide_eq_true ⟨(part_deep h hd).2, h2, h3⟩

theorem part_na {s m : Nat} (h : Part (p := p) (n := n) s m) (hd : deepB p n s = false) : ∀ j, j + 1 < m → p (it p n s j) = 42 → p (it p n s (j + 1)) ≠ 42 := by
  intro j hj h1 h2
  obtain ⟨rfl, hm⟩ := h.adj j hj h1 h2
  have i1 : it p n s 1 = s + 1 := it_star (p := p) (n := n) (s := s) (j := 0) h1
  have hl := h.seg.lt 1 (by omega)
  rw [i1] at hl
  have h2' : p (it p n s 1) = 42 := h2
  rw [i1] at h2'
  have : deepB p n s = true := decide_eq_true ⟨hl, h1, h2'⟩
  rw [hd] at this
  cases this
end

def stD (p : Nat → Nat) (n : Nat) (S : Nat → Nat) (i : Nat) : Bool := deepB p n (S i)
def mtD (p : Nat → Nat) (n : Nat) (S mm : Nat → Nat) (nm : Nat → ByteArray) (i k : Nat) : Bool := segAcc p n (S i) (mm i) (nm k)
/-- What the set simulation over the segments answers. -/
def pathAcc (p : Nat → Nat) (n M : Nat) (S mm : Nat → Nat) (nm : Nat → ByteArray) (K : Nat) : Bool := run M (stD p n S) (mtD p n S mm nm) K M

abbrev InvD (p : Nat → Nat) (n M : Nat) (S mm : Nat → Nat) (nm : Nat → ByteArray) (K i t : Nat) (sp : Option (Nat × Nat)) : Prop := Inv M K (stD p n S) (mtD p n S mm nm) i t sp
abbrev AccD (p : Nat → Nat) (n M : Nat) (S mm : Nat → Nat) (nm : Nat → ByteArray) (K i t : Nat) : Prop := Acc M K (stD p n S) (mtD p n S mm nm) i t

section
variable {p : Nat → Nat} {n M : Nat} {S mm : Nat → Nat} {nm : Nat → ByteArray} {K : Nat} {q3 q4 : Int} {j t k : Nat}

theorem pathAcc_iff : pathAcc p n M S mm nm K = true ↔ AccD p n M S mm nm K 0 0 := run_iff

def SD (p : Nat → Nat) (n M : Nat) (S mm : Nat → Nat) (nm : Nat → ByteArray) (K : Nat) (q3 q4 : Int) (j t : Nat) : Prop :=
  (q3 = -1 ∧ q4 = 0 ∧ InvD p n M S mm nm K j t none) ∨
  ∃ a sb k2 : Nat, q3 = (k2 : Int) ∧ q4 = (sb : Int) ∧ k2 = S (a + 1) ∧ k2 ≤ n + 1 ∧ sb ≤ t ∧ a + 1 ≤ M ∧ InvD p n M S mm nm K j t (some (a, sb))

theorem sd_start : SD p n M S mm nm K (-1) 0 0 0 := .inl ⟨rfl, rfl, inv_start⟩

theorem sd_q (h : SD p n M S mm nm K q3 q4 j t) : (q3 = -1 ∧ q4 = 0) ∨ (0 ≤ q3 ∧ q3 ≤ n + 1 ∧ 0 ≤ q4 ∧ q4 ≤ t) := by
  rcases h with ⟨h1, h2, _⟩ | ⟨a, sb, k2, h1, h2, _, _, h3, _⟩
  · exact .inl ⟨h1, h2⟩
  · exact .inr ⟨by omega, by omega, by omega, by omega⟩

theorem sd_deep (hP : Path (p := p) (n := n) 0 M S mm) (h : SD p n M S mm nm K q3 q4 j t) (hj : j < M) (hk : k = S j) (hd : deepB p n k = true) :
    SD p n M S mm nm K ((k : Int) + 3) t (j + 1) t ∧ k + 3 = S (j + 1) ∧ k + 3 ≤ n + 1 := by
  subst hk
  have e := (part_deep (hP.part j hj) hd).2
  have e2 := hP.next j hj
  have hle := (hP.part j hj).seg.le _ (Nat.le_refl (mm j))
  have hst : stD p n S j = true := hd
  have e3 : S j + 3 = S (j + 1) := by omega
  refine ⟨.inr ⟨j, t, S (j + 1), by rw [← e3]; simp, rfl, rfl, by omega, Nat.le_refl _, hj, ?_⟩, e3, by omega⟩
  rcases h with ⟨_, _, h⟩ | ⟨a, sb, k2, _, _, _, _, _, _, h⟩
  · exact inv_star h hj hst
  · exact inv_star h hj hst

theorem sd_one (h : SD p n M S mm nm K q3 q4 j t) (hj : j < M) (hk : k = S j) (hd : deepB p n k = false) (ht : t < K) (hb : segAcc p n k (mm j) (nm t) = true) :
    SD p n M S mm nm K q3 q4 (j + 1) (t + 1) := by
  subst hk
  have hst : stD p n S j = false := hd
  rcases h with ⟨h1, h2, h⟩ | ⟨a, sb, k2, h1, h2, h3, h4, h5, h6, h⟩
  · exact .inl ⟨h1, h2, inv_one h hj hst ht hb⟩
  · exact .inr ⟨a, sb, k2, h1, h2, h3, h4, by omega, h6, inv_one h hj hst ht hb⟩

theorem sd_fail (h : SD p n M S mm nm K q3 q4 j t) (ht : t < K) (hn : ¬ AccD p n M S mm nm K j t) :
    (q3 = -1 ∧ pathAcc p n M S mm nm K = false) ∨
    ∃ a sb k2 : Nat, q3 = (k2 : Int) ∧ q4 = (sb : Int) ∧ k2 = S (a + 1) ∧ k2 ≤ n + 1 ∧ sb ≤ t ∧ a + 1 ≤ M ∧ SD p n M S mm nm K (k2 : Int) ((sb : Int) + 1) (a + 1) (sb + 1) := by
  rcases h with ⟨h1, h2, h⟩ | ⟨a, sb, k2, h1, h2, h3, h4, h5, h6, h⟩
  · refine .inl ⟨h1, ?_⟩
    rw [← Bool.not_eq_true, pathAcc_iff]
    exact fun ha => hn (Iff.mp h ha)
  · exact .inr ⟨a, sb, k2, h1, h2, h3, h4, h5, h6, .inr ⟨a, sb + 1, k2, rfl, by simp, h3, h4, Nat.le_refl _, h6, inv_back h hn ht⟩⟩

theorem sd_end (h : SD p n M S mm nm K q3 q4 j K) (hj : j ≤ M) : pathAcc p n M S mm nm K = true ↔ ∀ i, j ≤ i → i < M → deepB p n (S i) = true := by
  rw [pathAcc_iff]
  have h1 : AccD p n M S mm nm K 0 0 ↔ AccD p n M S mm nm K j K := by
    rcases h with ⟨_, _, h⟩ | ⟨a, sb, k2, _, _, _, _, _, _, h⟩
    · exact inv_end hj h
    · exact inv_end hj h
  rw [h1]
  exact acc_end hj

theorem not_oneD (hk : k = S j) (hd : deepB p n k = false) (ht : t < K) (hb : segAcc p n k (mm j) (nm t) = false) : ¬ AccD p n M S mm nm K j t := by
  subst hk
  exact acc_not_one hd ht hb
end

set_option maxHeartbeats 8000000 in
theorem match13 (p : Nat → Nat) (n : Nat) (hp : Prg p n) {B : Nat} (ao ao2 : Option Addr) (c c2 M : Nat) (S mm : Nat → Nat) (nm : Nat → ByteArray) (K : Nat) (w : World) (hB : B ≤ w.heap.size) (hr : Row B w ao n (pv p)) (hr2 : Row B w ao2 K (nv nm)) (hP : Path (p := p) (n := n) 0 M S mm)
    (hK : K ≤ 4096) (hz : ∀ k, k < K → (nm k).size ≤ 1048576 ∧ NoSlash (nm k)) :
    Calls Try.prog 13 #[.slice ao n c, .slice ao2 K c2] w fun e w' => e = .returned (.bool (pathAcc p n M S mm nm K)) ∧ Below w.heap.size w w' := by
  have hn := hp.len
  have HD := hide (fun W (hW : Below w.heap.size w W) k => isDeep27 p n hp ao c k W (hr.below (hW.mono hB)))
  have HM := hide (fun W (hW : Below w.heap.size w W) s m x => matchName28 p n hp ao c s m x W (hr.below (hW.mono hB)))
  have HR2 := hide (fun W (hW : Below w.heap.size w W) => hr2.below (hW.mono hB))
  have HP := hide hP
  have HZ := hide hz
  clear hr hr2 hp hP hz
  go_enter Try.func13, Try.ntmps13
  go_wp2
  go_loopw [5, 6, 7, 8] (fun z1 z2 z3 z4 wr => ∃ (j t k : Nat) (q3 q4 : Int), j ≤ M ∧ t ≤ K ∧ k ≤ n + 1 ∧ z1 = .int .i64 k ∧ z2 = .int .i64 t ∧ z3 = .int .i64 q3 ∧ z4 = .int .i64 q4 ∧ Hid (k = S j) ∧ Hid (SD p n M S mm nm K q3 q4 j t) ∧ Hid (Below w.heap.size w wr)) (fun z1 _ z3 z4 _ => meas K (n + 1) (intOf z1) (intOf z3) (intOf z4))
  case atStart => exact ⟨0, 0, 0, -1, 0, Nat.zero_le _, Nat.zero_le _, Nat.zero_le _, rfl, rfl, rfl, rfl, (unhide HP).zero.symm, sd_start, Below.refl _ _⟩
  case round =>
    obtain ⟨j, t, k, q3, q4, hj, ht, hk, rfl, rfl, rfl, rfl, HK, HSP, HW⟩ := hrel
    have hq := sd_q (unhide HSP)
    have hq1 : -1 ≤ q3 := by omega
    have hq2 : q3 ≤ n + 1 := by omega
    have hq3 : 0 ≤ q4 := by omega
    have hq4 : q4 ≤ 4096 := by omega
    have HQ : Hid ((q3 = -1 ∧ q4 = 0) ∨ (0 ≤ q3 ∧ 0 ≤ q4 ∧ q4 ≤ (t : Int))) := by unfold Hid; omega
    clear hq
    have hwz : w.heap.size ≤ wr.heap.size := (unhide HW).size
    by_cases hlt : t < K
    · by_cases hjm : j < M
      · have h1 : k ≤ n := by rw [unhide HK]; exact (unhide HP).le j hjm
        have HD1 := hide (unhide HD wr (unhide HW) k h1)
        cases hd : deepB p n k
        · rw [hd] at HD1
          have hpart := (unhide HP).part j hjm
          have hnx := (unhide HP).next j hjm
          rw [← unhide HK] at hpart hnx
          obtain ⟨hz1, hz2⟩ := unhide HZ t hlt
          have HM1 := hide (unhide HM wr (unhide HW) k (mm j) (nm t) hpart.seg (part_na hpart hd) hz1 hz2)
          have hle := hpart.seg.le _ (Nat.le_refl (mm j))
          have hgt := it_ge (p := p) (n := n) k (mm j)
          have HNX := hide hnx
          rcases unhide HR2 wr (unhide HW) with h0 | ⟨b, off, rfl, _, hc⟩
          · omega
          have c0 : wr.cell? ⟨b, off + t, none⟩ = some (.string (nm t)) := hc t hlt
          clear hpart hnx hz2 hc
          cases hsa : segAcc p n k (mm j) (nm t)
          · rw [hsa] at HM1
            have HNo := hide (not_oneD (M := M) (unhide HK) hd hlt hsa)
            have HFail := hide (sd_fail (unhide HSP) hlt (unhide HNo))
            clear hsa hd hle hgt HNX
            rcases unhide HFail with ⟨rfl, HF⟩ | ⟨a, sb, k2, rfl, rfl, hk2, hk2n, hsb, ham, HSP2⟩
            · have HF2 := hide HF
              clear HF HFail HSP HNo
              go_wp2_with fail
              refine (unhide HD1).mono ?_
              rintro e w1 ⟨rfl, rfl⟩
              go_wp2_with fail
              refine (unhide HM1).mono ?_
              rintro e w1 ⟨y, rfl, -, hb⟩
              have H1 := hide ((unhide HW).trans (hb.mono hwz))
              clear hb
              go_wp2
              go_ret
              exact ⟨ret_bool (unhide HF2).symm, unhide H1⟩
            · have HK2 := hide hk2
              have HS2 := hide HSP2
              have hm1 : sb < K := by omega
              clear HFail HSP HNo hk2 HSP2
              go_wp2_with fail
              refine (unhide HD1).mono ?_
              rintro e w1 ⟨rfl, rfl⟩
              go_wp2_with fail
              refine (unhide HM1).mono ?_
              rintro e w1 ⟨y, rfl, -, hb⟩
              have H1 := hide ((unhide HW).trans (hb.mono hwz))
              clear hb
              go_wp2
              go_roundw
              case rel => exact ⟨a + 1, sb + 1, k2, _, _, ham, by omega, hk2n, rfl, by go_num, rfl, rfl, HK2, HS2, H1⟩
              case measure => (simp only [intOf]; exact meas_back (by omega) hm1 (by omega) (by omega))
          · rw [hsa] at HM1
            have HO := hide (sd_one (unhide HSP) hjm (unhide HK) hd hlt hsa)
            clear hsa hd HSP
            go_wp2_with fail
            refine (unhide HD1).mono ?_
            rintro e w1 ⟨rfl, rfl⟩
            go_wp2_with fail
            refine (unhide HM1).mono ?_
            rintro e w1 ⟨y, rfl, hy, hb⟩
            have hy2 := hy (by trivial)
            have H1 := hide ((unhide HW).trans (hb.mono hwz))
            have HE : Hid (y + 1 = S (j + 1)) := by rw [hy2]; exact (unhide HNX).symm
            rw [← hy2] at hle hgt
            clear hb hy hy2 HNX
            go_wp2
            go_roundw
            case rel => exact ⟨j + 1, t + 1, y + 1, _, _, hjm, hlt, by omega, by go_num, by go_num, rfl, rfl, HE, HO, H1⟩
            case measure => (simp only [intOf]; exact meas_go (by omega) (by omega) (by omega))
        · rw [hd] at HD1
          obtain ⟨g1, g2, g3⟩ := sd_deep (unhide HP) (unhide HSP) hjm (unhide HK) hd
          have G1 := hide g1
          have G2 := hide g2
          clear hd g1 g2 HSP
          go_wp2_with fail
          refine (unhide HD1).mono ?_
          rintro e w1 ⟨rfl, rfl⟩
          go_wp2
          go_roundw
          case rel => exact ⟨j + 1, t, k + 3, _, _, hjm, ht, g3, by go_num, rfl, rfl, rfl, G2, G1, HW⟩
          case measure => (simp only [intOf]; exact meas_star (by omega) (by omega) (by omega) (by omega) (unhide HQ))
      · have hjm2 : j = M := by omega
        have HNo : Hid (¬ AccD p n M S mm nm K j t) := acc_not_end (by omega) hlt
        have HFail := hide (sd_fail (unhide HSP) hlt (unhide HNo))
        have hkn : n + 1 ≤ k := by rw [unhide HK, hjm2, (unhide HP).last]; exact Nat.le_refl _
        clear hjm2
        rcases unhide HFail with ⟨rfl, HF⟩ | ⟨a, sb, k2, rfl, rfl, hk2, hk2n, hsb, ham, HSP2⟩
        · have HF2 := hide HF
          clear HF HFail HSP HNo
          go_wp2
          go_ret
          exact ⟨ret_bool (unhide HF2).symm, unhide HW⟩
        · have HK2 := hide hk2
          have HS2 := hide HSP2
          have hm1 : sb < K := by omega
          clear HFail HSP HNo hk2 HSP2
          go_wp2
          go_roundw
          case rel => exact ⟨a + 1, sb + 1, k2, _, _, ham, by omega, hk2n, rfl, by go_num, rfl, rfl, HK2, HS2, HW⟩
          case measure => (simp only [intOf]; exact meas_back (by omega) hm1 (by omega) (by omega))
    · have htx : t = K := by omega
      have HEnd : Hid (pathAcc p n M S mm nm K = true ↔ ∀ i, j ≤ i → i < M → deepB p n (S i) = true) := by
        have := unhide HSP
        rw [htx] at this
        exact sd_end this hj
      clear HSP htx HQ
      go_wp2
      go_loop [5] (fun z1 => ∃ (i k : Nat), i ≤ M ∧ k ≤ n + 1 ∧ z1 = .int .i64 k ∧ Hid (k = S i) ∧ Hid (j ≤ i) ∧ Hid (∀ a, j ≤ a → a < i → deepB p n (S a) = true)) (fun z1 => n + 1 - (intOf z1).toNat)
      case atStart => exact ⟨j, k, hj, hk, rfl, HK, Nat.le_refl _, fun a b c => by omega⟩
      case round =>
        clear HK hk
        obtain ⟨i, k, hi, hk, rfl, HK, HJ, HA⟩ := hrel
        by_cases him : i < M
        · have h1 : k ≤ n := by rw [unhide HK]; exact (unhide HP).le i him
          have HD1 := hide (unhide HD wr (unhide HW) k h1)
          cases hd : deepB p n k
          · rw [hd] at HD1
            have HF : Hid (pathAcc p n M S mm nm K = false) := by
              unfold Hid
              rw [← Bool.not_eq_true, unhide HEnd]
              intro h
              have := h i (unhide HJ) him
              rw [← unhide HK, hd] at this
              cases this
            have b1 : ((k : Int) == (n : Int) + 1) = false := beq_eq_false_iff_ne.2 (by omega)
            clear hd
            go_wp2_with fail
            refine (unhide HD1).mono ?_
            rintro e w1 ⟨rfl, rfl⟩
            go_wp2
            go_ret
            exact ⟨ret_bool (unhide HF).symm, unhide HW⟩
          · rw [hd] at HD1
            have hpart := (unhide HP).part i him
            have hnx := (unhide HP).next i him
            rw [← unhide HK] at hpart hnx
            have e3 := (part_deep hpart hd).2
            have hle := hpart.seg.le _ (Nat.le_refl (mm i))
            have HE : Hid (k + 3 = S (i + 1)) := by unfold Hid; omega
            have hk3 : k + 3 ≤ n + 1 := by omega
            have HA2 : Hid (∀ a, j ≤ a → a < i + 1 → deepB p n (S a) = true) := by
              intro a b c
              by_cases e : a = i
              · rw [e, ← unhide HK]; exact hd
              · exact unhide HA a b (by omega)
            have HJ2 : Hid (j ≤ i + 1) := Nat.le_succ_of_le (unhide HJ)
            clear hd hpart hnx e3 hle HA HJ
            go_wp2_with fail
            refine (unhide HD1).mono ?_
            rintro e w1 ⟨rfl, rfl⟩
            go_wp2
            go_round
            case rel => exact ⟨i + 1, k + 3, him, hk3, by go_num, HE, HJ2, HA2⟩
            case measure => simp [intOf]; omega
        · have hkn : n + 1 ≤ k := by
            have e : i = M := by omega
            rw [unhide HK, e, (unhide HP).last]; exact Nat.le_refl _
          have b1 : ((k : Int) == (n : Int) + 1) = true := by rw [beq_iff_eq]; omega
          have HF : Hid (pathAcc p n M S mm nm K = true) := by
            unfold Hid
            rw [unhide HEnd]
            exact fun a b c => unhide HA a b (by omega)
          go_wp2
          go_ret
          exact ⟨ret_bool (unhide HF).symm, unhide HW⟩

end Go.Proofs.Qxb6602165a
