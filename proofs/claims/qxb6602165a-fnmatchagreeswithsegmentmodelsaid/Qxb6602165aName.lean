/-
  WALK of the seat b6602165a: matchName (28): the greedy search over one segment.
-/
import Derived.Test.Qxb6602165aByte
import Derived.RegionTactic
import Derived.BigRegion
import Derived.ChangeAlike
namespace Go.Proofs.Qxb6602165a
open Go.RowKit Plain

/-- The byte at t. -/
def bt (x : ByteArray) (t : Nat) : Nat := if h : t < x.size then (x[t]'h).toNat else 0
theorem bt_eq {x : ByteArray} {t : Nat} (h : t < x.size) : bt x t = (x[t]'h).toNat := by unfold bt; rw [dif_pos h]

def stB (p : Nat → Nat) (n s j : Nat) : Bool := decide (p (it p n s j) = 42)
def mtB (p : Nat → Nat) (n s : Nat) (x : ByteArray) (j t : Nat) : Bool := bem p (it p n s j) (bt x t)
/-- What the automaton answers. -/
def segAcc (p : Nat → Nat) (n s m : Nat) (x : ByteArray) : Bool := run m (stB p n s) (mtB p n s x) x.size m

abbrev InvB (p : Nat → Nat) (n s m : Nat) (x : ByteArray) (j t : Nat) (sp : Option (Nat × Nat)) : Prop := Inv m x.size (stB p n s) (mtB p n s x) j t sp
abbrev AccB (p : Nat → Nat) (n s m : Nat) (x : ByteArray) (j t : Nat) : Prop := Acc m x.size (stB p n s) (mtB p n s x) j t

theorem segAcc_iff (p : Nat → Nat) (n s m : Nat) (x : ByteArray) : segAcc p n s m x = true ↔ AccB p n s m x 0 0 := run_iff

def SP (p : Nat → Nat) (n s m : Nat) (x : ByteArray) (q3 q4 : Int) (j t : Nat) : Prop :=
  (q3 = -1 ∧ q4 = 0 ∧ InvB p n s m x j t none) ∨
  ∃ a sb k2 : Nat, q3 = (k2 : Int) ∧ q4 = (sb : Int) ∧ k2 = it p n s (a + 1) ∧ k2 ≤ n ∧ sb ≤ t ∧ a + 1 ≤ m ∧ InvB p n s m x j t (some (a, sb))

theorem sp_start (p : Nat → Nat) (n s m : Nat) (x : ByteArray) : SP p n s m x (-1) 0 0 0 := .inl ⟨rfl, rfl, inv_start⟩

theorem it_star {p : Nat → Nat} {n s j : Nat} (h : p (it p n s j) = 42) : it p n s (j + 1) = it p n s j + 1 := by
  show nxt p n (it p n s j) = _
  unfold nxt
  rw [elemEnd_star h]
  rfl

theorem SP.q4 {p : Nat → Nat} {n s m : Nat} {x : ByteArray} {q3 q4 : Int} {j t : Nat} (h : SP p n s m x q3 q4 j t) : (q3 = -1 ∧ q4 = 0) ∨ (0 ≤ q3 ∧ 0 ≤ q4 ∧ q4 ≤ t) := by
  rcases h with ⟨h1, h2, _⟩ | ⟨a, sb, k2, h1, h2, _, _, h3, _⟩
  · exact .inl ⟨h1, h2⟩
  · exact .inr ⟨by omega, by omega, by omega⟩

theorem sp_star {p : Nat → Nat} {n s m : Nat} {x : ByteArray} {q3 q4 : Int} {j t k : Nat} (hs : Seg p n s m) (h : SP p n s m x q3 q4 j t) (hj : j < m) (hk : k = it p n s j) (h42 : p k = 42) :
    SP p n s m x ((k : Int) + 1) t (j + 1) t ∧ k + 1 = it p n s (j + 1) ∧ k + 1 ≤ n := by
  subst hk
  have e := it_star (n := n) h42
  have hst : stB p n s j = true := decide_eq_true h42
  have hle := hs.le (j + 1) hj
  refine ⟨.inr ⟨j, t, it p n s (j + 1), by rw [e]; simp, rfl, rfl, hle, Nat.le_refl _, hj, ?_⟩, e.symm, by omega⟩
  rcases h with ⟨_, _, h⟩ | ⟨a, sb, k2, _, _, _, _, _, _, h⟩
  · exact inv_star h hj hst
  · exact inv_star h hj hst

theorem sp_one {p : Nat → Nat} {n s m : Nat} {x : ByteArray} {q3 q4 : Int} {j t k : Nat} (h : SP p n s m x q3 q4 j t) (hj : j < m) (hk : k = it p n s j) (h42 : p k ≠ 42) (ht : t < x.size) (hb : bem p k (bt x t) = true) :
    SP p n s m x q3 q4 (j + 1) (t + 1) := by
  subst hk
  have hst : stB p n s j = false := decide_eq_false h42
  rcases h with ⟨h1, h2, h⟩ | ⟨a, sb, k2, h1, h2, h3, h4, h5, h6, h⟩
  · exact .inl ⟨h1, h2, inv_one h hj hst ht hb⟩
  · exact .inr ⟨a, sb, k2, h1, h2, h3, h4, by omega, h6, inv_one h hj hst ht hb⟩

theorem sp_fail {p : Nat → Nat} {n s m : Nat} {x : ByteArray} {q3 q4 : Int} {j t : Nat} (h : SP p n s m x q3 q4 j t) (ht : t < x.size) (hn : ¬ AccB p n s m x j t) :
    (q3 = -1 ∧ segAcc p n s m x = false) ∨
    ∃ a sb k2 : Nat, q3 = (k2 : Int) ∧ q4 = (sb : Int) ∧ k2 = it p n s (a + 1) ∧ k2 ≤ n ∧ sb ≤ t ∧ a + 1 ≤ m ∧ SP p n s m x (k2 : Int) ((sb : Int) + 1) (a + 1) (sb + 1) := by
  rcases h with ⟨h1, h2, h⟩ | ⟨a, sb, k2, h1, h2, h3, h4, h5, h6, h⟩
  · refine .inl ⟨h1, ?_⟩
    rw [← Bool.not_eq_true, segAcc_iff]
    exact fun ha => hn (Iff.mp h ha)
  · exact .inr ⟨a, sb, k2, h1, h2, h3, h4, h5, h6, .inr ⟨a, sb + 1, k2, rfl, by simp, h3, h4, Nat.le_refl _, h6, inv_back h hn ht⟩⟩

theorem sp_end {p : Nat → Nat} {n s m : Nat} {x : ByteArray} {q3 q4 : Int} {j : Nat} (h : SP p n s m x q3 q4 j x.size) (hj : j ≤ m) : segAcc p n s m x = true ↔ ∀ i, j ≤ i → i < m → p (it p n s i) = 42 := by
  rw [segAcc_iff]
  have h1 : AccB p n s m x 0 0 ↔ AccB p n s m x j x.size := by
    rcases h with ⟨_, _, h⟩ | ⟨a, sb, k2, _, _, _, _, _, _, h⟩
    · exact inv_end hj h
    · exact inv_end hj h
  rw [h1]
  refine (acc_end hj).trans ⟨fun h i a b => ?_, fun h i a b => ?_⟩
  · exact of_decide_eq_true (h i a b)
  · exact decide_eq_true (h i a b)

theorem not_one {p : Nat → Nat} {n s m : Nat} {x : ByteArray} {j t k : Nat} (hk : k = it p n s j) (h42 : p k ≠ 42) (ht : t < x.size) (hb : bem p k (bt x t) = false) : ¬ AccB p n s m x j t := by
  subst hk
  exact acc_not_one (decide_eq_false h42) ht hb

def meas (N n : Nat) (k q3 q4 : Int) : Nat := (N + 1 - (if q3 < 0 then 0 else q4.toNat + 1)) * (n + 2) + (n + 1 - k.toNat)

theorem meas_go {N n : Nat} {k k' q3 q4 : Int} (h0 : 0 ≤ k) (h1 : k < k') (h2 : k' ≤ n) : meas N n k' q3 q4 < meas N n k q3 q4 := by
  unfold meas
  omega

theorem meas_star {N n : Nat} {k k' q3 q4 q3' q4' : Int} (h0 : 0 ≤ k) (h1 : k < k') (h2 : k' ≤ n) (h3 : 0 ≤ q3') (h4 : (q3 = -1 ∧ q4 = 0) ∨ (0 ≤ q3 ∧ 0 ≤ q4 ∧ q4 ≤ q4')) : meas N n k' q3' q4' < meas N n k q3 q4 := by
  unfold meas
  have hA : N + 1 - (if q3' < 0 then 0 else q4'.toNat + 1) ≤ N + 1 - (if q3 < 0 then 0 else q4.toNat + 1) := by
    rw [if_neg (by omega : ¬ q3' < 0)]
    rcases h4 with ⟨rfl, rfl⟩ | ⟨a, b, c⟩
    · simp; omega
    · rw [if_neg (by omega : ¬ q3 < 0)]
      omega
  have := Nat.mul_le_mul_right (n + 2) hA
  omega

theorem meas_back {N n : Nat} {k k' q3 : Int} {sb : Nat} (h3 : 0 ≤ q3) (hb : sb < N) (h2 : 0 ≤ k) (h4 : k ≤ n) : meas N n k' q3 ((sb : Int) + 1) < meas N n k q3 (sb : Int) := by
  unfold meas
  rw [if_neg (by omega : ¬ q3 < 0), if_neg (by omega : ¬ q3 < 0)]
  have e1 : ((sb : Int) + 1).toNat = sb + 1 := by omega
  have e2 : (sb : Int).toNat = sb := by omega
  rw [e1, e2]
  obtain ⟨A, hA⟩ : ∃ A, N + 1 - (sb + 1) = A + 1 := ⟨N - sb - 1, by omega⟩
  have hA2 : N + 1 - (sb + 1 + 1) = A := by omega
  rw [hA, hA2, Nat.succ_mul]
  omega

theorem ret_ib {a b : Bool} {i j : Int} (hi : i = j) (h : a = b) : Ending.returned (.tuple #[.int .i64 i, .bool a]) = .returned (.tuple #[.int .i64 j, .bool b]) := by rw [h, hi]

set_option maxHeartbeats 8000000 in
theorem matchName28 (p : Nat → Nat) (n : Nat) (hp : Prg p n) {B : Nat} (ao : Option Addr) (c s m : Nat) (x : ByteArray) (w : World) (hr : Row B w ao n (pv p)) (hs : Seg p n s m)
    (hna : ∀ j, j + 1 < m → p (it p n s j) = 42 → p (it p n s (j + 1)) ≠ 42) (hx : x.size ≤ 1048576) (hns : NoSlash x) :
    Calls Try.prog 28 #[.slice ao n c, .int .i64 s, .string x] w fun e w' => ∃ t : Nat, e = .returned (.tuple #[.int .i64 t, .bool (segAcc p n s m x)]) ∧ (segAcc p n s m x = true → t = it p n s m) ∧ Below w.heap.size w w' := by
  have hn := hp.len
  have HMB := hide (fun k y e0 => matchByte34 p n hp ao c k y e0 w hr)
  have HS := hide hs
  have HR := hide hr
  have HP := hide hp.byte
  have HNa := hide hna
  have HNs := hide hns
  have hs0 : s ≤ n := hs.le 0 (Nat.zero_le _)
  clear hs hr hp hna hns
  go_enter Try.func28, Try.ntmps28
  go_wp2
  go_loop [8, 9, 10, 11] (fun z1 z2 z3 z4 => ∃ (j t k : Nat) (q3 q4 : Int), j ≤ m ∧ t ≤ x.size ∧ k ≤ n ∧ z1 = .int .i64 k ∧ z2 = .int .i64 t ∧ z3 = .int .i64 q3 ∧ z4 = .int .i64 q4 ∧ Hid (k = it p n s j) ∧ Hid (SP p n s m x q3 q4 j t)) (fun z1 _ z3 z4 => meas x.size n (intOf z1) (intOf z3) (intOf z4))
  case atStart => exact ⟨0, 0, s, -1, 0, Nat.zero_le _, Nat.zero_le _, hs0, rfl, rfl, rfl, rfl, rfl, sp_start p n s m x⟩
  case round =>
    obtain ⟨j, t, k, q3, q4, hj, ht, hk, rfl, rfl, rfl, rfl, HK, HSP⟩ := hrel
    have hq := (unhide HSP).q4
    have hq1 : -1 ≤ q3 := by omega
    have hq3 : 0 ≤ q4 := by omega
    have hq4 : q4 ≤ 1048576 := by omega
    have HQ := hide hq
    clear hq
    by_cases hlt : t < x.size
    · by_cases hjm : j < m
      · have h1 : k < n := by rw [unhide HK]; exact (unhide HS).lt j hjm
        have h3 := (unhide HS).ok j hjm
        rw [← unhide HK] at h3
        rcases unhide HR with h0 | ⟨b, off, rfl, _, hc⟩
        · omega
        have c0 : w.cell? ⟨b, off + k, none⟩ = some (.int .u8 (p k : Int)) := hc k h1
        have hle : it p n s (j + 1) ≤ n := (unhide HS).le _ hjm
        have hgt : k < it p n s (j + 1) := elemEnd_gt h3
        clear hc
        by_cases e1 : p k = 42
        · have b1 : ((p k : Int) == 42) = true := beq_yes (b := 42) e1
          obtain ⟨g1, g2, g3⟩ := sp_star (unhide HS) (unhide HSP) hjm (unhide HK) e1
          have G1 := hide g1
          have G2 := hide g2
          clear e1 g1 g2 h3 hle hgt HSP
          go_wp2
          go_round
          case rel => exact ⟨j + 1, t, k + 1, _, _, hjm, ht, g3, by go_num, rfl, rfl, rfl, G2, G1⟩
          case measure => (simp only [intOf]; exact meas_star (by omega) (by omega) (by omega) (by omega) (unhide HQ))
        · have b1 : ((p k : Int) == 42) = false := beq_no (b := 42) e1
          have HbT := hide (bt_eq hlt)
          by_cases e2 : p k = 63 ∨ p k = 92 ∨ p k = 91
          · have HM := hide (unhide HMB k (x[t]'hlt).toNat _ h1 h3 e2)
            have HCase : Hid ((((p k : Int) == 63) = true) ∨ ((((p k : Int) == 63) = false) ∧ ((p k : Int) == 92) = true) ∨ ((((p k : Int) == 63) = false) ∧ ((p k : Int) == 92) = false ∧ ((p k : Int) == 91) = true)) := by
              unfold Hid
              rcases e2 with e | e | e
              · exact .inl (beq_yes (b := 63) e)
              · exact .inr (.inl ⟨beq_no (b := 63) (by omega), beq_yes (b := 92) e⟩)
              · exact .inr (.inr ⟨beq_no (b := 63) (by omega), beq_no (b := 92) (by omega), beq_yes (b := 91) e⟩)
            cases hbm : bem p k (x[t]'hlt).toNat
            · rw [hbm] at HM
              have HNo := hide (not_one (m := m) (unhide HK) e1 hlt (by rw [unhide HbT]; exact hbm))
              have HFail := hide (sp_fail (unhide HSP) hlt (unhide HNo))
              clear hbm e1 e2 h3
              generalize it p n s (j + 1) = e0 at *
              rcases unhide HCase with b2 | ⟨b2, b3⟩ | ⟨b2, b3, b4⟩
              all_goals (
                rcases unhide HFail with ⟨rfl, HF⟩ | ⟨a, sb, k2, rfl, rfl, hk2, hk2n, hsb, ham, HSP2⟩
                · clear HFail HSP HNo
                  have HF2 := hide HF
                  clear HF
                  go_wp2_with fail
                  refine (unhide HM).mono ?_
                  rintro e w' ⟨rfl, rfl⟩
                  go_wp2
                  go_ret2
                  exact ⟨0, ret_ib rfl (unhide HF2).symm, fun h => (by rw [unhide HF2] at h; cases h), Below.refl _ _⟩
                · have HK2 := hide hk2
                  have HS2 := hide HSP2
                  have hm1 : sb < x.size := by omega
                  clear HFail HSP HNo hk2 HSP2
                  go_wp2_with fail
                  refine (unhide HM).mono ?_
                  rintro e w' ⟨rfl, rfl⟩
                  go_wp2
                  go_round
                  case rel => exact ⟨a + 1, sb + 1, k2, _, _, ham, by omega, hk2n, rfl, by go_num, rfl, rfl, HK2, HS2⟩
                  case measure => (simp only [intOf]; exact meas_back (by omega) hm1 (by omega) (by omega)))
            · rw [hbm] at HM
              have HO := hide (sp_one (unhide HSP) hjm (unhide HK) e1 hlt (by rw [unhide HbT]; exact hbm))
              clear hbm e1 e2 h3 HSP
              obtain ⟨e0, he0⟩ : ∃ e0, e0 = it p n s (j + 1) := ⟨_, rfl⟩
              rw [← he0] at HM hle hgt
              have HE0 := hide he0
              clear he0
              rcases unhide HCase with b2 | ⟨b2, b3⟩ | ⟨b2, b3, b4⟩
              all_goals (
                go_wp2_with fail
                refine (unhide HM).mono ?_
                rintro e w' ⟨rfl, rfl⟩
                go_wp2
                go_round
                case rel => exact ⟨j + 1, t + 1, e0, _, _, hjm, hlt, hle, rfl, by go_num, rfl, rfl, HE0, HO⟩
                case measure => (simp only [intOf]; exact meas_go (by omega) (by omega) (by omega)))
          · have b2 : ((p k : Int) == 63) = false := beq_no (b := 63) (by omega)
            have b3 : ((p k : Int) == 92) = false := beq_no (b := 92) (by omega)
            have b4 : ((p k : Int) == 91) = false := beq_no (b := 91) (by omega)
            have hel := elemEnd_else h3 (by omega) (by omega)
            have hbm : bem p k (x[t]'hlt).toNat = decide (p k = (x[t]'hlt).toNat) := by
              unfold bem
              rw [if_neg (by omega), if_neg (by omega), if_neg (by omega)]
            have hqb := unhide HP k
            by_cases e5 : p k = (x[t]'hlt).toNat
            · have b5 : ((p k : Int) == ((x[t]'hlt).toNat : Int)) = true := beq_yes e5
              have HO := hide (sp_one (unhide HSP) hjm (unhide HK) e1 hlt (by rw [unhide HbT, hbm]; exact decide_eq_true e5))
              have HE0 := hide hel.symm
              have hle2 : k + 1 ≤ n := by omega
              clear hbm e1 e2 e5 h3 HSP hel hle hgt
              go_wp2
              go_round
              case rel => exact ⟨j + 1, t + 1, k + 1, _, _, hjm, hlt, hle2, by go_num, by go_num, rfl, rfl, HE0, HO⟩
              case measure => (simp only [intOf]; exact meas_go (by omega) (by omega) (by omega))
            · have b5 : ((p k : Int) == ((x[t]'hlt).toNat : Int)) = false := beq_no e5
              have HNo := hide (not_one (m := m) (unhide HK) e1 hlt (by rw [unhide HbT, hbm]; exact decide_eq_false e5))
              have HFail := hide (sp_fail (unhide HSP) hlt (unhide HNo))
              clear hbm e1 e2 e5 h3 hel hle hgt
              rcases unhide HFail with ⟨rfl, HF⟩ | ⟨a, sb, k2, rfl, rfl, hk2, hk2n, hsb, ham, HSP2⟩
              · clear HFail HSP HNo
                have HF2 := hide HF
                clear HF
                go_wp2
                go_ret2
                exact ⟨0, ret_ib rfl (unhide HF2).symm, fun h => (by rw [unhide HF2] at h; cases h), Below.refl _ _⟩
              · have HK2 := hide hk2
                have HS2 := hide HSP2
                have hm1 : sb < x.size := by omega
                clear HFail HSP HNo hk2 HSP2
                go_wp2
                go_round
                case rel => exact ⟨a + 1, sb + 1, k2, _, _, ham, by omega, hk2n, rfl, by go_num, rfl, rfl, HK2, HS2⟩
                case measure => (simp only [intOf]; exact meas_back (by omega) hm1 (by omega) (by omega))
      · have hjm2 : j = m := by omega
        have HNo : Hid (¬ AccB p n s m x j t) := acc_not_end (by omega) hlt
        have HFail := hide (sp_fail (unhide HSP) hlt (unhide HNo))
        rcases (unhide HS).fin with f | ⟨f1, f2⟩
        · have hkn : n ≤ k := by rw [unhide HK, hjm2, f]; exact Nat.le_refl _
          clear f hjm2
          rcases unhide HFail with ⟨rfl, HF⟩ | ⟨a, sb, k2, rfl, rfl, hk2, hk2n, hsb, ham, HSP2⟩
          · clear HFail HSP HNo
            have HF2 := hide HF
            clear HF
            go_wp2
            go_ret2
            exact ⟨0, ret_ib rfl (unhide HF2).symm, fun h => (by rw [unhide HF2] at h; cases h), Below.refl _ _⟩
          · have HK2 := hide hk2
            have HS2 := hide HSP2
            have hm1 : sb < x.size := by omega
            clear HFail HSP HNo hk2 HSP2
            go_wp2
            go_round
            case rel => exact ⟨a + 1, sb + 1, k2, _, _, ham, by omega, hk2n, rfl, by go_num, rfl, rfl, HK2, HS2⟩
            case measure => (simp only [intOf]; exact meas_back (by omega) hm1 (by omega) (by omega))
        · rw [← hjm2, ← unhide HK] at f1 f2
          rcases unhide HR with h0 | ⟨b, off, rfl, _, hc⟩
          · omega
          have c0 : w.cell? ⟨b, off + k, none⟩ = some (.int .u8 (p k : Int)) := hc k f1
          have b1 : ((p k : Int) == 42) = false := beq_no (b := 42) (by omega)
          have b2 : ((p k : Int) == 63) = false := beq_no (b := 63) (by omega)
          have b3 : ((p k : Int) == 92) = false := beq_no (b := 92) (by omega)
          have b4 : ((p k : Int) == 91) = false := beq_no (b := 91) (by omega)
          have b5 : ((p k : Int) == ((x[t]'hlt).toNat : Int)) = false := beq_no (by have := unhide HNs t hlt; omega)
          clear hc f2 hjm2
          rcases unhide HFail with ⟨rfl, HF⟩ | ⟨a, sb, k2, rfl, rfl, hk2, hk2n, hsb, ham, HSP2⟩
          · clear HFail HSP HNo
            have HF2 := hide HF
            clear HF
            go_wp2
            go_ret2
            exact ⟨0, ret_ib rfl (unhide HF2).symm, fun h => (by rw [unhide HF2] at h; cases h), Below.refl _ _⟩
          · have HK2 := hide hk2
            have HS2 := hide HSP2
            have hm1 : sb < x.size := by omega
            clear HFail HSP HNo hk2 HSP2
            go_wp2
            go_round
            case rel => exact ⟨a + 1, sb + 1, k2, _, _, ham, by omega, hk2n, rfl, by go_num, rfl, rfl, HK2, HS2⟩
            case measure => (simp only [intOf]; exact meas_back (by omega) hm1 (by omega) (by omega))
    · have htx : t = x.size := by omega
      have HEnd : Hid (segAcc p n s m x = true ↔ ∀ i, j ≤ i → i < m → p (it p n s i) = 42) := by
        have := unhide HSP
        rw [htx] at this
        exact sp_end this hj
      clear HSP
      by_cases hjm : j < m
      · have h1 : k < n := by rw [unhide HK]; exact (unhide HS).lt j hjm
        have h2 : p k ≠ 47 := by rw [unhide HK]; exact (unhide HS).nsl j hjm
        rcases unhide HR with h0 | ⟨b, off, rfl, _, hc⟩
        · omega
        have c0 : w.cell? ⟨b, off + k, none⟩ = some (.int .u8 (p k : Int)) := hc k h1
        have HC := hide hc
        clear hc
        by_cases e1 : p k = 42
        · have b1 : ((p k : Int) == 42) = true := beq_yes (b := 42) e1
          have hit : k + 1 = it p n s (j + 1) := by rw [it_star (by rw [← unhide HK]; exact e1), unhide HK]
          by_cases hj2 : j + 1 < m
          · have g1 : k + 1 < n := by rw [hit]; exact (unhide HS).lt (j + 1) hj2
            have g2 : p (k + 1) ≠ 47 := by rw [hit]; exact (unhide HS).nsl (j + 1) hj2
            have c1 : w.cell? ⟨b, off + (k + 1), none⟩ = some (.int .u8 (p (k + 1) : Int)) := unhide HC (k + 1) g1
            have b2 : (((k : Int) + 1) == (n : Int)) = false := beq_eq_false_iff_ne.2 (by omega)
            have b3 : ((p (k + 1) : Int) == 47) = false := beq_no (b := 47) g2
            have HA : Hid (segAcc p n s m x = false) := by
              unfold Hid
              rw [← Bool.not_eq_true, unhide HEnd]
              intro h
              exact unhide HNa j hj2 (h j (Nat.le_refl _) hjm) (h (j + 1) (by omega) hj2)
            clear e1 h2 g2 hit HEnd htx
            go_wp2
            go_region
            go_wp2
            go_ret2
            exact ⟨k + 1, ret_ib (by simp) (unhide HA).symm, fun h => (by rw [unhide HA] at h; cases h), (Below.refl _ _).drew⟩
          · have hm1 : j + 1 = m := by omega
            have HA : Hid (segAcc p n s m x = true) := by
              unfold Hid
              rw [unhide HEnd]
              intro i a b
              have : i = j := by omega
              rw [this, ← unhide HK]
              exact e1
            have HT : Hid (k + 1 = it p n s m) := by rw [← hm1]; exact hit
            rcases (unhide HS).fin with f | ⟨f1, f2⟩
            · have b2 : (((k : Int) + 1) == (n : Int)) = true := by rw [beq_iff_eq]; rw [← unhide HT] at f; omega
              have g1 : k + 1 ≤ n := by omega
              clear e1 h2 hit HEnd htx f
              go_wp2
              go_region
              go_wp2
              go_ret2
              exact ⟨k + 1, ret_ib (by simp) (unhide HA).symm, fun _ => unhide HT, (Below.refl _ _).drew⟩
            · rw [← unhide HT] at f1 f2
              have c1 : w.cell? ⟨b, off + (k + 1), none⟩ = some (.int .u8 (p (k + 1) : Int)) := unhide HC (k + 1) f1
              have b2 : (((k : Int) + 1) == (n : Int)) = false := beq_eq_false_iff_ne.2 (by omega)
              have b3 : ((p (k + 1) : Int) == 47) = true := beq_yes (b := 47) f2
              clear e1 h2 hit HEnd htx f2
              go_wp2
              go_region
              go_wp2
              go_ret2
              exact ⟨k + 1, ret_ib (by simp) (unhide HA).symm, fun _ => unhide HT, (Below.refl _ _).drew⟩
        · have b1 : ((p k : Int) == 42) = false := beq_no (b := 42) e1
          have b2 : ((k : Int) == (n : Int)) = false := beq_eq_false_iff_ne.2 (by omega)
          have b3 : ((p k : Int) == 47) = false := beq_no (b := 47) h2
          have HA : Hid (segAcc p n s m x = false) := by
            unfold Hid
            rw [← Bool.not_eq_true, unhide HEnd]
            intro h
            exact e1 (by rw [unhide HK]; exact h j (Nat.le_refl _) hjm)
          clear e1 h2 HEnd htx
          go_wp2
          go_region
          go_wp2
          go_ret2
          exact ⟨k, ret_ib rfl (unhide HA).symm, fun h => (by rw [unhide HA] at h; cases h), (Below.refl _ _).drew⟩
      · have hjm2 : j = m := by omega
        have HA : Hid (segAcc p n s m x = true) := by
          unfold Hid
          rw [unhide HEnd]
          intro i a b
          omega
        have HT : Hid (k = it p n s m) := by rw [← hjm2]; exact unhide HK
        rcases (unhide HS).fin with f | ⟨f1, f2⟩
        · have hkn : n ≤ k := by rw [unhide HT, f]; exact Nat.le_refl _
          have b2 : ((k : Int) == (n : Int)) = true := by rw [beq_iff_eq]; omega
          clear HEnd htx f hjm2
          go_wp2
          go_region
          go_wp2
          go_ret2
          exact ⟨k, ret_ib rfl (unhide HA).symm, fun _ => unhide HT, (Below.refl _ _).drew⟩
        · rw [← unhide HT] at f1 f2
          rcases unhide HR with h0 | ⟨b, off, rfl, _, hc⟩
          · omega
          have c0 : w.cell? ⟨b, off + k, none⟩ = some (.int .u8 (p k : Int)) := hc k f1
          have b1 : ((p k : Int) == 42) = false := beq_no (b := 42) (by omega)
          have b2 : ((k : Int) == (n : Int)) = false := beq_eq_false_iff_ne.2 (by omega)
          have b3 : ((p k : Int) == 47) = true := beq_yes (b := 47) f2
          clear HEnd htx hc f2 hjm2
          go_wp2
          go_region
          go_wp2
          go_ret2
          exact ⟨k, ret_ib rfl (unhide HA).symm, fun _ => unhide HT, (Below.refl _ _).drew⟩

end Go.Proofs.Qxb6602165a
