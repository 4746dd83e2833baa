/-
  WALKS of the seat b6602165a: byteElemMatches (33), matchByte (34).
-/
import Derived.Test.Qxb6602165aGuards
namespace Go.Proofs.Qxb6602165a
open Go.RowKit Plain

def inR (p : Nat → Nat) (k c j : Nat) : Bool := decide (p (k + 2 + 2 * j) ≤ c) && decide (c ≤ p (k + 2 + 2 * j + 1))
def anyR (p : Nat → Nat) (k c : Nat) : Nat → Bool
  | 0 => false
  | q + 1 => anyR p k c q || inR p k c q
/-- The element at k takes the byte c. -/
def bem (p : Nat → Nat) (k c : Nat) : Bool :=
  if p k = 63 then true else if p k = 92 then decide (p (k + 1) = c) else if p k = 91 then anyR p k c (p (k + 1)) else decide (p k = c)

theorem anyR_hit {p : Nat → Nat} {k c q j : Nat} (hj : j < q) (h : inR p k c j = true) : anyR p k c q = true := by
  induction q with
  | zero => omega
  | succ q ih =>
    by_cases e : j = q
    · subst e; simp [anyR, h]
    · simp [anyR, ih (by omega)]

theorem elemEnd_back {p : Nat → Nat} {n k e : Nat} (h : elemEnd p n k = some e) (hk : p k = 92) : e = k + 2 ∧ k + 1 < n := by
  unfold elemEnd at h
  rw [if_pos hk] at h
  split at h
  · cases h; exact ⟨rfl, by assumption⟩
  · cases h
theorem elemEnd_class {p : Nat → Nat} {n k e : Nat} (h : elemEnd p n k = some e) (hk : p k = 91) : e = k + 2 + 2 * p (k + 1) ∧ k + 1 < n ∧ k + 2 + 2 * p (k + 1) ≤ n := by
  unfold elemEnd at h
  rw [if_neg (by omega), if_pos hk] at h
  split at h
  · rename_i hh; cases h; exact ⟨rfl, hh⟩
  · cases h
theorem elemEnd_else {p : Nat → Nat} {n k e : Nat} (h : elemEnd p n k = some e) (hk : p k ≠ 92) (hk2 : p k ≠ 91) : e = k + 1 := by
  unfold elemEnd at h
  rw [if_neg hk, if_neg hk2] at h
  cases h; rfl

set_option maxHeartbeats 4000000 in
theorem byteElem33 (p : Nat → Nat) (n : Nat) (hp : Prg p n) {B : Nat} (ao : Option Addr) (c k x e0 : Nat) (w : World) (hr : Row B w ao n (pv p)) (hk : k < n) (he : elemEnd p n k = some e0) :
    Calls Try.prog 33 #[.slice ao n c, .int .i64 k, .int .u8 (x : Int)] w fun e w' => e = .returned (.bool (bem p k x)) ∧ w = w' := by
  have hn := hp.len
  rcases hr with h0 | ⟨b, off, rfl, _, hc⟩
  · omega
  have c0 : w.cell? ⟨b, off + k, none⟩ = some (.int .u8 (p k : Int)) := hc k hk
  have HC := hide hc
  have HP := hide hp.byte
  have q1 := hp.byte (k + 1)
  clear hc hp
  by_cases e1 : p k = 63
  · have b1 : ((p k : Int) == 63) = true := beq_yes (b := 63) e1
    have HR : Hid (bem p k x = true) := by unfold Hid bem; rw [if_pos e1]
    clear e1
    go_enter Try.func33, Try.ntmps33
    go_wp2
    go_ret
    exact ⟨ret_bool (unhide HR).symm, rfl⟩
  · have b1 : ((p k : Int) == 63) = false := beq_no (b := 63) e1
    by_cases e2 : p k = 92
    · have b2 : ((p k : Int) == 92) = true := beq_yes (b := 92) e2
      have g := (elemEnd_back he e2).2
      have c1 : w.cell? ⟨b, off + (k + 1), none⟩ = some (.int .u8 (p (k + 1) : Int)) := unhide HC (k + 1) g
      have HR : Hid (bem p k x = ((p (k + 1) : Int) == (x : Int))) := by
        unfold Hid bem
        rw [if_neg e1, if_pos e2, Bool.eq_iff_iff, decide_eq_true_iff, beq_iff_eq]
        omega
      clear e1 e2 he
      go_enter Try.func33, Try.ntmps33
      go_wp2
      go_ret
      exact ⟨ret_bool (unhide HR).symm, rfl⟩
    · have b2 : ((p k : Int) == 92) = false := beq_no (b := 92) e2
      by_cases e3 : p k = 91
      · have b3 : ((p k : Int) == 91) = true := beq_yes (b := 91) e3
        obtain ⟨-, g1, g2⟩ := elemEnd_class he e3
        have c1 : w.cell? ⟨b, off + (k + 1), none⟩ = some (.int .u8 (p (k + 1) : Int)) := unhide HC (k + 1) g1
        have HB : Hid (bem p k x = anyR p k x (p (k + 1))) := by
          unfold Hid bem
          rw [if_neg e1, if_neg e2, if_pos e3]
        clear e1 e2 e3 he
        generalize p (k + 1) = q at *
        go_enter Try.func33, Try.ntmps33
        go_wp2
        go_loop [8] (fun i => ∃ j : Nat, j ≤ q ∧ i = .int .i64 j ∧ Hid (anyR p k x j = false)) (fun i => q - (intOf i).toNat)
        case atStart => exact ⟨0, Nat.zero_le _, rfl, rfl⟩
        case round =>
          obtain ⟨j, hj, rfl, HA⟩ := hrel
          by_cases hlt : j < q
          · have c2 : w.cell? ⟨b, off + (k + 2 + 2 * j), none⟩ = some (.int .u8 (p (k + 2 + 2 * j) : Int)) := unhide HC (k + 2 + 2 * j) (by omega)
            have c3 : w.cell? ⟨b, off + (k + 3 + 2 * j), none⟩ = some (.int .u8 (p (k + 3 + 2 * j) : Int)) := unhide HC (k + 3 + 2 * j) (by omega)
            have e3 : k + 2 + 2 * j + 1 = k + 3 + 2 * j := by omega
            have Hit := hide (fun h => anyR_hit (p := p) (k := k) (c := x) (j := j) hlt h)
            have Hno : Hid (inR p k x j = false → anyR p k x (j + 1) = false) := fun h => by simp [anyR, h, unhide HA]
            have Hin : Hid (inR p k x j = (decide (p (k + 2 + 2 * j) ≤ x) && decide (x ≤ p (k + 3 + 2 * j)))) := by unfold Hid inR; rw [e3]
            clear e3
            generalize p (k + 2 + 2 * j) = lo at *
            generalize p (k + 3 + 2 * j) = hi at *
            by_cases f1 : lo ≤ x
            · by_cases f2 : x ≤ hi
              · have HR : Hid (bem p k x = true) := (unhide HB).trans (unhide Hit (by rw [unhide Hin]; simp [f1, f2]))
                clear Hit Hno Hin
                go_wp2
                go_ret
                exact ⟨ret_bool (unhide HR).symm, rfl⟩
              · have HR : Hid (anyR p k x (j + 1) = false) := unhide Hno (by rw [unhide Hin]; simp [f2])
                clear Hit Hno Hin
                go_wp2
                go_round
                case rel => exact ⟨j + 1, hlt, by go_num, HR⟩
                case measure => simp [intOf]; omega
            · have HR : Hid (anyR p k x (j + 1) = false) := unhide Hno (by rw [unhide Hin]; simp [f1])
              clear Hit Hno Hin
              go_wp2
              go_round
              case rel => exact ⟨j + 1, hlt, by go_num, HR⟩
              case measure => simp [intOf]; omega
          · have hjq : j = q := by omega
            have HR : Hid (bem p k x = false) := (unhide HB).trans (by rw [← hjq]; exact unhide HA)
            clear hjq
            go_wp2
            go_ret
            exact ⟨ret_bool (unhide HR).symm, rfl⟩
      · have b3 : ((p k : Int) == 91) = false := beq_no (b := 91) e3
        have HR : Hid (bem p k x = ((p k : Int) == (x : Int))) := by
          unfold Hid bem
          rw [if_neg e1, if_neg e2, if_neg e3, Bool.eq_iff_iff, decide_eq_true_iff, beq_iff_eq]
          omega
        clear e1 e2 e3 he
        go_enter Try.func33, Try.ntmps33
        go_wp2
        go_ret
        exact ⟨ret_bool (unhide HR).symm, rfl⟩

theorem ret_bi {a b : Bool} {i j : Int} (h : a = b) (hi : i = j) : Ending.returned (.tuple #[.bool a, .int .i64 i]) = .returned (.tuple #[.bool b, .int .i64 j]) := by rw [h, hi]

set_option maxHeartbeats 4000000 in
theorem matchByte34 (p : Nat → Nat) (n : Nat) (hp : Prg p n) {B : Nat} (ao : Option Addr) (c k x e0 : Nat) (w : World) (hr : Row B w ao n (pv p)) (hk : k < n) (he : elemEnd p n k = some e0) (hin : p k = 63 ∨ p k = 92 ∨ p k = 91) :
    Calls Try.prog 34 #[.slice ao n c, .int .i64 k, .int .u8 (x : Int)] w fun e w' => e = .returned (.tuple #[.bool (bem p k x), .int .i64 (e0 : Int)]) ∧ w = w' := by
  have hn := hp.len
  rcases hr with h0 | ⟨b, off, rfl, _, hc⟩
  · omega
  have c0 : w.cell? ⟨b, off + k, none⟩ = some (.int .u8 (p k : Int)) := hc k hk
  have HC := hide hc
  have HP := hide hp.byte
  have q1 := hp.byte (k + 1)
  clear hc hp
  by_cases e1 : p k = 63
  · have b1 : ((p k : Int) == 63) = true := beq_yes (b := 63) e1
    have HR : Hid (bem p k x = true) := by unfold Hid bem; rw [if_pos e1]
    have HE : Hid ((e0 : Int) = (k : Int) + 1) := by
      have := elemEnd_else he (by omega) (by omega)
      unfold Hid
      omega
    clear e1 he hin
    go_enter Try.func34, Try.ntmps34
    go_wp2
    go_ret2
    exact ⟨ret_bi (unhide HR).symm (unhide HE).symm, rfl⟩
  · have b1 : ((p k : Int) == 63) = false := beq_no (b := 63) e1
    by_cases e2 : p k = 92
    · have b2 : ((p k : Int) == 92) = true := beq_yes (b := 92) e2
      obtain ⟨g0, g⟩ := elemEnd_back he e2
      have c1 : w.cell? ⟨b, off + (k + 1), none⟩ = some (.int .u8 (p (k + 1) : Int)) := unhide HC (k + 1) g
      have HR : Hid (bem p k x = ((p (k + 1) : Int) == (x : Int))) := by
        unfold Hid bem
        rw [if_neg e1, if_pos e2, Bool.eq_iff_iff, decide_eq_true_iff, beq_iff_eq]
        omega
      have HE : Hid ((e0 : Int) = (k : Int) + 2) := by
        unfold Hid
        omega
      clear e1 e2 he g0 hin
      go_enter Try.func34, Try.ntmps34
      go_wp2
      go_ret2
      exact ⟨ret_bi (unhide HR).symm (unhide HE).symm, rfl⟩
    · have b2 : ((p k : Int) == 92) = false := beq_no (b := 92) e2
      have e3 : p k = 91 := by omega
      obtain ⟨g0, g1, g2⟩ := elemEnd_class he e3
      have c1 : w.cell? ⟨b, off + (k + 1), none⟩ = some (.int .u8 (p (k + 1) : Int)) := unhide HC (k + 1) g1
      have HB : Hid (bem p k x = anyR p k x (p (k + 1))) := by
        unfold Hid bem
        rw [if_neg e1, if_neg e2, if_pos e3]
      have HE : Hid ((e0 : Int) = (k : Int) + 2 + 2 * (p (k + 1) : Int)) := by
        unfold Hid
        omega
      clear e1 e2 e3 he hin g0
      generalize p (k + 1) = q at *
      go_enter Try.func34, Try.ntmps34
      go_wp2
      go_loop [7, 8] (fun z i => z = .int .i64 ((k : Int) + 2 + 2 * (q : Int)) ∧ ∃ j : Nat, j ≤ q ∧ i = .int .i64 (((k + 2 + 2 * j : Nat)) : Int) ∧ Hid (anyR p k x j = false)) (fun _ i => k + 2 + 2 * q - (intOf i).toNat)
      case atStart => exact ⟨rfl, 0, Nat.zero_le _, by go_num, rfl⟩
      case round =>
        obtain ⟨rfl, j, hj, rfl, HA⟩ := hrel
        obtain ⟨y, hy⟩ : ∃ y, y = k + 2 + 2 * j := ⟨_, rfl⟩
        rw [← hy]
        by_cases hlt : j < q
        · have hy2 : y + 2 ≤ k + 2 + 2 * q := by omega
          have c2 : w.cell? ⟨b, off + y, none⟩ = some (.int .u8 (p y : Int)) := unhide HC y (by omega)
          have c3 : w.cell? ⟨b, off + (y + 1), none⟩ = some (.int .u8 (p (y + 1) : Int)) := unhide HC (y + 1) (by omega)
          have Hit := hide (fun h => anyR_hit (p := p) (k := k) (c := x) (j := j) hlt h)
          have Hno : Hid (inR p k x j = false → anyR p k x (j + 1) = false) := fun h => by simp [anyR, h, unhide HA]
          have Hin : Hid (inR p k x j = (decide (p y ≤ x) && decide (x ≤ p (y + 1)))) := by unfold Hid inR; rw [hy]
          have HY : Hid (y + 2 = k + 2 + 2 * (j + 1)) := by unfold Hid; omega
          clear hy
          generalize p y = lo at *
          generalize p (y + 1) = hi at *
          by_cases f1 : lo ≤ x
          · by_cases f2 : x ≤ hi
            · have HR : Hid (bem p k x = true) := (unhide HB).trans (unhide Hit (by rw [unhide Hin]; simp [f1, f2]))
              clear Hit Hno Hin
              go_wp2
              go_ret2
              exact ⟨ret_bi (unhide HR).symm (unhide HE).symm, rfl⟩
            · have HR : Hid (anyR p k x (j + 1) = false) := unhide Hno (by rw [unhide Hin]; simp [f2])
              clear Hit Hno Hin
              go_wp2
              go_round
              case rel => exact ⟨rfl, j + 1, hlt, by rw [← unhide HY]; go_num, HR⟩
              case measure => simp [intOf]; omega
          · have HR : Hid (anyR p k x (j + 1) = false) := unhide Hno (by rw [unhide Hin]; simp [f1])
            clear Hit Hno Hin
            go_wp2
            go_round
            case rel => exact ⟨rfl, j + 1, hlt, by rw [← unhide HY]; go_num, HR⟩
            case measure => simp [intOf]; omega
        · have hjq : j = q := by omega
          have HR : Hid (bem p k x = false) := (unhide HB).trans (by rw [← hjq]; exact unhide HA)
          have hy2 : k + 2 + 2 * q ≤ y := by omega
          clear hjq hy
          go_wp2
          go_ret2
          exact ⟨ret_bi (unhide HR).symm (unhide HE).symm, rfl⟩

end Go.Proofs.Qxb6602165a
