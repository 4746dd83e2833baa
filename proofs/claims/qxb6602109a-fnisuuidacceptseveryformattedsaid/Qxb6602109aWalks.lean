/-
  WALKS of the seat b6602109a: isHex (21), IsUUID (10), zzb1FormatUUID (12).
-/
import Derived.Test.Qxb6602109aRows
import Derived.WalkKit
import Derived.WalkSpells
import Derived.WalkLawsBesides
import Derived.Laws.BitsAllLaws
import Derived.Laws.IdiomStrings
import Derived.Laws.Rows
import Derived.Lib.UnsafeStr
import Derived.Lib.Strings
namespace Go.Proofs.Qxb6602109a
open Go.RowKit

theorem hide {p : Prop} (h : p) : Hid p := h
theorem unhide {p : Prop} (h : Hid p) : p := h
theorem ret_bool {a b : Bool} (h : a = b) : Ending.returned (.bool a) = .returned (.bool b) := by rw [h]

/-! ### plain -/
def hexN (n : Nat) : Prop := (48 ≤ n ∧ n ≤ 57) ∨ (97 ≤ n ∧ n ≤ 102) ∨ (65 ≤ n ∧ n ≤ 70)
def dashAt (j : Nat) : Prop := j = 8 ∨ j = 13 ∨ j = 18 ∨ j = 23
/-- Each byte is what its place asks. -/
def Good (l : List UInt8) : Prop := ∀ j (h : j < l.length), (dashAt j → l[j].toNat = 45) ∧ (¬ dashAt j → hexN l[j].toNat)

theorem Good.dash {l : List UInt8} (h : Good l) (hd : dashAt l.length) : Good (l ++ [45]) := by
  intro j hj
  by_cases e : j < l.length
  · rw [List.getElem_append_left e]
    exact h j e
  · have e2 : j = l.length := by simp at hj; omega
    subst e2
    rw [List.getElem_append_right (Nat.le_refl _)]
    simp only [Nat.sub_self, List.getElem_cons_zero]
    exact ⟨fun _ => rfl, fun h2 => absurd hd h2⟩

theorem Good.hex {l : List UInt8} (h : Good l) (hd : ¬ dashAt l.length) (c : UInt8) (hc : hexN c.toNat) : Good (l ++ [c]) := by
  intro j hj
  by_cases e : j < l.length
  · rw [List.getElem_append_left e]
    exact h j e
  · have e2 : j = l.length := by simp at hj; omega
    subst e2
    rw [List.getElem_append_right (Nat.le_refl _)]
    simp only [Nat.sub_self, List.getElem_cons_zero]
    exact ⟨fun h2 => absurd h2 hd, fun _ => hc⟩

/-- How many bytes stand behind k rounds, dashes and all. -/
def lenD (k : Nat) : Nat := 2 * k + (if 4 < k then 1 else 0) + (if 6 < k then 1 else 0) + (if 8 < k then 1 else 0) + (if 10 < k then 1 else 0)

theorem len_dash (k : Nat) (h : k = 4 ∨ k = 6 ∨ k = 8 ∨ k = 10) : dashAt (lenD k) ∧ ¬ dashAt (lenD k + 1) ∧ ¬ dashAt (lenD k + 2) ∧ lenD (k + 1) = lenD k + 3 := by
  unfold dashAt lenD
  rcases h with rfl | rfl | rfl | rfl <;> decide

theorem len_plain (k : Nat) (h : k < 16) (hn : ¬ (k = 4 ∨ k = 6 ∨ k = 8 ∨ k = 10)) : ¬ dashAt (lenD k) ∧ ¬ dashAt (lenD k + 1) ∧ lenD (k + 1) = lenD k + 2 := by
  have hk : k = 0 ∨ k = 1 ∨ k = 2 ∨ k = 3 ∨ k = 5 ∨ k = 7 ∨ k = 9 ∨ k = 11 ∨ k = 12 ∨ k = 13 ∨ k = 14 ∨ k = 15 := by omega
  unfold dashAt lenD
  rcases hk with rfl | rfl | rfl | rfl | rfl | rfl | rfl | rfl | rfl | rfl | rfl | rfl <;> decide

/-! ### isHex -/
theorem isHex_yes (c : Nat) (w : World) (h : hexN c) : Calls Try.prog 21 #[.int .u8 (c : Int)] w fun e w' => e = .returned (.bool true) ∧ w = w' := by
  rcases h with ⟨h1, h2⟩ | ⟨h1, h2⟩ | ⟨h1, h2⟩
  · have e1 : decide ((c : Int) ≤ 57) = true := decide_eq_true (by omega)
    go_enter Try.func21, Try.ntmps21
    go_wp2
    go_ret
    exact ⟨rfl, rfl⟩
  · have e1 : decide ((c : Int) ≤ 57) = false := decide_eq_false (by omega)
    have e2 : decide ((c : Int) ≤ 102) = true := decide_eq_true (by omega)
    go_enter Try.func21, Try.ntmps21
    go_wp2
    go_ret
    exact ⟨rfl, rfl⟩
  · have e1 : decide ((c : Int) ≤ 57) = false := decide_eq_false (by omega)
    have e2 : decide ((97 : Int) ≤ (c : Int)) = false := decide_eq_false (by omega)
    have e3 : decide ((c : Int) ≤ 70) = true := decide_eq_true (by omega)
    go_enter Try.func21, Try.ntmps21
    go_wp2
    go_ret
    exact ⟨rfl, rfl⟩

/-! ### IsUUID -/
theorem isUUID_no (s : ByteArray) (w : World) (h : s.size ≠ 36) : Calls Try.prog 10 #[.string s] w fun e w' => e = .returned (.bool false) ∧ w = w' := by
  have hb : ((s.size : Int) != 36) = true := by rw [bne_iff_ne]; omega
  go_enter Try.func10, Try.ntmps10
  go_wp2
  go_ret
  exact ⟨rfl, rfl⟩

set_option maxHeartbeats 2000000 in
theorem isUUID_yes (l : List UInt8) (w : World) (hn : l.length = 36) (hg : Good l) : Calls Try.prog 10 #[.string ⟨l.toArray⟩] w fun e w' => e = .returned (.bool true) ∧ w = w' := by
  obtain ⟨s, hs⟩ : ∃ s : ByteArray, s = ⟨l.toArray⟩ := ⟨_, rfl⟩
  have hsz : s.size = 36 := by rw [hs]; exact hn
  have hat : ∀ k (h : k < s.size), (dashAt k → (s[k]'h).toNat = 45) ∧ (¬ dashAt k → hexN (s[k]'h).toNat) := by
    subst hs
    intro k h
    exact hg k h
  rw [← hs]
  clear hs hg hn
  have HAT := hide hat
  have hb : ((s.size : Int) != 36) = false := by rw [hsz]; rfl
  have h36a : s.size ≤ 36 := by omega
  have h36b : 36 ≤ s.size := by omega
  clear hat hsz
  go_enter Try.func10, Try.ntmps10
  go_wp2
  go_loop [3] (fun i => ∃ k : Nat, k ≤ s.size ∧ i = .int .i64 k) (fun i => s.size - (intOf i).toNat)
  case atStart => exact ⟨0, Nat.zero_le _, rfl⟩
  case round =>
    obtain ⟨k, hk, rfl⟩ := hrel
    by_cases hlt : k < s.size
    · obtain ⟨q1, q2⟩ := unhide HAT k hlt
      by_cases hd : dashAt k
      · have hc := q1 hd
        have hc2 : (((s[k]'hlt).toNat : Int) != 45) = false := by rw [hc]; rfl
        clear q1 q2 hc
        have hcase : (((k : Int) == 8) = true) ∨ (((k : Int) == 8) = false ∧ ((k : Int) == 13) = true) ∨ (((k : Int) == 8) = false ∧ ((k : Int) == 13) = false ∧ ((k : Int) == 18) = true) ∨ (((k : Int) == 8) = false ∧ ((k : Int) == 13) = false ∧ ((k : Int) == 18) = false ∧ ((k : Int) == 23) = true) := by
          rcases hd with rfl | rfl | rfl | rfl <;> decide
        clear hd
        rcases hcase with e1 | ⟨e1, e2⟩ | ⟨e1, e2, e3⟩ | ⟨e1, e2, e3, e4⟩
        all_goals
          go_wp2
          go_round
          case rel => exact ⟨k + 1, by omega, by go_num⟩
          case measure => simp [intOf]; omega
      · have hx := q2 hd
        have HX := hide (isHex_yes _ w hx)
        have e1 : ((k : Int) == 8) = false := beq_eq_false_iff_ne.2 (fun h => hd (.inl (by omega)))
        have e2 : ((k : Int) == 13) = false := beq_eq_false_iff_ne.2 (fun h => hd (.inr (.inl (by omega))))
        have e3 : ((k : Int) == 18) = false := beq_eq_false_iff_ne.2 (fun h => hd (.inr (.inr (.inl (by omega)))))
        have e4 : ((k : Int) == 23) = false := beq_eq_false_iff_ne.2 (fun h => hd (.inr (.inr (.inr (by omega)))))
        clear q1 q2 hx hd
        go_wp2_with fail
        refine (unhide HX).mono ?_
        rintro e w' ⟨rfl, rfl⟩
        go_wp2
        go_round
        case rel => exact ⟨k + 1, by omega, by go_num⟩
        case measure => simp [intOf]; omega
    · go_wp2
      go_ret
      exact ⟨rfl, rfl⟩

end Go.Proofs.Qxb6602109a
