/-
  WALKS of the seat's small functions: zzBytes_* (6, 9, 11), zzLowerByte (8), zzFoldEqual (10), zzHasCapital (12), asciiLower's closure (15).
-/
import Derived.Test.Qxb6602060aRows
import Derived.Test.Qxb6602060aPlain
import Derived.WalkKit
import Derived.WalkSpells
import Derived.WalkLawsBesides
import Derived.Laws.BitsAllLaws
import Derived.Shelf.GgClosure.Gives
namespace Go.Proofs.Qxb6602060a
open Go.RowKit

theorem hide {p : Prop} (h : p) : Hid p := h
theorem unhide {p : Prop} (h : Hid p) : p := h

/-! ### the bounds on lengths -/
theorem bytes6_yes (s : ByteArray) (w : World) (h : s.size ≤ 1048576) :
    Calls Try.prog 6 #[.string s] w fun e w' => e = .returned (.bool true) ∧ w = w' := by
  go_enter Try.func6, Try.ntmps6
  go_wp2
  go_ret
  exact ⟨rfl, rfl⟩

theorem bytes6_no (s : ByteArray) (w : World) (h : 1048576 < s.size) :
    Calls Try.prog 6 #[.string s] w fun e w' => e = .returned (.bool false) ∧ w = w' := by
  go_enter Try.func6, Try.ntmps6
  go_wp2
  go_ret
  exact ⟨rfl, rfl⟩

theorem bytes11_yes (s : ByteArray) (w : World) (h : s.size ≤ 1048576) :
    Calls Try.prog 11 #[.string s] w fun e w' => e = .returned (.bool true) ∧ w = w' := by
  go_enter Try.func11, Try.ntmps11
  go_wp2
  go_ret
  exact ⟨rfl, rfl⟩

theorem bytes11_no (s : ByteArray) (w : World) (h : 1048576 < s.size) :
    Calls Try.prog 11 #[.string s] w fun e w' => e = .returned (.bool false) ∧ w = w' := by
  go_enter Try.func11, Try.ntmps11
  go_wp2
  go_ret
  exact ⟨rfl, rfl⟩

theorem bytes9_any (s t : ByteArray) (w : World) (_hs : s.size ≤ maxLen) (_ht : t.size ≤ maxLen) :
    Calls Try.prog 9 #[.string s, .string t] w fun e w' => (∃ b, e = .returned (.bool b)) ∧ w = w' := by
  unfold maxLen at _hs _ht
  by_cases h1 : s.size ≤ 1048576
  · by_cases h2 : t.size ≤ 1048576
    · by_cases h3 : s.size + t.size ≤ 1048576
      · go_enter Try.func9, Try.ntmps9
        go_wp2
        go_ret
        exact ⟨⟨_, rfl⟩, rfl⟩
      · go_enter Try.func9, Try.ntmps9
        go_wp2
        go_ret
        exact ⟨⟨_, rfl⟩, rfl⟩
    · go_enter Try.func9, Try.ntmps9
      go_wp2
      go_ret
      exact ⟨⟨_, rfl⟩, rfl⟩
  · go_enter Try.func9, Try.ntmps9
    go_wp2
    go_ret
    exact ⟨⟨_, rfl⟩, rfl⟩

/-! ### zzLowerByte -/
theorem lowerByte (c : UInt8) (w : World) :
    Calls Try.prog 8 #[.int .u8 (c.toNat : Int)] w fun e w' => e = .returned (.int .u8 ((Lib.lowerB c).toNat : Int)) ∧ w' = w := by
  have hc : c.toNat < 256 := c.toNat_lt
  by_cases h : 65 ≤ c.toNat ∧ c.toNat ≤ 90
  · obtain ⟨h1, h2⟩ := h
    have hx := u8_xor_nat c.toNat 32 hc (by omega)
    have hv : ((Lib.lowerB c).toNat : Int) = ((c.toNat ^^^ 32 : Nat) : Int) := by
      rw [Plain.lowerB_nat, Plain.lowN, if_pos ⟨h1, h2⟩, Plain.xor_cap _ hc h1 h2]
    rw [hv, ← hx]
    clear hx hv
    go_enter Try.func8, Try.ntmps8
    go_wp2
    go_ret
    exact ⟨rfl, rfl⟩
  · have hv : ((Lib.lowerB c).toNat : Int) = (c.toNat : Int) := by
      rw [Plain.lowerB_nat, Plain.lowN, if_neg h]
    rw [hv]
    clear hv
    by_cases h1 : 65 ≤ c.toNat
    · have h2 : ¬ c.toNat ≤ 90 := by omega
      go_enter Try.func8, Try.ntmps8
      go_wp2
      go_ret
      exact ⟨rfl, rfl⟩
    · go_enter Try.func8, Try.ntmps8
      go_wp2
      go_ret
      exact ⟨rfl, rfl⟩

/-! ### asciiLower's closure -/
theorem ret_bool {a b : Bool} (h : a = b) : Ending.returned (.bool a) = .returned (.bool b) := by rw [h]

theorem closure15 (x : Nat) (w : World) :
    Calls Try.prog 15 #[.int .i32 (x : Int)] w fun e w' => e = .returned (.bool (Plain.capR x)) ∧ w' = w := by
  by_cases h1 : 65 ≤ x
  · have e : Plain.capR x = decide ((x : Int) ≤ 90) := by
      unfold Plain.capR
      rw [Bool.eq_iff_iff]
      simp
      omega
    rw [e]
    clear e
    go_enter Try.func15, Try.ntmps15
    go_wp2
    go_ret
    exact ⟨rfl, rfl⟩
  · have e : Plain.capR x = false := by simp [Plain.capR]; omega
    rw [e]
    clear e
    go_enter Try.func15, Try.ntmps15
    go_wp2
    go_ret
    exact ⟨rfl, rfl⟩

theorem pred15 (w : World) : PredAt Try.prog 15 #[] encR Plain.capR w := fun W x _ => by
  have e : (#[encR x] ++ #[] : Array Value) = #[.int .i32 (x : Int)] := by simp [encR]
  unfold FnGives
  rw [e]
  refine (closure15 x W).mono ?_
  rintro e w' ⟨rfl, rfl⟩
  exact ⟨rfl, 0, rfl⟩

/-! ### zzHasCapital -/
theorem getS (s : ByteArray) (k : Nat) (h : k < s.size) : s.data.toList[k]? = some (s[k]'h) := by
  rw [Array.getElem?_toList]
  exact Array.getElem?_eq_getElem h

set_option maxHeartbeats 400000 in
theorem hasCapital (s : ByteArray) (w : World) (hs : s.size ≤ maxLen) :
    Calls Try.prog 12 #[.string s] w fun e w' => e = .returned (.bool (Plain.hasCap s)) ∧ w = w' := by
  unfold maxLen at hs
  go_enter Try.func12, Try.ntmps12
  go_wp2
  go_loop [3] (fun i => ∃ k : Nat, k ≤ s.size ∧ i = .int .i64 k ∧ Hid ((s.data.toList.take k).any Lib.isUpperB = false)) (fun i => s.size - (intOf i).toNat)
  case atStart => exact ⟨0, Nat.zero_le _, rfl, rfl⟩
  case round =>
    obtain ⟨k, hk, rfl, HN⟩ := hrel
    by_cases hlt : k < s.size
    · have hb := getS s k hlt
      have hnext := Lib.any_take_succ Lib.isUpperB s.data.toList k _ hb
      rw [HN.out, Plain.isUpperB_nat, Plain.capR] at hnext
      have Hn : Hid ((s.data.toList.take (k + 1)).any Lib.isUpperB = (false || (decide (65 ≤ (s[k]'hlt).toNat) && decide ((s[k]'hlt).toNat ≤ 90)))) := hnext
      clear hb hnext
      by_cases h1 : 65 ≤ (s[k]'hlt).toNat
      · by_cases h2 : (s[k]'hlt).toNat ≤ 90
        · have hyes : Hid (Plain.hasCap s = true) := by
            have := Hn.out
            unfold Plain.hasCap
            simp only [h1, h2, decide_true, Bool.and_self, Bool.or_true] at this
            unfold Hid
            rw [List.any_eq_true] at this ⊢
            obtain ⟨x, hx, hu⟩ := this
            exact ⟨x, List.mem_of_mem_take hx, hu⟩
          go_wp2
          go_ret
          exact ⟨ret_bool hyes.out.symm, rfl⟩
        · have Hz : Hid ((s.data.toList.take (k + 1)).any Lib.isUpperB = false) := Hn.out.trans (by simp [h2])
          go_wp2
          go_round
          case rel => exact ⟨k + 1, by omega, by go_num, Hz⟩
          case measure => simp [intOf]; omega
      · have Hz : Hid ((s.data.toList.take (k + 1)).any Lib.isUpperB = false) := Hn.out.trans (by simp [h1])
        go_wp2
        go_round
        case rel => exact ⟨k + 1, by omega, by go_num, Hz⟩
        case measure => simp [intOf]; omega
    · have hall : Hid (Plain.hasCap s = false) := by
        have := HN.out
        unfold Plain.hasCap
        rwa [List.take_of_length_le (by rw [← Lib.size_eq]; omega)] at this
      go_wp2
      go_ret
      exact ⟨ret_bool hall.out.symm, rfl⟩

/-! ### zzFoldEqual -/
theorem list_map_eq_of (f : UInt8 → UInt8) (l m : List UInt8) (hlen : l.length = m.length) (h : ∀ j (h1 : j < l.length) (h2 : j < m.length), f l[j] = f m[j]) : l.map f = m.map f := by
  apply List.ext_getElem (by simpa using hlen)
  intro j h1 h2
  rw [List.getElem_map, List.getElem_map]
  exact h j (by simpa using h1) (by simpa using h2)

theorem low_eq_of (s t : ByteArray) (hn : s.size = t.size) (h : ∀ j (h1 : j < s.size) (h2 : j < t.size), Plain.lowN s[j].toNat = Plain.lowN t[j].toNat) : Plain.low s = Plain.low t := by
  unfold Plain.low
  congr 2
  refine list_map_eq_of Lib.lowerB _ _ (by rw [← Lib.size_eq, ← Lib.size_eq]; exact hn) (fun j h1 h2 => ?_)
  apply UInt8.toNat_inj.1
  rw [Plain.lowerB_nat, Plain.lowerB_nat]
  exact h j (by rw [Lib.size_eq]; exact h1) (by rw [Lib.size_eq]; exact h2)

theorem low_ne_of (s t : ByteArray) (j : Nat) (h1 : j < s.size) (h2 : j < t.size) (h : Plain.lowN s[j].toNat ≠ Plain.lowN t[j].toNat) : ¬ Plain.low s = Plain.low t := by
  intro e
  have e1 : s.data.toList.map Lib.lowerB = t.data.toList.map Lib.lowerB := by rw [← Plain.low_list, ← Plain.low_list, e]
  have e2 : (s.data.toList.map Lib.lowerB)[j]? = (t.data.toList.map Lib.lowerB)[j]? := by rw [e1]
  rw [List.getElem?_map, List.getElem?_map, getS s j h1, getS t j h2] at e2
  simp only [Option.map_some, Option.some.injEq] at e2
  apply h
  rw [← Plain.lowerB_nat, ← Plain.lowerB_nat, e2]

theorem low_ne_size (s t : ByteArray) (h : ¬ s.size = t.size) : ¬ Plain.low s = Plain.low t := by
  intro e
  apply h
  rw [← Plain.low_size s, ← Plain.low_size t, e]

set_option maxHeartbeats 1000000 in
theorem foldEqual (s t : ByteArray) (w : World) (_hs : s.size ≤ maxLen) (ht : t.size ≤ maxLen) :
    Calls Try.prog 10 #[.string s, .string t] w fun e w' => e = .returned (.bool (decide (Plain.low s = Plain.low t))) ∧ w = w' := by
  unfold maxLen at _hs ht
  by_cases hn : s.size = t.size
  · have hnb : ((s.size : Int) != (t.size : Int)) = false := by simp [hn]
    have HN : Hid (s.size = t.size) := hn
    have hst : s.size ≤ t.size := by omega
    clear hn
    go_enter Try.func10, Try.ntmps10
    go_wp2
    go_loop [5] (fun i => ∃ k : Nat, k ≤ s.size ∧ i = .int .i64 k ∧ Hid (∀ j (h1 : j < s.size) (h2 : j < t.size), j < k → Plain.lowN s[j].toNat = Plain.lowN t[j].toNat)) (fun i => s.size - (intOf i).toNat)
    case atStart => exact ⟨0, Nat.zero_le _, rfl, fun j _ _ h => by omega⟩
    case round =>
      obtain ⟨k, hk, rfl, HF⟩ := hrel
      by_cases hlt : k < s.size
      · have hlt2 : k < t.size := by omega
        have hA : (s[k]'hlt).toNat < 256 := UInt8.toNat_lt _
        have hB : (t[k]'hlt2).toNat < 256 := UInt8.toNat_lt _
        have HI := Plain.fold_iff _ hA _ hB
        have hxo := u8_xor_nat _ _ hA hB
        have hor : bits .or .u8 ((s[k]'hlt).toNat : Int) 32 = (((s[k]'hlt).toNat ||| 32 : Nat) : Int) := u8_or_nat _ 32 hA (by omega)
        have HO : Hid (Plain.lowN (s[k]'hlt).toNat = Plain.lowN (t[k]'hlt2).toNat → ∀ j (h1 : j < s.size) (h2 : j < t.size), j < k + 1 → Plain.lowN s[j].toNat = Plain.lowN t[j].toNat) := by
          intro h j h1 h2 hj
          by_cases e : j = k
          · subst e; exact h
          · exact HF.out j h1 h2 (by omega)
        generalize hX : (s[k]'hlt).toNat ^^^ (t[k]'hlt2).toNat = X at HI hxo
        generalize hO : (s[k]'hlt).toNat ||| 32 = O at HI hor
        clear hX hO
        have HN' : Hid (¬ Plain.lowN (s[k]'hlt).toNat = Plain.lowN (t[k]'hlt2).toNat → ¬ Plain.low s = Plain.low t) := low_ne_of s t k hlt hlt2
        have HI' := hide HI
        clear HI
        by_cases h1 : (s[k]'hlt).toNat = (t[k]'hlt2).toNat
        · have hb1 : (((s[k]'hlt).toNat : Int) == ((t[k]'hlt2).toNat : Int)) = true := by simp [h1]
          have Hz := hide (HO.out (by rw [h1]))
          clear h1
          go_wp2
          go_round
          case rel => exact ⟨k + 1, by omega, by go_num, unhide Hz⟩
          case measure => simp [intOf]; omega
        · have hb1 : (((s[k]'hlt).toNat : Int) == ((t[k]'hlt2).toNat : Int)) = false := by simp; omega
          by_cases h2 : X = 32
          · have hb2 : ((X : Int) != 32) = false := by simp [h2]
            by_cases h3 : 97 ≤ O
            · by_cases h4 : O ≤ 122
              · have Hz := hide (HO.out ((unhide HI').2 (Or.inr ⟨h2, h3, h4⟩)))
                clear h1 h2
                go_wp2
                go_round
                case rel => exact ⟨k + 1, by omega, by go_num, unhide Hz⟩
                case measure => simp [intOf]; omega
              · have Hz := hide (HN'.out (fun h => by rcases (unhide HI').1 h with h' | h' <;> omega))
                clear h1 h2
                go_wp2
                go_ret
                exact ⟨ret_bool (decide_eq_false (unhide Hz)).symm, rfl⟩
            · have Hz := hide (HN'.out (fun h => by rcases (unhide HI').1 h with h' | h' <;> omega))
              clear h1 h2
              go_wp2
              go_ret
              exact ⟨ret_bool (decide_eq_false (unhide Hz)).symm, rfl⟩
          · have hb2 : ((X : Int) != 32) = true := by simp; omega
            have Hz := hide (HN'.out (fun h => by rcases (unhide HI').1 h with h' | h' <;> omega))
            clear h1 h2
            go_wp2
            go_ret
            exact ⟨ret_bool (decide_eq_false (unhide Hz)).symm, rfl⟩
      · have hall : Hid (Plain.low s = Plain.low t) := low_eq_of s t HN.out (fun j h1 h2 => HF.out j h1 h2 (by omega))
        go_wp2
        go_ret
        exact ⟨ret_bool (decide_eq_true hall.out).symm, rfl⟩
  · have hnb : ((s.size : Int) != (t.size : Int)) = true := by simp; omega
    have hno : Hid (¬ Plain.low s = Plain.low t) := low_ne_size s t hn
    clear hn
    go_enter Try.func10, Try.ntmps10
    go_wp2
    go_ret
    exact ⟨ret_bool (decide_eq_false hno.out).symm, rfl⟩

end Go.Proofs.Qxb6602060a
