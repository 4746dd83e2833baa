/-
  PLAIN LAWS for the seat b6602060a: no Go in sight but the library's own 'Lib.idxFunc' (strings.IndexFunc's answer) and 'Lib.lowerB'.
-/
import Derived.Shelf.GgClosure.StringsIndexFunc
import Derived.Lib.Case
import Derived.Lib.DecodeN
import Derived.Lib.TrimU
import Derived.Lib.Strings
namespace Go.Proofs.Qxb6602060a.Plain

/-- asciiLower's predicate on a rune. -/
def capR (x : Nat) : Bool := decide (65 ≤ x) && decide (x ≤ 90)

/-- The decoder at an ASCII byte. -/
theorem decodeN_ascii (n b0 b1 b2 b3 : Nat) (h : b0 < 128) : Lib.decodeN n b0 b1 b2 b3 = (b0, 1) := by
  unfold Lib.decodeN
  rw [if_pos h]

/-- The decoder at a byte beyond ASCII: the rune is no ASCII rune; what it takes in besides is no ASCII byte. -/
theorem decodeN_high (n b0 b1 b2 b3 : Nat) (h : ¬ b0 < 128) :
    128 ≤ (Lib.decodeN n b0 b1 b2 b3).1 ∧ (1 < (Lib.decodeN n b0 b1 b2 b3).2 → 128 ≤ b1) ∧ (2 < (Lib.decodeN n b0 b1 b2 b3).2 → 128 ≤ b2) ∧ (3 < (Lib.decodeN n b0 b1 b2 b3).2 → 128 ≤ b3) ∧ (Lib.decodeN n b0 b1 b2 b3).2 ≤ 4 := by
  unfold Lib.decodeN
  rw [if_neg h]
  repeat' split
  all_goals (refine ⟨?_, ?_, ?_, ?_, ?_⟩ <;> simp only <;> omega)

theorem decode_ascii (s : ByteArray) (pos : Nat) (h : (s.get! pos).toNat < 128) : Utf8.decode s pos = ((s.get! pos).toNat, 1) := by
  rw [Lib.decode_at]
  exact decodeN_ascii _ _ _ _ _ h

theorem decode_high (s : ByteArray) (pos : Nat) (h : ¬ (s.get! pos).toNat < 128) :
    128 ≤ (Utf8.decode s pos).1 ∧ ∀ j, pos ≤ j → j < pos + (Utf8.decode s pos).2 → 128 ≤ (s.get! j).toNat := by
  rw [Lib.decode_at]
  obtain ⟨h1, h2, h3, h4, h5⟩ := decodeN_high (s.size - pos) (s.get! pos).toNat (s.get! (pos + 1)).toNat (s.get! (pos + 2)).toNat (s.get! (pos + 3)).toNat h
  generalize Lib.decodeN (s.size - pos) (s.get! pos).toNat (s.get! (pos + 1)).toNat (s.get! (pos + 2)).toNat (s.get! (pos + 3)).toNat = d at *
  refine ⟨h1, fun j hj hk => ?_⟩
  have hc : j = pos ∨ j = pos + 1 ∨ j = pos + 2 ∨ j = pos + 3 := by omega
  rcases hc with rfl | rfl | rfl | rfl
  · omega
  · exact h2 (by omega)
  · exact h3 (by omega)
  · exact h4 (by omega)

/-- No ASCII capital among the bytes from a to b. -/
def noCap (s : ByteArray) (a b : Nat) : Prop := ∀ j, a ≤ j → j < b → Lib.isUpperB (s.get! j) = false

theorem isUpperB_nat (b : UInt8) : Lib.isUpperB b = capR b.toNat := by
  unfold Lib.isUpperB capR
  rw [Bool.eq_iff_iff]
  simp [UInt8.le_iff_toNat_le]

theorem noCap_high (b : UInt8) (h : 128 ≤ b.toNat) : Lib.isUpperB b = false := by
  rw [isUpperB_nat]
  unfold capR
  simp
  omega

theorem idx_from (s : ByteArray) : ∀ (f pos : Nat), s.size ≤ pos + f →
    (Lib.idxFuncFrom capR true s f pos = -1 → noCap s pos s.size) ∧
    (∀ i : Nat, Lib.idxFuncFrom capR true s f pos = (i : Int) → noCap s pos i)
  | 0, pos, h => by
    refine ⟨fun _ j h1 h2 => by omega, fun i hi => ?_⟩
    simp only [Lib.idxFuncFrom] at hi
    omega
  | f + 1, pos, h => by
    unfold Lib.idxFuncFrom
    by_cases hp : pos < s.size
    · rw [if_pos hp]
      by_cases hc : capR (Utf8.decode s pos).1 = true
      · rw [if_pos hc]
        refine ⟨fun e => by omega, fun i hi j h1 h2 => by omega⟩
      · rw [if_neg hc]
        have key : noCap s pos (pos + (Utf8.decode s pos).2) ∧ 1 ≤ (Utf8.decode s pos).2 := by
          by_cases ha : (s.get! pos).toNat < 128
          · rw [decode_ascii s pos ha] at hc ⊢
            refine ⟨fun j h1 h2 => ?_, Nat.le_refl _⟩
            obtain rfl : j = pos := by simp only at h2; omega
            rw [isUpperB_nat]
            simpa using hc
          · obtain ⟨_, h2⟩ := decode_high s pos ha
            exact ⟨fun j h1 h3 => noCap_high _ (h2 j h1 h3), by rw [Lib.decode_at]; exact Lib.decodeN_ge1 _ _ _ _ _⟩
        obtain ⟨k1, k2⟩ := key
        obtain ⟨r1, r2⟩ := idx_from s f (pos + (Utf8.decode s pos).2) (by omega)
        refine ⟨fun e j h1 h2 => ?_, fun i hi j h1 h2 => ?_⟩
        · by_cases hj : j < pos + (Utf8.decode s pos).2
          · exact k1 j h1 hj
          · exact r1 e j (by omega) h2
        · by_cases hj : j < pos + (Utf8.decode s pos).2
          · exact k1 j h1 hj
          · exact r2 i hi j (by omega) h2
    · rw [if_neg hp]
      exact ⟨fun _ j h1 h2 => by omega, fun i hi => by omega⟩

theorem idx_neg (s : ByteArray) (h : Lib.idxFunc capR true s = -1) : noCap s 0 s.size := (idx_from s s.size 0 (by omega)).1 h
theorem idx_pos (s : ByteArray) (i : Nat) (h : Lib.idxFunc capR true s = (i : Int)) : noCap s 0 i := (idx_from s s.size 0 (by omega)).2 i h

/-- What asciiLower answers. -/
def low (s : ByteArray) : ByteArray := ⟨(s.data.toList.map Lib.lowerB).toArray⟩

theorem get!_of (s : ByteArray) (j : Nat) (b : UInt8) (h : s.data.toList[j]? = some b) : s.get! j = b := by
  obtain ⟨d⟩ := s
  simp only [Array.getElem?_toList] at h
  show d[j]! = b
  rw [Array.getElem!_eq_getD, Array.getD_eq_getD_getElem?, h]
  rfl

theorem any_take (s : ByteArray) (n : Nat) (h : noCap s 0 n) : (s.data.toList.take n).any Lib.isUpperB = false := by
  rw [List.any_eq_false]
  intro b hb
  obtain ⟨j, hj, rfl⟩ := List.mem_iff_getElem.1 hb
  have hj' : j < n := by rw [List.length_take] at hj; omega
  have hj2 : j < s.data.toList.length := by rw [List.length_take] at hj; omega
  have e : (s.data.toList.take n)[j] = s.data.toList[j] := List.getElem_take
  rw [e, ← get!_of s j s.data.toList[j] (List.getElem?_eq_getElem hj2)]
  simp [h j (Nat.zero_le _) hj']

theorem low_neg (s : ByteArray) (h : Lib.idxFunc capR true s = -1) : low s = s := by
  have h1 := any_take s s.size (idx_neg s h)
  rw [Lib.size_eq, List.take_length] at h1
  unfold low
  rw [Lib.map_of_none Lib.lowerB Lib.isUpperB Lib.lowerB_of_not _ h1, Lib.mk_data]

theorem take_pos (s : ByteArray) (i : Nat) (h : Lib.idxFunc capR true s = (i : Int)) : (s.data.toList.take i).map Lib.lowerB = s.data.toList.take i :=
  Lib.map_of_none Lib.lowerB Lib.isUpperB Lib.lowerB_of_not _ (any_take s i (idx_pos s i h))

theorem low_size (s : ByteArray) : (low s).size = s.size := by
  show ((s.data.toList.map Lib.lowerB).toArray).size = _
  simp

theorem low_list (s : ByteArray) : (low s).data.toList = s.data.toList.map Lib.lowerB := by simp [low]


/-! ### bytes as numbers -/
def lowN (n : Nat) : Nat := if 65 ≤ n ∧ n ≤ 90 then n + 32 else n

theorem lowerB_nat (b : UInt8) : (Lib.lowerB b).toNat = lowN b.toNat := by
  unfold lowN
  by_cases h : Lib.isUpperB b = true
  · have h1 := Lib.lowerB_int b h
    rw [isUpperB_nat] at h
    unfold capR at h
    simp at h
    rw [if_pos h]
    omega
  · have h' : Lib.isUpperB b = false := by simpa using h
    rw [Lib.lowerB_of_not b h']
    rw [isUpperB_nat] at h
    unfold capR at h
    simp at h
    rw [if_neg (by omega)]

theorem xor_cap : ∀ n, n < 256 → 65 ≤ n → n ≤ 90 → n ^^^ 32 = n + 32 := by decide +kernel

theorem fold_iff : ∀ a, a < 256 → ∀ b, b < 256 → (lowN a = lowN b ↔ (a = b ∨ (a ^^^ b = 32 ∧ 97 ≤ a ||| 32 ∧ a ||| 32 ≤ 122))) := by decide +kernel

theorem low_low (s : ByteArray) : low (low s) = low s := by
  unfold low
  have e : ∀ b, Lib.lowerB (Lib.lowerB b) = Lib.lowerB b := by
    intro b
    apply UInt8.toNat_inj.1
    rw [lowerB_nat, lowerB_nat]
    unfold lowN
    repeat' split
    all_goals omega
  simp [e]

/-- zzHasCapital's answer. -/
def hasCap (s : ByteArray) : Bool := s.data.toList.any Lib.isUpperB

theorem low_eq_iff (s : ByteArray) : (low s).data.toList = s.data.toList ↔ hasCap s = false := by
  rw [low_list]
  unfold hasCap
  constructor
  · intro h
    rw [List.any_eq_false]
    intro b hb hu
    obtain ⟨j, hj, rfl⟩ := List.mem_iff_getElem.1 hb
    have h1 : (s.data.toList.map Lib.lowerB)[j]'(by simpa using hj) = s.data.toList[j] := by simp only [h]
    rw [List.getElem_map] at h1
    have h2 := Lib.lowerB_int _ hu
    rw [h1] at h2
    omega
  · exact Lib.map_of_none Lib.lowerB Lib.isUpperB Lib.lowerB_of_not _

end Go.Proofs.Qxb6602060a.Plain
