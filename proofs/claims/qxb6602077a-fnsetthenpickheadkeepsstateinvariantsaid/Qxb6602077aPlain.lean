/-
  PLAIN LAWS of the seat b6602077a: refs as a list of pairs (name, id); no Go in sight but the order on bytes.
-/
import Derived.Lib.Bytealg
import Derived.Lib.Strings
namespace Go.Proofs.Qxb6602077a.Plain

/-! ### the order on bytes -/
theorem bl_irrefl : ∀ x : List UInt8, Op.bytesLess x x = false
  | [] => rfl
  | a :: x => by simp [Op.bytesLess, bl_irrefl x]

theorem bl_trans : ∀ x y z : List UInt8, Op.bytesLess x y = true → Op.bytesLess y z = true → Op.bytesLess x z = true
  | _, [], _, h, _ => by simp [Op.bytesLess] at h
  | _, _ :: _, [], _, h => by simp [Op.bytesLess] at h
  | [], _ :: _, _ :: _, _, _ => rfl
  | a :: x, b :: y, c :: z, h1, h2 => by
    simp only [Op.bytesLess, Bool.or_eq_true, decide_eq_true_eq, Bool.and_eq_true, beq_iff_eq] at h1 h2 ⊢
    rcases h1 with h1 | ⟨rfl, h1⟩
    · rcases h2 with h2 | ⟨rfl, h2⟩
      · exact .inl (UInt8.lt_trans h1 h2)
      · exact .inl h1
    · rcases h2 with h2 | ⟨rfl, h2⟩
      · exact .inl h2
      · exact .inr ⟨rfl, bl_trans x y z h1 h2⟩

theorem bl_asymm (x y : List UInt8) (h : Op.bytesLess x y = true) : Op.bytesLess y x = false := by
  cases h2 : Op.bytesLess y x
  · rfl
  · have := bl_trans x y x h h2
    rw [bl_irrefl] at this
    cases this

theorem bl_total : ∀ x y : List UInt8, Op.bytesLess x y = false → Op.bytesLess y x = false → x = y
  | [], [], _, _ => rfl
  | [], _ :: _, h, _ => by simp [Op.bytesLess] at h
  | _ :: _, [], _, h => by simp [Op.bytesLess] at h
  | a :: x, b :: y, h1, h2 => by
    simp only [Op.bytesLess, Bool.or_eq_false_iff, decide_eq_false_iff_not, Bool.and_eq_false_iff, beq_eq_false_iff_ne] at h1 h2
    have e : a = b := by
      apply UInt8.toNat_inj.1
      have h3 := h1.1
      have h4 := h2.1
      rw [UInt8.lt_iff_toNat_lt] at h3 h4
      omega
    subst e
    rw [bl_total x y (h1.2.resolve_left (by simp)) (h2.2.resolve_left (by simp))]

theorem cmp_neg : ∀ x y : List UInt8, (Lib.compareBytes x y < 0) = (Op.bytesLess x y = true)
  | [], [] => by simp [Lib.compareBytes, Op.bytesLess]
  | [], _ :: _ => by simp [Lib.compareBytes, Op.bytesLess]
  | _ :: _, [] => by simp [Lib.compareBytes, Op.bytesLess]
  | a :: x, b :: y => by
    have ih := cmp_neg x y
    unfold Lib.compareBytes Op.bytesLess
    by_cases h1 : a < b
    · simp [h1]
    · by_cases h2 : b < a
      · have h3 : ¬ a = b := by rintro rfl; exact h1 h2
        simp [h1, h2, h3]
      · have e : a = b := by
          apply UInt8.toNat_inj.1
          rw [UInt8.lt_iff_toNat_lt] at h1 h2
          omega
        subst e
        simp [h1, ih]

theorem cmp_zero : ∀ x y : List UInt8, (Lib.compareBytes x y = 0) = (x = y)
  | [], [] => by simp [Lib.compareBytes]
  | [], _ :: _ => by simp [Lib.compareBytes]
  | _ :: _, [] => by simp [Lib.compareBytes]
  | a :: x, b :: y => by
    have ih := cmp_zero x y
    unfold Lib.compareBytes
    by_cases h1 : a < b
    · have h3 : ¬ a = b := by rintro rfl; exact absurd h1 (UInt8.lt_irrefl _)
      simp [h1, h3]
    · by_cases h2 : b < a
      · have h3 : ¬ a = b := by rintro rfl; exact h1 h2
        simp [h1, h2, h3]
      · have e : a = b := by
          apply UInt8.toNat_inj.1
          rw [UInt8.lt_iff_toNat_lt] at h1 h2
          omega
        subst e
        simp [h1, ih]

/-! ### refs -/
/-- A ref: its name and its id. -/
abbrev R := ByteArray × ByteArray

def rf (l : List R) (k : Nat) : R := l.getD k (.empty, .empty)
def nm (l : List R) (k : Nat) : ByteArray := (rf l k).1
def id (l : List R) (k : Nat) : ByteArray := (rf l k).2
/-- A name's bytes. -/
def by' (x : ByteArray) : List UInt8 := x.data.toList

theorem rf_eq (l : List R) (k : Nat) (h : k < l.length) : rf l k = l[k] := by simp [rf, h]

theorem any_true (p : R → Bool) (l : List R) (k : Nat) (h : k < l.length) (hp : p (rf l k) = true) : l.any p = true := by
  rw [List.any_eq_true]
  rw [rf_eq l k h] at hp
  exact ⟨l[k], List.getElem_mem h, hp⟩

theorem any_false (p : R → Bool) (l : List R) (h : ∀ k, k < l.length → p (rf l k) = false) : l.any p = false := by
  rw [List.any_eq_false]
  intro r hr
  obtain ⟨k, hk, rfl⟩ := List.mem_iff_getElem.1 hr
  rw [← rf_eq l k hk, h k hk]
  simp

/-- Names strictly ascending. -/
def Asc (l : List R) : Prop := ∀ k, k + 1 < l.length → Op.bytesLess (by' (nm l k)) (by' (nm l (k + 1))) = true

theorem Asc.lt {l : List R} (h : Asc l) (i : Nat) : ∀ j, i < j → j < l.length → Op.bytesLess (by' (nm l i)) (by' (nm l j)) = true
  | 0, h1, _ => by omega
  | j + 1, h1, h2 => by
    by_cases e : i = j
    · subst e; exact h i h2
    · exact bl_trans _ _ _ (h.lt i j (by omega) (by omega)) (h j h2)

/-- sortedB1's answer. -/
def ascB (l : List R) : Bool := (List.range (l.length - 1)).all fun k => Op.bytesLess (by' (nm l k)) (by' (nm l (k + 1)))

theorem ascB_iff (l : List R) : ascB l = true ↔ Asc l := by
  unfold ascB Asc
  simp only [List.all_eq_true, List.mem_range]
  exact ⟨fun h k hk => h k (by omega), fun h k hk => h k (by omega)⟩

theorem ascB_no (l : List R) (k : Nat) (h : k + 1 < l.length) (hn : Op.bytesLess (by' (nm l k)) (by' (nm l (k + 1))) = false) : ascB l = false := by
  cases e : ascB l
  · rfl
  · have := (ascB_iff l).1 e k h
    rw [hn] at this
    cases this

/-- hasNameB1's answer. -/
def hasName (l : List R) (x : ByteArray) : Bool := l.any fun r => by' r.1 == by' x

theorem hasName_yes (l : List R) (x : ByteArray) (k : Nat) (h : k < l.length) (e : by' (nm l k) = by' x) : hasName l x = true :=
  any_true _ l k h (by simpa [nm] using e)
theorem hasName_no (l : List R) (x : ByteArray) (h : ∀ k, k < l.length → by' (nm l k) ≠ by' x) : hasName l x = false :=
  any_false _ l (fun k hk => by simpa [nm] using h k hk)
theorem hasName_at (l : List R) (x : ByteArray) (h : hasName l x = true) : ∃ k, k < l.length ∧ by' (nm l k) = by' x := by
  unfold hasName at h
  rw [List.any_eq_true] at h
  obtain ⟨r, hr, e⟩ := h
  obtain ⟨k, hk, rfl⟩ := List.mem_iff_getElem.1 hr
  exact ⟨k, hk, by rw [nm, rf_eq l k hk]; simpa using e⟩

/-- idsSetB1's answer. -/
def idsSet (l : List R) : Bool := !(l.any fun r => (by' r.2).isEmpty)

/-- How many names lie ahead of x. -/
def pos (l : List R) (x : ByteArray) : Nat := l.countP fun r => Op.bytesLess (by' r.1) (by' x)

theorem countP_at (p : R → Bool) : ∀ (l : List R) (i : Nat), i ≤ l.length → (∀ t, t < i → p (rf l t) = true) → (∀ t, i ≤ t → t < l.length → p (rf l t) = false) → l.countP p = i
  | [], i, hi, _, _ => by simp at hi; simp [hi]
  | a :: r, 0, _, _, h2 => by
    rw [List.countP_eq_zero]
    intro x hx
    obtain ⟨t, ht, rfl⟩ := List.getElem_of_mem hx
    have := h2 t (Nat.zero_le _) ht
    rw [rf_eq _ t ht] at this
    simp [this]
  | a :: r, i + 1, hi, h1, h2 => by
    have ha : p a = true := by simpa [rf] using h1 0 (Nat.succ_pos _)
    rw [List.countP_cons_of_pos ha, countP_at p r i (by simpa using hi) (fun t ht => by simpa [rf] using h1 (t + 1) (by omega)) (fun t h3 h4 => by simpa [rf] using h2 (t + 1) (by omega) (by simpa using h4))]

theorem pos_eq (l : List R) (x : ByteArray) (i : Nat) (hi : i ≤ l.length) (h1 : ∀ t, t < i → Op.bytesLess (by' (nm l t)) (by' x) = true) (h2 : ∀ t, i ≤ t → t < l.length → Op.bytesLess (by' (nm l t)) (by' x) = false) : pos l x = i :=
  countP_at _ l i hi h1 h2

theorem pos_le (l : List R) (x : ByteArray) : pos l x ≤ l.length := List.countP_le_length

/-- What lies ahead of x, in an ascending list: a head of it. -/
theorem Asc.cut {l : List R} (h : Asc l) (x : ByteArray) : ∃ i, i ≤ l.length ∧ (∀ t, t < i → Op.bytesLess (by' (nm l t)) (by' x) = true) ∧ ∀ t, i ≤ t → t < l.length → Op.bytesLess (by' (nm l t)) (by' x) = false := by
  have go : ∀ n, n ≤ l.length → ∃ i, i ≤ n ∧ (∀ t, t < i → Op.bytesLess (by' (nm l t)) (by' x) = true) ∧ ∀ t, i ≤ t → t < n → Op.bytesLess (by' (nm l t)) (by' x) = false := by
    intro n
    induction n with
    | zero => exact fun _ => ⟨0, Nat.le_refl _, fun t ht => by omega, fun t _ ht => by omega⟩
    | succ n ih =>
      intro hn
      obtain ⟨i, hi, h1, h2⟩ := ih (by omega)
      by_cases e : i = n
      · subst e
        cases hb : Op.bytesLess (by' (nm l i)) (by' x)
        · refine ⟨i, by omega, h1, fun t h3 h4 => ?_⟩
          have et : t = i := by omega
          rw [et]
          exact hb
        · refine ⟨i + 1, Nat.le_refl _, fun t ht => ?_, fun t h3 h4 => by omega⟩
          by_cases et : t = i
          · rw [et]
            exact hb
          · exact h1 t (by omega)
      · refine ⟨i, by omega, h1, fun t h3 h4 => ?_⟩
        by_cases et : t = n
        · subst et
          cases hb : Op.bytesLess (by' (nm l t)) (by' x)
          · rfl
          · have h5 := h2 i (Nat.le_refl _) (by omega)
            rw [bl_trans _ _ _ (h.lt i t (by omega) (by omega)) hb] at h5
            cases h5
        · exact h2 t h3 (by omega)
  exact go l.length (Nat.le_refl _)

theorem Asc.below {l : List R} (h : Asc l) (x : ByteArray) (t : Nat) (ht : t < pos l x) : Op.bytesLess (by' (nm l t)) (by' x) = true := by
  obtain ⟨i, hi, h1, h2⟩ := h.cut x
  rw [pos_eq l x i hi h1 h2] at ht
  exact h1 t ht
theorem Asc.above {l : List R} (h : Asc l) (x : ByteArray) (t : Nat) (ht : pos l x ≤ t) (hl : t < l.length) : Op.bytesLess (by' (nm l t)) (by' x) = false := by
  obtain ⟨i, hi, h1, h2⟩ := h.cut x
  rw [pos_eq l x i hi h1 h2] at ht
  exact h2 t ht hl

/-- x is a name of an ascending list exactly where it stands behind those ahead of it. -/
theorem Asc.found {l : List R} (h : Asc l) (x : ByteArray) : hasName l x = true ↔ pos l x < l.length ∧ by' (nm l (pos l x)) = by' x := by
  constructor
  · intro hn
    obtain ⟨k, hk, e⟩ := hasName_at l x hn
    have e2 : pos l x = k := by
      refine pos_eq l x k (by omega) (fun t ht => ?_) (fun t h1 h2 => ?_)
      · rw [← e]; exact h.lt t k ht hk
      · rw [← e]
        by_cases et : t = k
        · subst et; exact bl_irrefl _
        · exact bl_asymm _ _ (h.lt k t (by omega) h2)
    rw [e2]
    exact ⟨hk, e⟩
  · rintro ⟨h1, h2⟩
    exact hasName_yes l x _ h1 h2

theorem Asc.foundB {l : List R} (h : Asc l) (x : ByteArray) : hasName l x = (decide (pos l x < l.length) && (by' (nm l (pos l x)) == by' x)) := by
  rw [Bool.eq_iff_iff, h.found x]
  simp

/-! ### HEAD -/
def mainB : ByteArray := ⟨#[114, 101, 102, 115, 47, 104, 101, 97, 100, 115, 47, 109, 97, 105, 110]⟩
def preB : ByteArray := ⟨#[114, 101, 102, 115, 47, 104, 101, 97, 100, 115, 47]⟩
def isBr (x : ByteArray) : Bool := Lib.hasPrefix (by' x) (by' preB)
def anyBr (l : List R) : Bool := l.any fun r => isBr r.1

/-- The first branch, by position; none: the empty name. -/
def firstBr : List R → ByteArray
  | [] => ⟨#[]⟩
  | r :: l => if isBr r.1 then r.1 else firstBr l

theorem firstBr_at : ∀ (l : List R) (k : Nat), k < l.length → (∀ j, j < k → isBr (nm l j) = false) → isBr (nm l k) = true → firstBr l = nm l k
  | [], k, h, _, _ => by simp at h
  | r :: l, 0, _, _, h => by
    have h' : isBr r.1 = true := by simpa [nm, rf] using h
    simp [firstBr, h', nm, rf]
  | r :: l, k + 1, hk, h1, h2 => by
    have h0 : isBr r.1 = false := by simpa [nm, rf] using h1 0 (by omega)
    simp only [firstBr, h0]
    have := firstBr_at l k (by simpa using hk) (fun j hj => by simpa [nm, rf] using h1 (j + 1) (by omega)) (by simpa [nm, rf] using h2)
    simpa [nm, rf] using this

theorem firstBr_none : ∀ (l : List R), (∀ j, j < l.length → isBr (nm l j) = false) → firstBr l = ⟨#[]⟩
  | [], _ => rfl
  | r :: l, h => by
    have h0 : isBr r.1 = false := by simpa [nm, rf] using h 0 (by simp)
    simp only [firstBr, h0]
    exact firstBr_none l (fun j hj => by simpa [nm, rf] using h (j + 1) (by simpa using hj))

/-- pickHead's choice. -/
def pick (head : ByteArray) (l : List R) : ByteArray :=
  if hasName l head then head else if hasName l mainB then mainB else firstBr l

end Go.Proofs.Qxb6602077a.Plain
