/-
  PLAIN LAWS of the seat b6602077a over set: the merge model; what stays true of the refs.
-/
import Derived.Test.Qxb6602077aSet
namespace Go.Proofs.Qxb6602077a
open Plain

def lt (a b : R) : Prop := Op.bytesLess (by' a.1) (by' b.1) = true

theorem asc_pairwise (l : List R) : Asc l ↔ l.Pairwise lt := by
  rw [List.pairwise_iff_getElem]
  constructor
  · intro h i j hi hj hij
    have := h.lt i j hij hj
    unfold nm at this
    rw [rf_eq l i hi, rf_eq l j hj] at this
    exact this
  · intro h k hk
    have := h k (k + 1) (by omega) hk (by omega)
    unfold nm
    rw [rf_eq l k (by omega), rf_eq l (k + 1) hk]
    exact this

theorem asc_tail {r : R} {l : List R} (h : Asc (r :: l)) : Asc l := by
  rw [asc_pairwise] at h ⊢
  exact (List.pairwise_cons.1 h).2
theorem asc_head {r : R} {l : List R} (h : Asc (r :: l)) : ∀ s ∈ l, Op.bytesLess (by' r.1) (by' s.1) = true := by
  rw [asc_pairwise] at h
  exact (List.pairwise_cons.1 h).1

/-! ### the merge model -/
def mergeL (x d : ByteArray) : Bool → List R → List R
  | placed, [] => if placed then [] else [(x, d)]
  | placed, r :: l => if by' r.1 = by' x then mergeL x d placed l else if placed = false ∧ Op.bytesLess (by' x) (by' r.1) = true then (x, d) :: r :: mergeL x d true l else r :: mergeL x d placed l

theorem merge_true (x d : ByteArray) : ∀ l : List R, (∀ r ∈ l, by' r.1 ≠ by' x) → mergeL x d true l = l
  | [], _ => rfl
  | r :: l, h => by
    have h1 : ¬ by' r.1 = by' x := h r (by simp)
    simp only [mergeL, h1, if_false, Bool.true_eq_false, false_and]
    rw [merge_true x d l (fun s hs => h s (by simp [hs]))]

theorem merge_above (x d : ByteArray) (l : List R) (h : ∀ r ∈ l, Op.bytesLess (by' x) (by' r.1) = true) : mergeL x d false l = (x, d) :: l := by
  have hne : ∀ r ∈ l, by' r.1 ≠ by' x := fun r hr e => by
    have := h r hr
    rw [e, bl_irrefl] at this
    cases this
  cases l with
  | nil => rfl
  | cons r l =>
    have h1 : ¬ by' r.1 = by' x := hne r (by simp)
    have h2 := h r (by simp)
    simp only [mergeL, h1, if_false, h2, and_self, if_true]
    rw [merge_true x d l (fun s hs => hne s (by simp [hs]))]

theorem pos_cons_lt (r : R) (l : List R) (x : ByteArray) (h : Op.bytesLess (by' r.1) (by' x) = true) : pos (r :: l) x = pos l x + 1 := by
  unfold pos
  exact List.countP_cons_of_pos h
theorem pos_above (l : List R) (x : ByteArray) (h : ∀ r ∈ l, Op.bytesLess (by' r.1) (by' x) = false) : pos l x = 0 := by
  unfold pos
  rw [List.countP_eq_zero]
  intro r hr
  rw [h r hr]
  simp
theorem hasName_cons (r : R) (l : List R) (x : ByteArray) : hasName (r :: l) x = (by' r.1 == by' x || hasName l x) := rfl
theorem hasName_mem (l : List R) (x : ByteArray) : hasName l x = true ↔ ∃ r ∈ l, by' r.1 = by' x := by
  unfold hasName
  rw [List.any_eq_true]
  simp
theorem hasName_not (l : List R) (x : ByteArray) (h : ∀ r ∈ l, by' r.1 ≠ by' x) : hasName l x = false := by
  cases e : hasName l x
  · rfl
  · obtain ⟨r, hr, e2⟩ := (hasName_mem l x).1 e
    exact absurd e2 (h r hr)

theorem merge_set (x d : ByteArray) : ∀ l : List R, Asc l → mergeL x d (by' d).isEmpty l = setL l x d
  | [], _ => by
    have hn : hasName [] x = false := rfl
    have hp : pos [] x = 0 := rfl
    unfold setL
    rw [hn, hp]
    cases (by' d).isEmpty <;> rfl
  | r :: l, h => by
    have ht := asc_tail h
    have hh := asc_head h
    have ih := merge_set x d l ht
    by_cases e : by' r.1 = by' x
    · -- the name itself
      have hab : ∀ s ∈ l, Op.bytesLess (by' x) (by' s.1) = true := fun s hs => by rw [← e]; exact hh s hs
      have hn : hasName (r :: l) x = true := by rw [hasName_cons]; simp [e]
      have hp : pos (r :: l) x = 0 := pos_above _ x (fun s hs => by
        rcases List.mem_cons.1 hs with rfl | hs
        · rw [e]; exact bl_irrefl _
        · exact bl_asymm _ _ (hab s hs))
      simp only [mergeL, e, if_true]
      unfold setL
      rw [hn, hp]
      cases hd : (by' d).isEmpty
      · rw [merge_above x d l hab]; rfl
      · rw [merge_true x d l (fun s hs e2 => by have := hab s hs; rw [e2, bl_irrefl] at this; cases this)]; rfl
    · cases hlt : Op.bytesLess (by' x) (by' r.1)
      · -- ahead of x
        have hrx : Op.bytesLess (by' r.1) (by' x) = true := by
          cases h2 : Op.bytesLess (by' r.1) (by' x)
          · exact absurd (bl_total _ _ h2 hlt) e
          · rfl
        have hn : hasName (r :: l) x = hasName l x := by rw [hasName_cons]; simp [e]
        have hp := pos_cons_lt r l x hrx
        simp only [mergeL, e, if_false, hlt, Bool.false_eq_true, and_false]
        rw [ih]
        unfold setL
        rw [hn, hp]
        cases hasName l x <;> cases (by' d).isEmpty <;> simp
      · -- behind x
        have hab : ∀ s ∈ r :: l, Op.bytesLess (by' x) (by' s.1) = true := fun s hs => by
          rcases List.mem_cons.1 hs with rfl | hs
          · exact hlt
          · exact bl_trans _ _ _ hlt (hh s hs)
        have hn : hasName (r :: l) x = false := hasName_not _ x (fun s hs e2 => by have := hab s hs; rw [e2, bl_irrefl] at this; cases this)
        have hp : pos (r :: l) x = 0 := pos_above _ x (fun s hs => bl_asymm _ _ (hab s hs))
        unfold setL
        rw [hn, hp]
        cases hd : (by' d).isEmpty
        · rw [merge_above x d _ hab]; rfl
        · rw [merge_true x d _ (fun s hs e2 => by have := hab s hs; rw [e2, bl_irrefl] at this; cases this)]; rfl

/-! ### what set keeps -/
theorem mem_take_lt {l : List R} (h : Asc l) (x : ByteArray) : ∀ r ∈ l.take (pos l x), Op.bytesLess (by' r.1) (by' x) = true := by
  intro r hr
  obtain ⟨j, hj, rfl⟩ := List.mem_iff_getElem.1 hr
  rw [List.length_take] at hj
  have := h.below x j (by omega)
  unfold nm at this
  rw [rf_eq l j (by omega)] at this
  rw [List.getElem_take]
  exact this
theorem mem_drop_gt {l : List R} (h : Asc l) (x : ByteArray) (hn : hasName l x = false) : ∀ r ∈ l.drop (pos l x), Op.bytesLess (by' x) (by' r.1) = true := by
  intro r hr
  obtain ⟨j, hj, rfl⟩ := List.mem_iff_getElem.1 hr
  rw [List.length_drop] at hj
  have h1 := h.above x (pos l x + j) (by omega) (by omega)
  unfold nm at h1
  rw [rf_eq l (pos l x + j) (by omega)] at h1
  rw [List.getElem_drop]
  cases h2 : Op.bytesLess (by' x) (by' (l[pos l x + j]'(by omega)).1)
  · have e := bl_total _ _ h1 h2
    have := (hasName_mem l x).2 ⟨_, List.getElem_mem _, e⟩
    rw [hn] at this
    cases this
  · rfl
theorem mem_drop_gt' {l : List R} (h : Asc l) (x : ByteArray) (hn : hasName l x = true) : ∀ r ∈ l.drop (pos l x + 1), Op.bytesLess (by' x) (by' r.1) = true := by
  intro r hr
  obtain ⟨hlt, e⟩ := (h.found x).1 hn
  obtain ⟨j, hj, rfl⟩ := List.mem_iff_getElem.1 hr
  rw [List.length_drop] at hj
  rw [List.getElem_drop, ← e]
  have := h.lt (pos l x) (pos l x + 1 + j) (by omega) (by omega)
  unfold nm at this
  rw [rf_eq l (pos l x + 1 + j) (by omega)] at this
  exact this

theorem asc_around {l A B : List R} {x d : ByteArray} (h : Asc l) (hA : A.Sublist l) (hBs : B.Sublist l) (h1 : ∀ r ∈ A, Op.bytesLess (by' r.1) (by' x) = true) (h2 : ∀ r ∈ B, Op.bytesLess (by' x) (by' r.1) = true) : Asc (A ++ [(x, d)] ++ B) := by
  rw [asc_pairwise] at h ⊢
  rw [List.append_assoc, List.pairwise_append]
  refine ⟨h.sublist hA, ?_, fun a ha b hb => ?_⟩
  · rw [List.singleton_append, List.pairwise_cons]
    exact ⟨h2, h.sublist hBs⟩
  · rw [List.singleton_append, List.mem_cons] at hb
    rcases hb with rfl | hb
    · exact h1 a ha
    · exact bl_trans _ _ _ (h1 a ha) (h2 b hb)

theorem set_asc {l : List R} (h : Asc l) (x d : ByteArray) : Asc (setL l x d) := by
  unfold setL
  cases hn : hasName l x
  · cases (by' d).isEmpty
    · exact asc_around h (List.take_sublist _ _) (List.drop_sublist _ _) (mem_take_lt h x) (mem_drop_gt h x hn)
    · exact h
  · cases (by' d).isEmpty
    · exact asc_around h (List.take_sublist _ _) (List.drop_sublist _ _) (mem_take_lt h x) (mem_drop_gt' h x hn)
    · have hs : (l.take (pos l x) ++ l.drop (pos l x + 1)).Sublist l := by
        have h2 : l.Sublist (l.take (pos l x) ++ l.drop (pos l x)) := by rw [List.take_append_drop]; exact List.Sublist.refl _
        have h3 : (l.take (pos l x) ++ l.drop (pos l x + 1)).Sublist (l.take (pos l x) ++ l.drop (pos l x)) := List.Sublist.append_left (by rw [← List.drop_drop]; exact List.drop_sublist _ _) _
        rwa [List.take_append_drop] at h3
      rw [asc_pairwise] at h
      exact (asc_pairwise _).2 (h.sublist hs)

theorem set_mem {l : List R} {x d : ByteArray} : ∀ r ∈ setL l x d, r ∈ l ∨ (r = (x, d) ∧ (by' d).isEmpty = false) := by
  intro r hr
  unfold setL at hr
  cases hn : hasName l x <;> cases hd : (by' d).isEmpty <;> rw [hn, hd] at hr <;> simp at hr
  · rcases hr with hr | rfl | hr
    · exact .inl (List.mem_of_mem_take hr)
    · exact .inr ⟨rfl, rfl⟩
    · exact .inl (List.mem_of_mem_drop hr)
  · exact .inl hr
  · rcases hr with hr | rfl | hr
    · exact .inl (List.mem_of_mem_take hr)
    · exact .inr ⟨rfl, rfl⟩
    · exact .inl (List.mem_of_mem_drop hr)
  · rcases hr with hr | hr
    · exact .inl (List.mem_of_mem_take hr)
    · exact .inl (List.mem_of_mem_drop hr)

theorem set_length (l : List R) (x d : ByteArray) : (setL l x d).length ≤ l.length + 1 := by
  have hp := pos_le l x
  unfold setL
  cases hasName l x <;> cases (by' d).isEmpty <;> simp <;> omega

theorem idsSet_iff (l : List R) : Plain.idsSet l = true ↔ ∀ r ∈ l, (by' r.2).isEmpty = false := by
  unfold Plain.idsSet
  simp

theorem set_ids {l : List R} (h : Plain.idsSet l = true) (x d : ByteArray) : Plain.idsSet (setL l x d) = true := by
  rw [idsSet_iff] at h ⊢
  intro r hr
  rcases set_mem r hr with hr | ⟨rfl, hd⟩
  · exact h r hr
  · exact hd

theorem set_has {l : List R} (h : Asc l) (x d : ByteArray) : hasName (setL l x d) x = !(by' d).isEmpty := by
  cases hd : (by' d).isEmpty
  · refine (hasName_mem _ _).2 ⟨(x, d), ?_, rfl⟩
    unfold setL
    rw [hd]
    cases hasName l x <;> simp
  · apply hasName_not
    intro r hr e
    unfold setL at hr
    rw [hd] at hr
    cases hn : hasName l x <;> rw [hn] at hr <;> simp at hr
    · have := (hasName_mem l x).2 ⟨r, hr, e⟩
      rw [hn] at this
      cases this
    · rcases hr with hr | hr
      · have := mem_take_lt h x r hr
        rw [e, bl_irrefl] at this
        cases this
      · have := mem_drop_gt' h x hn r hr
        rw [e, bl_irrefl] at this
        cases this

theorem asc_unique {l : List R} (h : Asc l) (i j : Nat) (hi : i < l.length) (hj : j < l.length) (e : by' (nm l i) = by' (nm l j)) : i = j := by
  rcases Nat.lt_trichotomy i j with h1 | h1 | h1
  · have := h.lt i j h1 hj
    rw [e, bl_irrefl] at this
    cases this
  · exact h1
  · have := h.lt j i h1 hi
    rw [e, bl_irrefl] at this
    cases this

theorem refId_of_mem {l : List R} (h : Asc l) (x d : ByteArray) (hm : (x, d) ∈ l) : refId l x = d := by
  obtain ⟨j, hj, e⟩ := List.mem_iff_getElem.1 hm
  have hn : hasName l x = true := (hasName_mem l x).2 ⟨_, hm, rfl⟩
  obtain ⟨hlt, e2⟩ := (h.found x).1 hn
  have hj1 : nm l j = x := by unfold nm; rw [rf_eq l j hj, e]
  have hj2 : Plain.id l j = d := by unfold Plain.id; rw [rf_eq l j hj, e]
  have := asc_unique h (pos l x) j hlt hj (by rw [e2, hj1])
  unfold refId
  rw [hn, this, hj2]
  rfl

theorem set_ref {l : List R} (h : Asc l) (x d : ByteArray) : refId (setL l x d) x = d := by
  cases hd : (by' d).isEmpty
  · refine refId_of_mem (set_asc h x d) x d ?_
    unfold setL
    rw [hd]
    cases hasName l x <;> simp
  · have hn := set_has h x d
    rw [hd] at hn
    unfold refId
    rw [hn]
    have e : by' d = [] := List.isEmpty_iff.1 hd
    exact (by_inj e).symm

/-! ### HEAD behind pickHead -/
theorem firstBr_or : ∀ l : List R, (∃ r ∈ l, firstBr l = r.1) ∨ (firstBr l = ⟨#[]⟩ ∧ anyBr l = false)
  | [] => .inr ⟨rfl, rfl⟩
  | r :: l => by
    cases hb : isBr r.1
    · have e : firstBr (r :: l) = firstBr l := by simp [firstBr, hb]
      rcases firstBr_or l with ⟨s, hs, h⟩ | ⟨h1, h2⟩
      · exact .inl ⟨s, by simp [hs], e.trans h⟩
      · refine .inr ⟨e.trans h1, ?_⟩
        unfold anyBr at h2 ⊢
        rw [List.any_cons, hb, h2]
        rfl
    · exact .inl ⟨r, by simp, by simp [firstBr, hb]⟩

theorem pick_inv (hd : ByteArray) (l : List R) : hasName l (pick hd l) = true ∨ (by' (pick hd l) = [] ∧ anyBr l = false) := by
  unfold pick
  cases h1 : hasName l hd
  · cases h2 : hasName l mainB
    · rcases firstBr_or l with ⟨s, hs, h⟩ | ⟨h3, h4⟩
      · refine .inl ?_
        simp only [Bool.false_eq_true, if_false]
        rw [h]
        exact (hasName_mem l _).2 ⟨s, hs, rfl⟩
      · refine .inr ⟨?_, h4⟩
        simp only [Bool.false_eq_true, if_false]
        rw [h3]
        rfl
    · exact .inl (by simpa using h2)
  · exact .inl (by simpa using h1)

end Go.Proofs.Qxb6602077a
