/-
  WALKS of the seat b6602077a: toProjectB1 (13), ZZMakeState (12), readRefsB1 (16).
-/
import Derived.Test.Qxb6602077aPick
import Derived.RegionTactic
import Derived.BigRegion
import Derived.ChangeAlike
namespace Go.Proofs.Qxb6602077a
open Go.RowKit Plain

theorem Try.info49 : (Try.prog.info? 49).map (fun i => (i.zero, i.size, i.bytes)) = some (some (.agg #[.string ⟨#[]⟩, .string ⟨#[]⟩]), 2, 32) := by kernel_rfl
theorem Try.info51 : (Try.prog.info? 51).map (fun i => (i.zero, i.size, i.bytes)) = some (some (.agg #[.string ⟨#[]⟩, .string ⟨#[]⟩]), 2, 32) := by kernel_rfl
theorem Try.info39 : (Try.prog.info? 39).map (fun i => (i.zero, i.size, i.bytes)) = some (some (.agg #[.string ⟨#[]⟩, .string ⟨#[]⟩]), 2, 32) := by kernel_rfl

theorem flat_append (a b : List R) : flat (a ++ b) = flat a ++ flat b := by simp [flat]

theorem take_step (l : List R) (k : Nat) (h : k < l.length) : l.take (k + 1) = l.take k ++ [rf l k] := by
  rw [List.take_succ_eq_append_getElem h, rf_eq l k h]

/-- A row that is filled from its head: k refs lie, the rest is whatever it was. -/
def Filled (l : List R) (k : Nat) (xs : List Value) : Prop := xs.take (k * 2) = flat (l.take k)

theorem Filled.step {l : List R} {k : Nat} {xs : List Value} (h : Filled l k xs) (hk : k < l.length) (hx : xs.length = l.length * 2) :
    Filled l (k + 1) ((xs.set (k * 2) (.string (nm l k))).set (k * 2 + 1) (.string (Plain.id l k))) := by
  unfold Filled at h ⊢
  rw [take_step l k hk, flat_append, ← h]
  have e : (k + 1) * 2 = k * 2 + 2 := by omega
  rw [e]
  apply List.ext_getElem?
  intro j
  rw [List.getElem?_take]
  by_cases h1 : j < k * 2
  · rw [if_pos (by omega), List.getElem?_set_ne (by omega), List.getElem?_set_ne (by omega), List.getElem?_append_left (by rw [List.length_take]; omega), List.getElem?_take, if_pos h1]
  · have hl : (xs.take (k * 2)).length = k * 2 := by rw [List.length_take]; omega
    rw [List.getElem?_append_right (by omega), hl]
    by_cases h2 : j = k * 2
    · subst h2
      rw [if_pos (by omega), List.getElem?_set_ne (by omega), List.getElem?_set_self (by omega)]
      simp [flat, nm]
    · by_cases h3 : j = k * 2 + 1
      · subst h3
        rw [if_pos (by omega), List.getElem?_set_self (by rw [List.length_set]; omega)]
        have e2 : k * 2 + 1 - k * 2 = 1 := by omega
        rw [e2]
        simp [flat, Plain.id]
      · rw [if_neg (by omega)]
        symm
        apply List.getElem?_eq_none
        simp [flat]
        omega

theorem Filled.all {l : List R} {xs : List Value} (h : Filled l l.length xs) (hx : xs.length = l.length * 2) : xs = flat l := by
  unfold Filled at h
  rw [List.take_of_length_le (by omega), List.take_length] at h
  exact h

theorem get_some {α : Type} (xs : List α) (j : Nat) (h : j < xs.length) : ∃ y, xs[j]? = some y := ⟨xs[j], List.getElem?_eq_getElem h⟩

set_option maxHeartbeats 4000000 in
theorem toProject13 (ao : Option Addr) (c : Nat) (l : List R) (w : World) (hl : l.length ≤ 32768) (hr : RefsAt w ao l) :
    Calls Try.prog 13 #[.slice ao l.length c] w fun e w' => ∃ v, e = .returned v ∧ w'.ownsRow w.heap.size 49 2 v l.length (flat l) ∧ Below w.heap.size w w' := by
  by_cases hn : l.length = 0
  · have hb : ((l.length : Int) == 0) = true := by simp [hn]
    have hl0 : l = [] := List.eq_nil_of_length_eq_zero hn
    have HL := hide hl0
    clear hl0 hn
    go_enter Try.func13, Try.ntmps13
    go_wp2
    go_ret
    refine ⟨_, rfl, ?_, Below.refl _ _⟩
    rw [unhide HL]
    exact World.ownsRow_nil _ _ _ _
  · have hb : ((l.length : Int) == 0) = false := beq_eq_false_iff_ne.2 (by omega)
    have hpos : 0 < l.length := by omega
    clear hn
    obtain ⟨i0, hi, hz0, hz1, hz2⟩ := info_parts Try.info49
    have HI := hide (And.intro hi (And.intro hz0 (And.intro hz1 hz2)))
    clear hi hz0 hz1 hz2
    go_enter Try.func13, Try.ntmps13
    go_wp2_with (at_make; refine wpList_make_full _ rfl _ _ 28 rfl w.heap.size 49 i0 _ 2 Try.underlying28 (unhide HI).1 (unhide HI).2.1 (unhide HI).2.2.1 _ _ _ _ l.length rfl rfl rfl rfl (by rw [(unhide HI).2.2.2]; omega) (by unfold maxLen; omega) (Nat.le_refl _) ?_; intro w1 hown hgrow)
    have hB1 := Below.grown (Below.refl w.heap.size w) hgrow (Nat.le_refl _) (fun j hj => by cases hj)
    have H1 := hide (And.intro hown hB1)
    clear hown hgrow hB1
    go_loopw [4] (fun i wr => ∃ k : Nat, k ≤ l.length ∧ i = .int .i64 k ∧ Hid (∃ xs, wr.ownsRow w.heap.size 49 2 (.slice (some ⟨w.heap.size, 0, none⟩) l.length l.length) l.length xs ∧ Filled l k xs) ∧ Hid (Below w.heap.size w wr)) (fun i _ => l.length - (intOf i).toNat)
    case atStart => exact ⟨0, Nat.zero_le _, rfl, ⟨_, (unhide H1).1, by simp [Filled, flat]⟩, (unhide H1).2⟩
    case round =>
      obtain ⟨k, hk, rfl, HX, HW⟩ := hrel
      by_cases hlt : k < l.length
      · have hr2 := hr.below (unhide HW)
        rcases hr2 with rfl | ⟨b, off, rfl, hbl, hc⟩
        · simp at hlt
        · have h1 := (hc k hlt).1
          have h2 := (hc k hlt).2
          clear hc
          obtain ⟨xs, hown, hfill⟩ := unhide HX
          have hxl := hown.1
          obtain ⟨y0, hy0⟩ := get_some xs (k * 2) (by omega)
          obtain ⟨y1, hy1⟩ := get_some xs (k * 2 + 1) (by omega)
          have g0 : wr.cell? ⟨w.heap.size, k * 2, none⟩ = some y0 := (hown.cellAt _ (by omega)).trans hy0
          have g1 : wr.cell? ⟨w.heap.size, k * 2 + 1, none⟩ = some y1 := (hown.cellAt _ (by omega)).trans hy1
          have f0 := hown.frozenAt (k * 2)
          have f1 := hown.frozenAt (k * 2 + 1)
          have hk1 : (k : Int) < (l.length : Int) := by omega
          have hs1 := hown.stored (k * 2) (.string (nm l k))
          have hs2 := hs1.1.stored (k * 2 + 1) (.string (Plain.id l k))
          have HO := hide hs2.1
          have HB := hide (Below.grown (Below.grown (unhide HW) hs1.2 (unhide HW).size (fun j hj => by cases hj; exact Nat.le_refl _)) hs2.2 (by have := (unhide HW).size; simpa using this) (fun j hj => by cases hj; exact Nat.le_refl _))
          have HF := hide (hfill.step hlt hxl)
          clear hs1 hs2 hown hfill hxl hy0 hy1
          go_wp2
          go_region
          go_wp2
          go_roundw
          case rel => exact ⟨k + 1, by omega, by go_num, ⟨_, (unhide HO).drew, unhide HF⟩, (unhide HB).drew⟩
          case measure => simp [intOf]; omega
      · obtain ⟨xs, hown, hfill⟩ := unhide HX
        have hke : k = l.length := by omega
        rw [hke] at hfill
        have hall := hfill.all hown.1
        rw [hall] at hown
        have HO := hide hown
        clear hown hfill hke hall
        go_wp2
        go_ret
        exact ⟨_, rfl, unhide HO, unhide HW⟩

theorem ownsRow_mono {w : World} {B B' : Nat} {e : TypeId} {size : Nat} {v : Value} {n : Nat} {xs : List Value} (h : w.ownsRow B e size v n xs) (hB : B' ≤ B) : w.ownsRow B' e size v n xs := by
  refine ⟨h.1, ?_⟩
  rcases h.2 with h2 | ⟨g, cap, cur, h3, h4, h5⟩
  · exact .inl h2
  · exact .inr ⟨g, cap, cur, h3, by omega, h5⟩

theorem StateAt.mono {B B' sb : Nat} {fmt hd : ByteArray} {l : List R} {w : World} (h : StateAt B sb fmt hd l w) (hB : B' ≤ B) : StateAt B' sb fmt hd l w := by
  obtain ⟨h0, v, p, u, h1, h2⟩ := h
  exact ⟨by omega, v, p, u, h1, ownsRow_mono h2 hB⟩

/-- The state's block while its refs are laid. -/
def Half (S : Nat) (fmt hd : ByteArray) (n k : Nat) (l : List R) (w : World) : Prop :=
  w.heap[S]? = some (.cells #[.string fmt, .string hd, .slice (some ⟨S + 1, 0, none⟩) n n, .slice none 0 0, .slice none 0 0] 48 (0, 0)) ∧
  ∃ xs, w.ownsRow S 51 2 (.slice (some ⟨S + 1, 0, none⟩) n n) n xs ∧ Filled l k xs

theorem setCell_block_same {w : World} {b j : Nat} {cs : Array Value} {t : TypeId} (h : w.heap[b]? = some (.cells cs t (0, 0))) (v : Value) : (w.setCell ⟨b, j, none⟩ v).heap[b]? = some (.cells (cs.setIfInBounds j v) t (0, 0)) := by
  simp [World.setCell, Array.getElem?_modify, h]

set_option maxHeartbeats 4000000 in
theorem makeState12 (fmt hd : ByteArray) (ao : Option Addr) (c : Nat) (l : List R) (w : World) (hl : l.length ≤ 32768) (hr : RefsAt w ao l) :
    Calls Try.prog 12 #[.string fmt, .string hd, .slice ao l.length c] w fun e w' => e = .returned (.pointer (some ⟨w.heap.size, 0, none⟩)) ∧ StateAt w.heap.size w.heap.size fmt hd l w' ∧ Below w.heap.size w w' := by
  have hfirst : StateAt w.heap.size w.heap.size fmt hd [] (w.alloc (.cells #[.string fmt, .string hd, .slice none 0 0, .slice none 0 0, .slice none 0 0] 48)) :=
    ⟨Nat.le_refl _, _, _, _, heap_alloc_new w _, World.ownsRow_nil _ _ _ _⟩
  have hb0 := (Below.refl w.heap.size w).alloc (Nat.le_refl _) (.cells #[.string fmt, .string hd, .slice none 0 0, .slice none 0 0, .slice none 0 0] 48)
  have H0 := hide (And.intro hfirst hb0)
  clear hfirst hb0
  by_cases hn : l.length = 0
  · have hd' : ¬ ((0 : Int) < (l.length : Int)) := by omega
    have HL := hide (List.eq_nil_of_length_eq_zero hn)
    clear hn
    go_enter Try.func12, Try.ntmps12
    go_wp2
    go_ret
    refine ⟨rfl, ?_, (unhide H0).2⟩
    rw [unhide HL]
    exact (unhide H0).1
  · have hpos : 0 < l.length := by omega
    clear hn
    obtain ⟨i0, hi, hz0, hz1, hz2⟩ := info_parts Try.info51
    have HI := hide (And.intro hi (And.intro hz0 (And.intro hz1 hz2)))
    clear hi hz0 hz1 hz2
    have HR := hide hr
    clear hr
    go_enter Try.func12, Try.ntmps12
    go_wp2_with (at_make; refine wpList_make_full _ rfl _ _ 44 rfl w.heap.size 51 i0 _ 2 Try.underlying44 (unhide HI).1 (unhide HI).2.1 (unhide HI).2.2.1 _ _ _ _ l.length rfl rfl rfl rfl (by rw [(unhide HI).2.2.2]; omega) (by unfold maxLen; omega) (by simp) ?_; intro w1 hown hgrow; have hbk := (hgrow.block w.heap.size (by simp) (by simp)).trans (heap_alloc_new w _); have cS : w1.cell? ⟨w.heap.size, 2, none⟩ = some (.slice none 0 0) := (by simp [World.cell?, hbk]); have fS : w1.frozen? ⟨w.heap.size, 2, none⟩ = false := (by simp [World.frozen?, hbk]); have HOW := hide hown; have HGR := hide hgrow; have HBK := hide hbk; clear hown hgrow hbk)
    have hhalf : Half w.heap.size fmt hd l.length 0 l (w1.setCell ⟨w.heap.size, 2, none⟩ (.slice (some ⟨w.heap.size + 1, 0, none⟩) l.length l.length)) := by
      have hown := unhide HOW
      simp only [World.size_alloc] at hown
      have hne : (Value.slice (some ⟨w.heap.size + 1, 0, none⟩) l.length l.length).ownBlock ≠ some w.heap.size := by simp [Value.ownBlock]
      refine ⟨setCell_block_same (unhide HBK) _, _, hown.kept (row := some w.heap.size) ⟨rfl, rfl, rfl, by simp, fun k _ hk => Below.heap_setCell _ _ _ _ (fun e => hk (by simp [e]))⟩ (.inr hne), by simp [Filled, flat]⟩
    have hbel : Below w.heap.size w (w1.setCell ⟨w.heap.size, 2, none⟩ (.slice (some ⟨w.heap.size + 1, 0, none⟩) l.length l.length)) :=
      (Below.grown (unhide H0).2 (unhide HGR) (by simp) (fun j hj => by cases hj)).setCell (Nat.le_refl _) _
    have H1 := hide (And.intro hhalf hbel)
    clear hhalf hbel HOW HGR HBK H0
    go_loopw [8] (fun i wr => ∃ k : Nat, k ≤ l.length ∧ i = .int .i64 k ∧ Hid (Half w.heap.size fmt hd l.length k l wr) ∧ Hid (Below w.heap.size w wr)) (fun i _ => l.length - (intOf i).toNat)
    case atStart => exact ⟨0, Nat.zero_le _, rfl, (unhide H1).1, (unhide H1).2⟩
    case round =>
      obtain ⟨k, hk, rfl, HX, HW⟩ := hrel
      by_cases hlt : k < l.length
      · have hr2 := (unhide HR).below (unhide HW)
        rcases hr2 with rfl | ⟨b, off, rfl, hbl, hc⟩
        · simp at hlt
        · have h1 := (hc k hlt).1
          have h2 := (hc k hlt).2
          clear hc
          obtain ⟨hbk, xs, hown, hfill⟩ := unhide HX
          have cS : wr.cell? ⟨w.heap.size, 2, none⟩ = some (.slice (some ⟨w.heap.size + 1, 0, none⟩) l.length l.length) := by simp [World.cell?, hbk]
          have hxl := hown.1
          obtain ⟨y0, hy0⟩ := get_some xs (k * 2) (by omega)
          obtain ⟨y1, hy1⟩ := get_some xs (k * 2 + 1) (by omega)
          have g0 : wr.cell? ⟨w.heap.size + 1, k * 2, none⟩ = some y0 := (hown.cellAt _ (by omega)).trans hy0
          have g1 : wr.cell? ⟨w.heap.size + 1, k * 2 + 1, none⟩ = some y1 := (hown.cellAt _ (by omega)).trans hy1
          have f0 := hown.frozenAt (k * 2)
          have f1 := hown.frozenAt (k * 2 + 1)
          have hk1 : (k : Int) < (l.length : Int) := by omega
          have hs1 := hown.stored (k * 2) (.string (nm l k))
          have hs2 := hs1.1.stored (k * 2 + 1) (.string (Plain.id l k))
          have HB := hide (Below.grown (Below.grown (unhide HW) hs1.2 (unhide HW).size (fun j hj => by cases hj; omega)) hs2.2 (by have := (unhide HW).size; simpa using this) (fun j hj => by cases hj; omega))
          have HO : Hid (Half w.heap.size fmt hd l.length (k + 1) l ((wr.setCell ⟨w.heap.size + 1, k * 2, none⟩ (.string (nm l k))).setCell ⟨w.heap.size + 1, k * 2 + 1, none⟩ (.string (Plain.id l k)))) := by
            refine ⟨?_, _, hs2.1, hfill.step hlt hxl⟩
            rw [Below.heap_setCell _ _ _ _ (by simp), Below.heap_setCell _ _ _ _ (by simp)]
            exact hbk
          clear hs1 hs2 hown hfill hxl hy0 hy1 hbk
          go_wp2
          go_region
          go_wp2
          go_roundw
          case rel => exact ⟨k + 1, by omega, by go_num, unhide HO, (unhide HB).drew⟩
          case measure => simp [intOf]; omega
      · obtain ⟨hbk, xs, hown, hfill⟩ := unhide HX
        have hke : k = l.length := by omega
        rw [hke] at hfill
        have hall := hfill.all hown.1
        rw [hall] at hown
        have HO : Hid (StateAt w.heap.size w.heap.size fmt hd l wr) := ⟨Nat.le_refl _, _, _, _, hbk, hown⟩
        clear hown hfill hke hall hbk
        go_wp2
        go_ret
        exact ⟨rfl, unhide HO, unhide HW⟩

/-! ### readRefsB1 (16) -/
set_option maxHeartbeats 4000000 in
theorem readRefs16 {B sb : Nat} {fmt hd : ByteArray} {l : List R} {w : World} (h : StateAt B sb fmt hd l w) (hl : l.length ≤ 1048576) :
    Calls Try.prog 16 #[.pointer (some ⟨sb, 0, none⟩)] w fun e w' => ∃ v, e = .returned v ∧ w'.ownsRow w.heap.size 39 2 v l.length (flat l) ∧ Below w.heap.size w w' := by
  obtain ⟨i0, hi, hz0, hz1, hz2⟩ := info_parts Try.info39
  have HI := hide (And.intro hi (And.intro hz0 (And.intro hz1 hz2)))
  have HS := hide h
  have HC := hide (count31 h)
  clear hi hz0 hz1 hz2 h
  go_enter Try.func16, Try.ntmps16
  go_wp2_with fail
  refine (unhide HC).mono ?_
  rintro e w0 ⟨rfl, rfl⟩
  go_wp2_with (at_make; refine wpList_make_full _ rfl _ _ 22 rfl w.heap.size 39 i0 _ 2 Try.underlying22 (unhide HI).1 (unhide HI).2.1 (unhide HI).2.2.1 _ _ _ _ l.length rfl rfl rfl rfl (by rw [(unhide HI).2.2.2]; omega) (by unfold maxLen; omega) (Nat.le_refl _) ?_; intro w1 hown hgrow)
  have hB1 := Below.grown (Below.refl w.heap.size w) hgrow (Nat.le_refl _) (fun j hj => by cases hj)
  have H1 := hide (And.intro hown hB1)
  clear hown hgrow hB1
  go_loopw [5] (fun i wr => ∃ k : Nat, k ≤ l.length ∧ i = .int .i64 k ∧ Hid (∃ xs, wr.ownsRow w.heap.size 39 2 (.slice (some ⟨w.heap.size, 0, none⟩) l.length l.length) l.length xs ∧ Filled l k xs) ∧ Hid (Below w.heap.size w wr)) (fun i _ => l.length - (intOf i).toNat)
  case atStart => exact ⟨0, Nat.zero_le _, rfl, ⟨_, (unhide H1).1, by simp [Filled, flat]⟩, (unhide H1).2⟩
  case round =>
    obtain ⟨k, hk, rfl, HX, HW⟩ := hrel
    by_cases hlt : k < l.length
    · have HA := hide (refAt32 ((unhide HS).below (unhide HW)) k hlt hl)
      obtain ⟨xs, hown, hfill⟩ := unhide HX
      have hxl := hown.1
      obtain ⟨y0, hy0⟩ := get_some xs (k * 2) (by omega)
      obtain ⟨y1, hy1⟩ := get_some xs (k * 2 + 1) (by omega)
      have g0 : wr.cell? ⟨w.heap.size, k * 2, none⟩ = some y0 := (hown.cellAt _ (by omega)).trans hy0
      have g1 : wr.cell? ⟨w.heap.size, k * 2 + 1, none⟩ = some y1 := (hown.cellAt _ (by omega)).trans hy1
      have f0 := hown.frozenAt (k * 2)
      have f1 := hown.frozenAt (k * 2 + 1)
      have hk1 : (k : Int) < (l.length : Int) := by omega
      have hs1 := hown.stored (k * 2) (.string (nm l k))
      have hs2 := hs1.1.stored (k * 2 + 1) (.string (Plain.id l k))
      have HO := hide hs2.1
      have HB := hide (Below.grown (Below.grown (unhide HW) hs1.2 (unhide HW).size (fun j hj => by cases hj; exact Nat.le_refl _)) hs2.2 (by have := (unhide HW).size; simpa using this) (fun j hj => by cases hj; exact Nat.le_refl _))
      have HF := hide (hfill.step hlt hxl)
      clear hs1 hs2 hown hfill hxl hy0 hy1
      go_wp2_with fail
      refine (unhide HA).mono ?_
      rintro e w2 ⟨rfl, n, rfl⟩
      go_wp2
      go_roundw
      case rel => exact ⟨k + 1, by omega, by go_num, ⟨_, unhide HO, unhide HF⟩, ⟨(unhide HB).os, (unhide HB).tape, (unhide HB).output, (unhide HB).size, (unhide HB).block⟩⟩
      case measure => simp [intOf]; omega
    · obtain ⟨xs, hown, hfill⟩ := unhide HX
      have hke : k = l.length := by omega
      rw [hke] at hfill
      have hall := hfill.all hown.1
      rw [hall] at hown
      have HO := hide hown
      clear hown hfill hke hall
      go_wp2
      go_ret
      exact ⟨_, rfl, unhide HO, unhide HW⟩

end Go.Proofs.Qxb6602077a
