/-
  WALKS of the seat b6602165a: closeStars (32), closeDeep (29), cloneBytes (11), cloneStrings (12).
-/
import Derived.Test.Qxb6602165aOwn
import Derived.Lib.LazyBuf
namespace Go.Proofs.Qxb6602165a
open Go.RowKit Plain

/-- A row of bools, all of the block g. -/
def Bools (w : World) (g L : Nat) (v : Nat → Bool) : Prop := ∃ xs, w.ownsRow g 4 1 (.slice (some ⟨g, 0, none⟩) L L) L xs ∧ ∀ j, j < L → xs[j]? = some (.bool (v j))

theorem Bools.cell {w : World} {g L : Nat} {v : Nat → Bool} (h : Bools w g L v) (j : Nat) (hj : j < L) : w.cell? ⟨g, j, none⟩ = some (.bool (v j)) := by
  obtain ⟨xs, h1, h2⟩ := h
  exact (h1.cellAt j (by omega)).trans (h2 j hj)
theorem Bools.frozen {w : World} {g L : Nat} {v : Nat → Bool} (h : Bools w g L v) (j : Nat) : w.frozen? ⟨g, j, none⟩ = false := by
  obtain ⟨xs, h1, h2⟩ := h
  exact h1.frozenAt j
theorem Bools.lt {w : World} {g L : Nat} {v : Nat → Bool} (h : Bools w g L v) : g < w.heap.size := by
  obtain ⟨xs, h1, _⟩ := h
  exact (h1.lt g rfl).2
theorem Bools.congr {w : World} {g L : Nat} {v v' : Nat → Bool} (h : Bools w g L v) (e : ∀ j, j < L → v j = v' j) : Bools w g L v' := by
  obtain ⟨xs, h1, h2⟩ := h
  exact ⟨xs, h1, fun j hj => by rw [h2 j hj, e j hj]⟩
theorem Bools.set {w : World} {g L : Nat} {v : Nat → Bool} (h : Bools w g L v) (i : Nat) (b : Bool) : Bools (w.setCell ⟨g, i, none⟩ (.bool b)) g L (fun j => if j = i then b else v j) := by
  obtain ⟨xs, h1, h2⟩ := h
  have hl := h1.1
  refine ⟨_, (h1.stored i (.bool b)).1, fun j hj => ?_⟩
  show _ = some (Value.bool (if j = i then b else v j))
  by_cases e : j = i
  · subst e
    rw [List.getElem?_set_self (by omega), if_pos rfl]
  · rw [List.getElem?_set_ne (by omega), if_neg e]
    exact h2 j hj
theorem Bools.below {w w' : World} {g L B : Nat} {v : Nat → Bool} (h : Bools w g L v) (hb : Below B w w') (hg : g < B) : Bools w' g L v := by
  obtain ⟨xs, h1, h2⟩ := h
  refine ⟨xs, ⟨h1.1, ?_⟩, h2⟩
  rcases h1.2 with ⟨e, _⟩ | ⟨g', cap, cur, e, a, hh, r⟩
  · cases e
  · have : g' = g := by simp only [Value.slice.injEq, Option.some.injEq, Addr.mk.injEq] at e; exact e.1.1.symm
    subst this
    exact .inr ⟨g', cap, cur, e, a, (hb.block g' hg).trans hh, r⟩
theorem Bools.row {w : World} {g L B : Nat} {v : Nat → Bool} (h : Bools w g L v) (hg : g < B) : Row B w (some ⟨g, 0, none⟩) L (fun j => .bool (v j)) :=
  .inr ⟨g, 0, rfl, hg, fun k hk => by rw [Nat.zero_add]; exact h.cell k hk⟩
theorem Bools.drew {w : World} {g L : Nat} {v : Nat → Bool} (h : Bools w g L v) : Bools w.drew g L v := h.below (B := g + 1) (Below.refl _ _).drew (Nat.lt_succ_self _)

theorem bools_made {w' : World} {g L : Nat} (h : w'.ownsRow g 4 1 (.slice (some ⟨g, 0, none⟩) L L) L (madeCells (Value.bool false).cells (L * 1)).toList) : Bools w' g L (fun _ => false) := by
  refine ⟨_, h, fun j hj => ?_⟩
  have e : (Value.bool false).cells = #[.bool false] := rfl
  rw [e, toList_madeCells_one]
  simp [hj]

/-- The closure, done up to j. -/
def clj (st v : Nat → Bool) (j i : Nat) : Bool := if i ≤ j then cl st v i else v i
theorem clj_hit {st v : Nat → Bool} {j : Nat} (h1 : cl st v j = true) (h2 : st j = true) (i : Nat) : (if i = j + 1 then true else clj st v j i) = clj st v (j + 1) i := by
  unfold clj
  by_cases e : i = j + 1
  · subst e
    rw [if_pos rfl, if_pos (Nat.le_refl _)]
    simp [cl, h1, h2]
  · rw [if_neg e]
    by_cases e2 : i ≤ j
    · rw [if_pos e2, if_pos (by omega)]
    · rw [if_neg e2, if_neg (by omega)]
theorem clj_miss {st v : Nat → Bool} {j : Nat} (h : (cl st v j && st j) = false) (i : Nat) : clj st v j i = clj st v (j + 1) i := by
  unfold clj
  by_cases e : i = j + 1
  · subst e
    rw [if_neg (by omega), if_pos (Nat.le_refl _)]
    simp only [cl]
    rw [h, Bool.or_false]
  · by_cases e2 : i ≤ j
    · rw [if_pos e2, if_pos (by omega)]
    · rw [if_neg e2, if_neg (by omega)]
theorem clj_self (st v : Nat → Bool) (j : Nat) : clj st v j j = cl st v j := if_pos (Nat.le_refl _)
theorem clj_zero (st v : Nat → Bool) (i : Nat) : v i = clj st v 0 i := by
  unfold clj
  by_cases e : i ≤ 0
  · have : i = 0 := by omega
    subst this
    rfl
  · rw [if_neg e]

set_option maxHeartbeats 4000000 in
theorem closeDeep29 (st v : Nat → Bool) (M g : Nat) (ao : Option Addr) (c : Nat) (w : World) (hM : M ≤ 4097) (hr : Row g w ao M (fun j => .bool (st j))) (hb : Bools w g (M + 1) v) :
    Calls Try.prog 29 #[.slice ao M c, .slice (some ⟨g, 0, none⟩) ((M + 1 : Nat)) ((M + 1 : Nat))] w fun e w' => e = .returned (.tuple #[]) ∧ Bools w' g (M + 1) (cl st v) ∧ Below g w w' := by
  have HR := hide hr
  have HB := hide hb
  clear hr hb
  go_enter Try.func29, Try.ntmps29
  go_wp2
  go_loopw [4] (fun i wr => ∃ j : Nat, j ≤ M ∧ i = .int .i64 j ∧ Hid (Bools wr g (M + 1) (clj st v j)) ∧ Hid (Below g w wr)) (fun i _ => M - (intOf i).toNat)
  case atStart => exact ⟨0, Nat.zero_le _, rfl, (unhide HB).congr (fun j _ => clj_zero st v j), Below.refl _ _⟩
  case round =>
    obtain ⟨j, hj, rfl, HX, HW⟩ := hrel
    by_cases hlt : j < M
    · rcases (unhide HR).below (unhide HW) with h0 | ⟨b, off, rfl, _, hc⟩
      · omega
      have c0 : wr.cell? ⟨b, off + j, none⟩ = some (.bool (st j)) := hc j hlt
      have c1 : wr.cell? ⟨g, j, none⟩ = some (.bool (cl st v j)) := by rw [← clj_self]; exact (unhide HX).cell j (by omega)
      have c2 : wr.cell? ⟨g, j + 1, none⟩ = some (.bool (clj st v j (j + 1))) := (unhide HX).cell (j + 1) (by omega)
      have f2 := (unhide HX).frozen (j + 1)
      clear hc
      cases h1 : cl st v j
      · rw [h1] at c1
        have HN := hide ((unhide HX).congr (fun i _ => clj_miss (by rw [h1]; rfl) i))
        clear h1
        go_wp2
        go_roundw
        case rel => exact ⟨j + 1, hlt, by go_num, HN, HW⟩
        case measure => simp [intOf]; omega
      · rw [h1] at c1
        cases h2 : st j
        · rw [h2] at c0
          have HN := hide ((unhide HX).congr (fun i _ => clj_miss (by rw [h1, h2]; rfl) i))
          clear h1 h2
          go_wp2
          go_roundw
          case rel => exact ⟨j + 1, hlt, by go_num, HN, HW⟩
          case measure => simp [intOf]; omega
        · rw [h2] at c0
          have HN := hide (((unhide HX).set (j + 1) true).congr (fun i _ => clj_hit h1 h2 i))
          have HW2 := hide ((unhide HW).setCell (p := ⟨g, j + 1, none⟩) (Nat.le_refl _) (.bool true))
          clear h1 h2
          go_wp2
          go_roundw
          case rel => exact ⟨j + 1, hlt, by go_num, HN, HW2⟩
          case measure => simp [intOf]; omega
    · have HN : Hid (Bools wr g (M + 1) (cl st v)) := (unhide HX).congr (fun i hi => by unfold clj; rw [if_pos (by omega)])
      go_wp2
      go_end0
      exact ⟨rfl, unhide HN, unhide HW⟩

set_option maxHeartbeats 4000000 in
theorem closeStars32 (p : Nat → Nat) (n : Nat) (hp : Prg p n) (s m : Nat) (v : Nat → Bool) (g : Nat) (ao ao2 : Option Addr) (c c2 : Nat) (w : World) (hs : Seg p n s m) (hr : Row g w ao n (pv p)) (hr2 : Row g w ao2 m (iv (it p n s))) (hb : Bools w g (m + 1) v) :
    Calls Try.prog 32 #[.slice ao n c, .slice ao2 m c2, .slice (some ⟨g, 0, none⟩) ((m + 1 : Nat)) ((m + 1 : Nat))] w fun e w' => e = .returned (.tuple #[]) ∧ Bools w' g (m + 1) (cl (stB p n s) v) ∧ Below g w w' := by
  have hn := hp.len
  have HR := hide hr
  have HR2 := hide hr2
  have HB := hide hb
  have HS := hide hs
  have hmn : m ≤ n := by
    have := it_ge (p := p) (n := n) s m
    have := hs.le m (Nat.le_refl _)
    omega
  clear hr hr2 hb hs hp
  go_enter Try.func32, Try.ntmps32
  go_wp2
  go_loopw [6] (fun i wr => ∃ j : Nat, j ≤ m ∧ i = .int .i64 j ∧ Hid (Bools wr g (m + 1) (clj (stB p n s) v j)) ∧ Hid (Below g w wr)) (fun i _ => m - (intOf i).toNat)
  case atStart => exact ⟨0, Nat.zero_le _, rfl, (unhide HB).congr (fun j _ => clj_zero (stB p n s) v j), Below.refl _ _⟩
  case round =>
    obtain ⟨j, hj, rfl, HX, HW⟩ := hrel
    by_cases hlt : j < m
    · have hkn := (unhide HS).lt j hlt
      rcases (unhide HR).below (unhide HW) with h0 | ⟨b, off, rfl, _, hc⟩
      · omega
      rcases (unhide HR2).below (unhide HW) with h0 | ⟨b2, off2, rfl, _, hc2⟩
      · omega
      have c3 : wr.cell? ⟨b2, off2 + j, none⟩ = some (.int .i64 (it p n s j : Int)) := hc2 j hlt
      have c0 : wr.cell? ⟨b, off + it p n s j, none⟩ = some (.int .u8 (p (it p n s j) : Int)) := hc _ hkn
      have c1 : wr.cell? ⟨g, j, none⟩ = some (.bool (cl (stB p n s) v j)) := by rw [← clj_self]; exact (unhide HX).cell j (by omega)
      have c2 : wr.cell? ⟨g, j + 1, none⟩ = some (.bool (clj (stB p n s) v j (j + 1))) := (unhide HX).cell (j + 1) (by omega)
      have f2 := (unhide HX).frozen (j + 1)
      have HST : Hid (stB p n s j = decide (p (it p n s j) = 42)) := rfl
      generalize it p n s j = k at *
      clear hc hc2
      cases h1 : cl (stB p n s) v j
      · rw [h1] at c1
        have HN := hide ((unhide HX).congr (fun i _ => clj_miss (by rw [h1]; rfl) i))
        clear h1
        go_wp2
        go_roundw
        case rel => exact ⟨j + 1, hlt, by go_num, HN, HW⟩
        case measure => simp [intOf]; omega
      · rw [h1] at c1
        by_cases e : p k = 42
        · have b1 : ((p k : Int) == 42) = true := beq_yes (b := 42) e
          have h2 : stB p n s j = true := by rw [unhide HST]; exact decide_eq_true e
          have HN := hide (((unhide HX).set (j + 1) true).congr (fun i _ => clj_hit h1 h2 i))
          have HW2 := hide ((unhide HW).setCell (p := ⟨g, j + 1, none⟩) (Nat.le_refl _) (.bool true))
          clear h1 h2 e
          go_wp2
          go_roundw
          case rel => exact ⟨j + 1, hlt, by go_num, HN, HW2⟩
          case measure => simp [intOf]; omega
        · have b1 : ((p k : Int) == 42) = false := beq_no (b := 42) e
          have h2 : stB p n s j = false := by rw [unhide HST]; exact decide_eq_false e
          have HN := hide ((unhide HX).congr (fun i _ => clj_miss (by rw [h1, h2]; rfl) i))
          clear h1 h2 e
          go_wp2
          go_roundw
          case rel => exact ⟨j + 1, hlt, by go_num, HN, HW⟩
          case measure => simp [intOf]; omega
    · have HN : Hid (Bools wr g (m + 1) (cl (stB p n s) v)) := (unhide HX).congr (fun i hi => by unfold clj; rw [if_pos (by omega)])
      go_wp2
      go_end0
      exact ⟨rfl, unhide HN, unhide HW⟩

theorem own_filled {w : World} {e : TypeId} {g n : Nat} {xs : List Value} {f : Nat → Value} (h : w.ownsRow g e 1 (.slice (some ⟨g, 0, none⟩) n n) n xs) (hx : ∀ j, j < n → xs[j]? = some (f j)) : Row w.heap.size w (some ⟨g, 0, none⟩) n f :=
  .inr ⟨g, 0, rfl, (h.lt g rfl).2, fun k hk => by rw [Nat.zero_add, h.cellAt k (by omega)]; exact hx k hk⟩

theorem filled_step {xs : List Value} {f : Nat → Value} {k n : Nat} (hl : xs.length = n * 1) (hk : k < n) (h : ∀ j, j < k → xs[j]? = some (f j)) : ∀ j, j < k + 1 → (xs.set k (f k))[j]? = some (f j) := by
  intro j hj
  by_cases e : j = k
  · subst e
    rw [List.getElem?_set_self (by omega)]
  · rw [List.getElem?_set_ne (by omega)]
    exact h j (by omega)

theorem get_some {α : Type} (xs : List α) (j : Nat) (h : j < xs.length) : ∃ y, xs[j]? = some y := ⟨xs[j], List.getElem?_eq_getElem h⟩

set_option maxHeartbeats 4000000 in
theorem cloneBytes11 {B : Nat} (p : Nat → Nat) (n : Nat) (ao : Option Addr) (c : Nat) (w : World) (hB : B ≤ w.heap.size) (hn : n ≤ 4096) (hnil : ao = none → n = 0 ∧ c = 0) (hr : Row B w ao n (pv p)) :
    Calls Try.prog 11 #[.slice ao n c] w fun e w' => ∃ ao' c', e = .returned (.slice ao' n c') ∧ Row w'.heap.size w' ao' n (pv p) ∧ Below w.heap.size w w' := by
  cases ao with
  | none =>
    obtain ⟨rfl, rfl⟩ := hnil rfl
    have hq := fun W => run_eql_slice_nil (P := Try.prog) W 22 5 none 0 0 Try.underlying22
    go_enter Try.func11, Try.ntmps11
    go_wp2
    go_ret
    exact ⟨none, ⟨0, rfl⟩, .inl rfl, Below.refl _ _⟩
  | some a =>
    have HR := hide hr
    clear hnil hr
    have hq := fun W => run_eql_slice_nil (P := Try.prog) W 22 5 (some a) n c Try.underlying22
    obtain ⟨i0, hi, hz0, hz1, hz2⟩ := info_parts Try.info5
    have HI := hide (And.intro hi (And.intro hz0 (And.intro hz1 hz2)))
    clear hi hz0 hz1 hz2
    go_enter Try.func11, Try.ntmps11
    go_wp2_with (at_make; refine wpList_make_full _ rfl _ _ 22 rfl w.heap.size 5 i0 _ 1 Try.underlying22 (unhide HI).1 (unhide HI).2.1 (unhide HI).2.2.1 _ _ _ _ n rfl rfl rfl rfl (by rw [(unhide HI).2.2.2]; omega) (by unfold maxLen; omega) (Nat.le_refl _) ?_; intro w1 hown hgrow)
    have hB1 := Below.grown (Below.refl w.heap.size w) hgrow (Nat.le_refl _) (fun j hj => by cases hj)
    have H1 := hide (And.intro hown hB1)
    clear hown hgrow hB1
    go_loopw [4] (fun i wr => ∃ k : Nat, k ≤ n ∧ i = .int .i64 k ∧ Hid (∃ xs, wr.ownsRow w.heap.size 5 1 (.slice (some ⟨w.heap.size, 0, none⟩) n n) n xs ∧ ∀ j, j < k → xs[j]? = some ((pv p) j)) ∧ Hid (Below w.heap.size w wr)) (fun i _ => n - (intOf i).toNat)
    case atStart => exact ⟨0, Nat.zero_le _, rfl, ⟨_, (unhide H1).1, fun j hj => by omega⟩, (unhide H1).2⟩
    case round =>
      clear H1
      obtain ⟨k, hk, rfl, HX, HW⟩ := hrel
      by_cases hlt : k < n
      · rcases (unhide HR).below ((unhide HW).mono hB) with h0 | ⟨b, off, ha, hbl, hc⟩
        · omega
        cases ha
        have h1 : wr.cell? ⟨b, off + k, none⟩ = some (.int .u8 (p k : Int)) := hc k hlt
        clear hc
        obtain ⟨xs, hown, hfill⟩ := unhide HX
        have hxl := hown.1
        obtain ⟨y0, hy0⟩ := get_some xs k (by omega)
        have g0 : wr.cell? ⟨w.heap.size, k, none⟩ = some y0 := (hown.cellAt _ (by omega)).trans hy0
        have f0 := hown.frozenAt k
        have hs1 := hown.stored k (.int .u8 (p k : Int))
        have HO := hide hs1.1
        have HBn := hide (Below.grown (unhide HW) hs1.2 (unhide HW).size (fun j hj => by cases hj; exact Nat.le_refl _))
        have HF := hide (filled_step (f := (pv p)) hxl hlt hfill)
        clear hs1 hown hfill hxl hy0
        go_wp2
        go_roundw
        case rel => exact ⟨k + 1, by omega, by go_num, ⟨_, unhide HO, unhide HF⟩, unhide HBn⟩
        case measure => simp [intOf]; omega
      · obtain ⟨xs, hown, hfill⟩ := unhide HX
        have HO := hide (own_filled hown (fun j hj => hfill j (by omega)))
        clear hown hfill HX
        go_wp2
        go_ret
        exact ⟨_, _, rfl, unhide HO, unhide HW⟩

set_option maxHeartbeats 4000000 in
theorem cloneStrings12 {B : Nat} (nm : Nat → ByteArray) (n : Nat) (ao : Option Addr) (c : Nat) (w : World) (hB : B ≤ w.heap.size) (hn : n ≤ 4096) (hnil : ao = none → n = 0 ∧ c = 0) (hr : Row B w ao n (nv nm)) :
    Calls Try.prog 12 #[.slice ao n c] w fun e w' => ∃ ao' c', e = .returned (.slice ao' n c') ∧ Row w'.heap.size w' ao' n (nv nm) ∧ Below w.heap.size w w' := by
  cases ao with
  | none =>
    obtain ⟨rfl, rfl⟩ := hnil rfl
    have hq := fun W => run_eql_slice_nil (P := Try.prog) W 23 9 none 0 0 Try.underlying23
    go_enter Try.func12, Try.ntmps12
    go_wp2
    go_ret
    exact ⟨none, ⟨0, rfl⟩, .inl rfl, Below.refl _ _⟩
  | some a =>
    have HR := hide hr
    clear hnil hr
    have hq := fun W => run_eql_slice_nil (P := Try.prog) W 23 9 (some a) n c Try.underlying23
    obtain ⟨i0, hi, hz0, hz1, hz2⟩ := info_parts Try.info9
    have HI := hide (And.intro hi (And.intro hz0 (And.intro hz1 hz2)))
    clear hi hz0 hz1 hz2
    go_enter Try.func12, Try.ntmps12
    go_wp2_with (at_make; refine wpList_make_full _ rfl _ _ 23 rfl w.heap.size 9 i0 _ 1 Try.underlying23 (unhide HI).1 (unhide HI).2.1 (unhide HI).2.2.1 _ _ _ _ n rfl rfl rfl rfl (by rw [(unhide HI).2.2.2]; omega) (by unfold maxLen; omega) (Nat.le_refl _) ?_; intro w1 hown hgrow)
    have hB1 := Below.grown (Below.refl w.heap.size w) hgrow (Nat.le_refl _) (fun j hj => by cases hj)
    have H1 := hide (And.intro hown hB1)
    clear hown hgrow hB1
    go_loopw [4] (fun i wr => ∃ k : Nat, k ≤ n ∧ i = .int .i64 k ∧ Hid (∃ xs, wr.ownsRow w.heap.size 9 1 (.slice (some ⟨w.heap.size, 0, none⟩) n n) n xs ∧ ∀ j, j < k → xs[j]? = some ((nv nm) j)) ∧ Hid (Below w.heap.size w wr)) (fun i _ => n - (intOf i).toNat)
    case atStart => exact ⟨0, Nat.zero_le _, rfl, ⟨_, (unhide H1).1, fun j hj => by omega⟩, (unhide H1).2⟩
    case round =>
      clear H1
      obtain ⟨k, hk, rfl, HX, HW⟩ := hrel
      by_cases hlt : k < n
      · rcases (unhide HR).below ((unhide HW).mono hB) with h0 | ⟨b, off, ha, hbl, hc⟩
        · omega
        cases ha
        have h1 : wr.cell? ⟨b, off + k, none⟩ = some (.string (nm k)) := hc k hlt
        clear hc
        obtain ⟨xs, hown, hfill⟩ := unhide HX
        have hxl := hown.1
        obtain ⟨y0, hy0⟩ := get_some xs k (by omega)
        have g0 : wr.cell? ⟨w.heap.size, k, none⟩ = some y0 := (hown.cellAt _ (by omega)).trans hy0
        have f0 := hown.frozenAt k
        have hs1 := hown.stored k (.string (nm k))
        have HO := hide hs1.1
        have HBn := hide (Below.grown (unhide HW) hs1.2 (unhide HW).size (fun j hj => by cases hj; exact Nat.le_refl _))
        have HF := hide (filled_step (f := (nv nm)) hxl hlt hfill)
        clear hs1 hown hfill hxl hy0
        go_wp2
        go_roundw
        case rel => exact ⟨k + 1, by omega, by go_num, ⟨_, unhide HO, unhide HF⟩, unhide HBn⟩
        case measure => simp [intOf]; omega
      · obtain ⟨xs, hown, hfill⟩ := unhide HX
        have HO := hide (own_filled hown (fun j hj => hfill j (by omega)))
        clear hown hfill HX
        go_wp2
        go_ret
        exact ⟨_, _, rfl, unhide HO, unhide HW⟩
end Go.Proofs.Qxb6602165a
