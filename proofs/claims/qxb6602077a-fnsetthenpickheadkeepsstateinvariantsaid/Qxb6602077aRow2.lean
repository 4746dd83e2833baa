/-
  The seat b6602077a: rows of two-cell elements: what copy, clear and stores of several cells leave. No walk here.
-/
import Derived.Test.Qxb6602077aMake
import Derived.Laws.IdiomCopy
namespace Go.Proofs.Qxb6602077a
open Go.RowKit Plain

/-- vs laid over xs from place o on. -/
def lay (xs : List Value) (o : Nat) (vs : List Value) : List Value := xs.take o ++ vs ++ xs.drop (o + vs.length)

theorem lay_nil (xs : List Value) (o : Nat) : lay xs o [] = xs := by simp [lay]

theorem lay_cons (xs : List Value) (o : Nat) (v : Value) (r : List Value) (h : o < xs.length) : lay (xs.set o v) (o + 1) r = lay xs o (v :: r) := by
  unfold lay
  rw [List.take_succ_eq_append_getElem (by simpa using h), List.getElem_set_self, List.take_set_of_le (Nat.le_refl _), List.drop_set, if_pos (by omega)]
  have e : o + 1 + r.length = o + (r.length + 1) := by omega
  simp only [List.append_assoc, List.cons_append, List.nil_append, List.length_cons, e]

theorem lay_length (xs : List Value) (o : Nat) (vs : List Value) (h : o + vs.length ≤ xs.length) : (lay xs o vs).length = xs.length := by
  unfold lay
  simp only [List.length_append, List.length_take, List.length_drop]
  omega

theorem setCells_row {e : TypeId} {g : Nat} : ∀ (vs : List Value) (o : Nat) (w : World) (cur : Array Value), w.heap[g]? = some (.cells cur e (0, 0)) → o + vs.length ≤ cur.size →
    (w.setCells g o vs).heap[g]? = some (.cells (lay cur.toList o vs).toArray e (0, 0))
  | [], o, w, cur, h, _ => by simpa [World.setCells, lay_nil] using h
  | v :: r, o, w, cur, h, hb => by
    simp only [List.length_cons] at hb
    have h2 := setCells_row r (o + 1) (w.setCell ⟨g, o, none⟩ v) (cur.setIfInBounds o v) (setCell_block_same h v) (by simp; omega)
    rw [World.setCells, h2, Array.toList_setIfInBounds, lay_cons _ _ _ _ (by simp; omega)]

theorem setCells_grown (g : Nat) : ∀ (vs : List Value) (o : Nat) (w : World), w.grownBy (w.setCells g o vs) (some g)
  | [], _, w => ⟨rfl, rfl, rfl, Nat.le_refl _, fun _ _ _ => rfl⟩
  | v :: r, o, w => by
    have h := setCells_grown g r (o + 1) (w.setCell ⟨g, o, none⟩ v)
    rw [World.setCells]
    refine ⟨h.os, h.tape, h.output, by have := h.size; simpa using this, fun k hk hne => ?_⟩
    rw [h.block k (by simpa using hk) hne]
    exact Below.heap_setCell _ _ _ _ (fun e => hne (by simp [e]))

theorem grownBy_trans {a b c : World} {row : Option Nat} (h : a.grownBy b row) (k : b.grownBy c row) : a.grownBy c row :=
  ⟨k.os.trans h.os, k.tape.trans h.tape, k.output.trans h.output, Nat.le_trans h.size k.size, fun j hj hne => (k.block j (Nat.lt_of_lt_of_le hj h.size) hne).trans (h.block j hj hne)⟩

theorem grownBy_drew {a b : World} {row : Option Nat} (h : a.grownBy b row) : a.grownBy b.drew row := ⟨h.os, h.tape, h.output, h.size, h.block⟩

/-- An owned row, as its block has it. -/
theorem own_mk {w : World} {B g n cap : Nat} {cur : Array Value} {xs : List Value} (hB : B ≤ g) (hg : w.heap[g]? = some (.cells cur 51 (0, 0))) (hn : n ≤ cap) (hc : cap ≤ maxLen) (hs : cur.size = cap * 2) (hx : cur.toList.take (n * 2) = xs) :
    w.ownsRow B 51 2 (.slice (some ⟨g, 0, none⟩) n cap) n xs :=
  ⟨by rw [← hx, List.length_take, Array.length_toList, hs]; omega, .inr ⟨g, cap, cur, rfl, hB, hg, hn, hc, hs, hx⟩⟩

/-- 'copy(d, s)' of two-cell elements: all is read before anything is written. -/
theorem run_copy_cells2 {P : Program} (w : World) (dT sT ty elem : TypeId) (b o dLen dCap : Nat) (a : Addr) (sLen sCap : Nat) (cs : List Value)
    (hu : P.underlying dT = some (.slice elem)) (hs : (P.info? elem).map (·.size) = some 2) (hn : cs.length = Nat.min sLen dLen * 2)
    (hsrc : ∀ j v, cs[j]? = some v → w.cell? (a.add j) = some v) (hc : ∀ j, j < cs.length → (w.cell? ⟨b, o + j, none⟩).isSome = true) (hf : ∀ j, j < cs.length → w.frozen? ⟨b, o + j, none⟩ = false) (h1 : ∀ v ∈ cs, v.oneCell' = true) :
    (Builtin.copy_ #[dT, sT] ty #[.slice (some ⟨b, o, none⟩) dLen dCap, .slice (some a) sLen sCap]).run P w = .ok (goInt (Nat.min sLen dLen)) (w.setCells b o cs) := by
  have hl := run_loadCells_list (P := P) w a cs hsrc
  have hst := run_storeCells_cells (P := P) b o cs 0 w (by simpa using hc) (by simpa using hf) h1
  cases hq : P.info? elem with
  | none => simp [hq] at hs
  | some i =>
    have hi : i.size = 2 := by simpa [hq] using hs
    simp [Builtin.copy_, run_underlying hu, Builtin.lenOf, Builtin.firstCells, sizeOf, typeInfo, hq, hi, ← hn, hl, hst]

/-- 'clear(s)' of one two-cell element. -/
theorem run_clear_one2 {P : Program} (w : World) (t e ty : TypeId) (z0 z1 : Value) (ht : P.underlying t = some (.slice e)) (hv : ∀ w, (zeroValue e).run P w = .ok (.agg #[z0, z1]) w) (h0 : z0.oneCell' = true) (h1 : z1.oneCell' = true) (b o n c : Nat) (hn : n = 1)
    (hc : ∀ j, j < 2 → (w.cell? ⟨b, o + j, none⟩).isSome = true) (hf : ∀ j, j < 2 → w.frozen? ⟨b, o + j, none⟩ = false) :
    (Builtin.clear_ #[t] ty #[.slice (some ⟨b, o, none⟩) n c]).run P w = .ok (.tuple #[]) (w.setCells b o [z0, z1]) := by
  subst hn
  have hst := run_storeCells_cells (P := P) b o [z0, z1] 0 w (by simpa using hc) (by simpa using hf) (by
    intro v hv'
    simp only [List.mem_cons, List.not_mem_nil, or_false] at hv'
    rcases hv' with rfl | rfl
    · exact h0
    · exact h1)
  simp only [Nat.add_zero] at hst
  have hzc : (Builtin.zeroCells (Value.agg #[z0, z1]).cells 1).toList = [z0, z1] := by
    simp [Builtin.zeroCells, Value.cells]
    rfl
  simp [Builtin.clear_, run_underlying ht, hv, hzc, hst]

theorem flat_take (l : List R) (i : Nat) (hi : i ≤ l.length) : (flat l).take (i * 2) = flat (l.take i) := by
  have h : flat l = flat (l.take i) ++ flat (l.drop i) := by rw [← flat_append, List.take_append_drop]
  rw [h, List.take_left' (by rw [flat_length, List.length_take]; omega)]

theorem flat_drop (l : List R) (i : Nat) (hi : i ≤ l.length) : (flat l).drop (i * 2) = flat (l.drop i) := by
  have h : flat l = flat (l.take i) ++ flat (l.drop i) := by rw [← flat_append, List.take_append_drop]
  rw [h, List.drop_left' (by rw [flat_length, List.length_take]; omega)]

theorem flat_one (l : List R) : ∀ v ∈ flat l, v.oneCell' = true := by
  intro v hv
  unfold flat at hv
  rw [List.mem_flatMap] at hv
  obtain ⟨r, _, h⟩ := hv
  simp only [List.mem_cons, List.not_mem_nil, or_false] at h
  rcases h with rfl | rfl <;> rfl

end Go.Proofs.Qxb6602077a
