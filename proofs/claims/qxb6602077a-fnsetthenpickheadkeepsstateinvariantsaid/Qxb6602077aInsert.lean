/-
  WALKS of the seat b6602077a: slices.Insert(s, i, r) (40) on a row of the call's own.
-/
import Derived.Test.Qxb6602077aDelete
import Derived.Lib.AppendZerosOnto
import Derived.Lib.Overlaps
import Derived.Laws.Externs
namespace Go.Proofs.Qxb6602077a
open Go.RowKit Plain

/-- 'copy' in a walk, its run known by an equation. -/
theorem wpList_copy_by {P : Program} (w : World) {ops : Array Oper} {rest : List Oper} {o : Oper} {a : Act} {Q : Exit → Act → World → Prop} (hg : o.guard = none) (d s : Operand) (t : TypeId)
    (ho : o.op = .call { callee := .builtin .copy, args := #[d, s], argTypes := #[t, t] }) (v u : Value) (hd : a.eval d = v) (hs : a.eval s = u) {v' : Value} {w' : World}
    (hr : (Builtin.copy_ #[t, t] o.type #[v, u]).run P w = .ok v' w') (h : wpList P ops Q rest (a.put o.dst v') w') : wpList P ops Q (o :: rest) a w := by
  refine wpList_plain hg fun K hK => ?_
  unfold Oper.wp execOp
  simp only [ho, resolve, invoke, builtin, Sem.run_bind, Sem.run_pure, Result.andThen_ok, List.map_toArray, List.map_cons, List.map_nil, hd, hs, hr]
  exact hK _ _ h

/-- .. and as one step of a region that draws. -/
theorem step_copy_by {P : Program} {ops : Array Oper} {o : Oper} {a : Act} {w : World} {K : Act → World → Prop} {Q : Exit → Act → World → Prop} {E : Prop}
    (hg : o.guard = none) (d x : Operand) (t : TypeId) (hop : o.op = Op.call { callee := Callee.builtin Builtin.copy, args := #[d, x], argTypes := #[t, t] })
    (v u : Value) (hd : a.eval d = v) (hx : a.eval x = u) {v' : Value} {w' : World} (hr : (Builtin.copy_ #[t, t] o.type #[v, u]).run P w = .ok v' w') (hK : K (a.put o.dst v') w') :
    if Region.wanted o (yielded ops a.tmps) = true then Oper.wp P o a w K Q else E := by
  have hw : Region.wanted o (yielded ops a.tmps) = true := by simp [Region.wanted, hg]
  rw [if_pos hw]
  unfold Oper.wp
  simp [execOp, hop, resolve, invoke, builtin, hd, hx, hr, Result.andThen]
  exact hK

/-- The new element, in a block of its own. -/
def NewAt (w : World) (vb : Nat) (x d : ByteArray) : Prop := w.heap[vb]? = some (.cells #[.string x, .string d] 51 (0, 0))

theorem NewAt.get {w : World} {vb : Nat} {x d : ByteArray} (h : NewAt w vb x d) : ∀ j u, [Value.string x, .string d][j]? = some u → w.cell? ⟨vb, j, none⟩ = some u := by
  intro j u hj
  unfold NewAt at h
  rw [cell_row h]
  match j, hj with
  | 0, hj => simpa using hj
  | 1, hj => simpa using hj
  | j + 2, hj => simp at hj

theorem two_one (x d : ByteArray) : ∀ u ∈ [Value.string x, .string d], u.oneCell' = true := by
  intro u hu
  simp only [List.mem_cons, List.not_mem_nil, or_false] at hu
  rcases hu with rfl | rfl <;> rfl

/-! ### at the end -/
set_option maxHeartbeats 4000000 in
set_option maxRecDepth 1000000 in
theorem insert_end {B vb n : Nat} {v : Value} {xs : List Value} {x d : ByteArray} {w : World} (hown : w.ownsRow B 51 2 v n xs) (hn : n ≤ 1048576) (hnew : NewAt w vb x d) (hB : B ≤ w.heap.size) :
    Calls Try.prog 40 #[v, .int .i64 n, .slice (some ⟨vb, 0, none⟩) 1 1] w fun e w' => ∃ v', e = .returned v' ∧ w'.ownsRow B 51 2 v' (n + 1) (xs ++ [.string x, .string d]) ∧ w.grownBy w' v.ownBlock := by
  obtain ⟨i0, hi, hz0, hz1, hz2⟩ := info_parts Try.info51
  have HI := hide (And.intro hi (And.intro hz0 (And.intro hz1 hz2)))
  clear hi hz0 hz1 hz2
  have HG : Hid (∀ j u, [Value.string x, .string d][j]? = some u → w.cell? ((⟨vb, 0, none⟩ : Addr).add j) = some u) := by
    intro j u hj
    rw [Addr.add_lit, Nat.zero_add]
    exact hnew.get j u hj
  have hnn : ((n : Int) == (n : Int)) = true := by simp
  have HO := hide hown
  clear hnew
  rcases hown.2 with ⟨rfl, rfl⟩ | ⟨g, cap, cur, rfl, hBg, hg, hnc, hcm, hcs, htake⟩
  · clear hown
    go_enter Try.func40, Try.ntmps40
    go_wp2_with (at_builtin; refine wpList_append_own _ rfl _ _ 44 rfl B 51 i0 _ 2 32 Try.underlying44 (unhide HI).1 (unhide HI).2.1 (unhide HI).2.2.1 (unhide HI).2.2.2 rfl (by decide) _ 0 xs rfl (unhide HO) ⟨vb, 0, none⟩ 1 1 [.string x, .string d] rfl rfl (unhide HG) (two_one x d) (by decide) (by decide) hB ?_; intro v' w1 h1 h2 h3; have H1 := hide (And.intro h1 h2); clear h1 h2 h3)
    go_ret
    exact ⟨_, rfl, (unhide H1).1, (unhide H1).2⟩
  · clear hown hg htake hcs
    unfold maxLen at hcm
    go_enter Try.func40, Try.ntmps40
    go_wp2_with (at_builtin; refine wpList_append_own _ rfl _ _ 44 rfl B 51 i0 _ 2 32 Try.underlying44 (unhide HI).1 (unhide HI).2.1 (unhide HI).2.2.1 (unhide HI).2.2.2 rfl (by decide) _ n xs rfl (unhide HO) ⟨vb, 0, none⟩ 1 1 [.string x, .string d] rfl rfl (unhide HG) (two_one x d) (by unfold maxLen; omega) (by omega) hB ?_; intro v' w1 h1 h2 h3; have H1 := hide (And.intro h1 h2); clear h1 h2 h3)
    all_goals (go_ret; exact ⟨_, rfl, (unhide H1).1, (unhide H1).2⟩)

/-! ### in the middle, there is room -/
set_option maxHeartbeats 4000000 in
set_option maxRecDepth 1000000 in
theorem insert_shift {B vb g n cap i : Nat} {cur : Array Value} {x d : ByteArray} {w : World} (hg : w.heap[g]? = some (.cells cur 51 (0, 0))) (hs : cur.size = cap * 2) (hi : i < n) (hroom : n + 1 ≤ cap) (hm : cap ≤ maxLen) (hnew : NewAt w vb x d) (hvb : vb ≠ g) (h1 : ∀ u ∈ cur.toList.take (n * 2), u.oneCell' = true) (hB : B ≤ g) :
    Calls Try.prog 40 #[.slice (some ⟨g, 0, none⟩) n cap, .int .i64 i, .slice (some ⟨vb, 0, none⟩) 1 1] w fun e w' => e = .returned (.slice (some ⟨g, 0, none⟩) (n + 1) cap) ∧
      w'.ownsRow B 51 2 (.slice (some ⟨g, 0, none⟩) (n + 1) cap) (n + 1) (cur.toList.take (i * 2) ++ [.string x, .string d] ++ (cur.toList.take (n * 2)).drop (i * 2)) ∧ w.grownBy w' (some g) := by
  have hmax : cap ≤ 9223372036854775807 := by unfold maxLen at hm; omega
  have hsz : (Try.prog.info? 51).map (·.size) = some 2 := by
    obtain ⟨i0, hi0, _, h2, _⟩ := info_parts Try.info51
    rw [hi0]; simp [h2]
  obtain ⟨mv, hmv⟩ : ∃ mv, mv = (cur.toList.take (n * 2)).drop (i * 2) := ⟨_, rfl⟩
  have hml : mv.length = (n - i) * 2 := by rw [hmv, List.length_drop, List.length_take, Array.length_toList, hs]; omega
  have hnew' : w.heap[vb]? = some (.cells #[.string x, .string d] 51 (0, 0)) := hnew
  have hov : ∀ lb cb, (callFunc 45 #[.slice (some ⟨vb, 0, none⟩) 1 1, .slice (some ⟨g, (i + 1) * 2, none⟩) lb cb]).run Try.prog w = .ok (.value (.bool false)) w := fun lb cb => by
    rw [run_callFunc_extern Try.func45 (by kernel_rfl) (by kernel_rfl) (by kernel_rfl) (e := Extern.SlicesOverlaps.overlaps #[44, 44] #[4]) (by kernel_rfl),
      Lib.run_overlaps_apart w 44 4 51 Try.underlying44 2 Try.sizeOf51 ⟨vb, 0, none⟩ ⟨g, (i + 1) * 2, none⟩ 1 1 lb cb hvb 51 51 2 (cap * 2) (by simp [World.shape?, hnew']) (by simp [World.shape?, hg, hs]) (by omega) (by simp [World.frozen?, hnew']) (by simp [World.frozen?, hnew'])]
    rfl
  have hcp1 : ∀ ty dc sc, (Builtin.copy_ #[44, 44] ty #[.slice (some ⟨g, (i + 1) * 2, none⟩) (n - i) dc, .slice (some ⟨g, i * 2, none⟩) (n + 1 - i) sc]).run Try.prog w.drew = .ok (goInt (Nat.min (n + 1 - i) (n - i))) (w.drew.setCells g ((i + 1) * 2) mv) := fun ty dc sc =>
    run_copy_cells2 w.drew 44 44 ty 51 g ((i + 1) * 2) (n - i) dc ⟨g, i * 2, none⟩ (n + 1 - i) sc mv Try.underlying44 hsz (by rw [hml]; simp only [Nat.min_def]; split <;> omega)
      (fun j u hj => by
        rw [hmv, List.getElem?_drop] at hj
        have h2 := get_of_take hj
        rw [Array.getElem?_toList] at h2
        rw [Addr.add_lit]
        show w.cell? ⟨g, i * 2 + j, none⟩ = some u
        rw [cell_row hg]
        exact h2)
      (fun j hj => by
        show (w.cell? ⟨g, (i + 1) * 2 + j, none⟩).isSome = true
        rw [cell_row hg, Array.getElem?_eq_getElem (by omega)]
        rfl)
      (fun j hj => by show w.frozen? ⟨g, (i + 1) * 2 + j, none⟩ = false; simp [World.frozen?, hg])
      (fun u hu => by rw [hmv] at hu; exact h1 u (List.mem_of_mem_drop hu))
  obtain ⟨W1, hW1⟩ : ∃ W1, W1 = w.drew.setCells g ((i + 1) * 2) mv := ⟨_, rfl⟩
  have hrow1 : W1.heap[g]? = some (.cells (lay cur.toList ((i + 1) * 2) mv).toArray 51 (0, 0)) := by
    rw [hW1]
    exact setCells_row mv _ w.drew cur hg (by rw [hml]; omega)
  have hl1 : (lay cur.toList ((i + 1) * 2) mv).length = cap * 2 := by rw [lay_length _ _ _ (by rw [hml, Array.length_toList]; omega), Array.length_toList, hs]
  have hnew1 : W1.heap[vb]? = some (.cells #[.string x, .string d] 51 (0, 0)) := by
    rw [hW1, (setCells_grown g mv ((i + 1) * 2) w.drew).block vb (Array.getElem?_eq_some_iff.1 hnew').1 (by simpa using hvb)]
    exact hnew'
  have hcp2 : ∀ (W : World), (∀ a, W.cell? a = W1.cell? a) → (∀ a, W.frozen? a = W1.frozen? a) → ∀ ty dc, (Builtin.copy_ #[44, 44] ty #[.slice (some ⟨g, i * 2, none⟩) (n + 1 - i) dc, .slice (some ⟨vb, 0, none⟩) 1 1]).run Try.prog W = .ok (goInt (Nat.min 1 (n + 1 - i))) (W.setCells g (i * 2) [.string x, .string d]) := fun W hWc hWf ty dc =>
    run_copy_cells2 W 44 44 ty 51 g (i * 2) (n + 1 - i) dc ⟨vb, 0, none⟩ 1 1 _ Try.underlying44 hsz (by simp only [List.length_cons, List.length_nil, Nat.min_def]; split <;> omega)
      (fun j u hj => by rw [Addr.add_lit, Nat.zero_add, hWc]; exact NewAt.get (show NewAt W1 vb x d from hnew1) j u hj)
      (fun j hj => by
        simp only [List.length_cons, List.length_nil] at hj
        rw [hWc, cell_row hrow1, Array.getElem?_eq_getElem (by rw [List.size_toArray, hl1]; omega)]
        rfl)
      (fun j hj => by rw [hWf]; simp [World.frozen?, hrow1]) (two_one x d)
  have hown : Hid ((W1.setCells g (i * 2) [.string x, .string d]).ownsRow B 51 2 (.slice (some ⟨g, 0, none⟩) (n + 1) cap) (n + 1) (cur.toList.take (i * 2) ++ [.string x, .string d] ++ mv)) := by
    have hrow2 := setCells_row [Value.string x, .string d] (i * 2) W1 _ hrow1 (by simp only [List.size_toArray, hl1, List.length_cons, List.length_nil]; omega)
    refine own_mk hB hrow2 (by omega) hm (by simp only [List.size_toArray]; rw [lay_length _ _ _ (by rw [hl1]; simp; omega), hl1]) ?_
    have hla : (cur.toList.take (i * 2)).length = i * 2 := by rw [List.length_take, Array.length_toList, hs]; omega
    have hlb : (cur.toList.take ((i + 1) * 2)).length = (i + 1) * 2 := by rw [List.length_take, Array.length_toList, hs]; omega
    have e1 : (lay cur.toList ((i + 1) * 2) mv).take (i * 2) = cur.toList.take (i * 2) := by
      unfold lay
      rw [List.append_assoc, List.take_append_of_le_length (by rw [hlb]; omega), List.take_take]
      congr 1
      omega
    have e2 : (lay cur.toList ((i + 1) * 2) mv).drop (i * 2 + 2) = mv ++ cur.toList.drop ((i + 1) * 2 + mv.length) := by
      unfold lay
      rw [List.append_assoc]
      exact List.drop_left' (by rw [hlb]; omega)
    have e3 : lay (lay cur.toList ((i + 1) * 2) mv) (i * 2) [Value.string x, .string d] = (cur.toList.take (i * 2) ++ [Value.string x, .string d] ++ mv) ++ cur.toList.drop ((i + 1) * 2 + mv.length) := by
      show (lay cur.toList ((i + 1) * 2) mv).take (i * 2) ++ [Value.string x, .string d] ++ (lay cur.toList ((i + 1) * 2) mv).drop (i * 2 + 2) = _
      rw [e1, e2]
      simp
    show (lay (lay cur.toList ((i + 1) * 2) mv) (i * 2) [Value.string x, .string d]).take ((n + 1) * 2) = _
    rw [e3]
    exact List.take_left' (by simp only [List.length_append, hla, hml, List.length_cons, List.length_nil]; omega)
  have hgr : Hid (w.grownBy (W1.setCells g (i * 2) [.string x, .string d]) (some g)) := by
    rw [hW1]
    exact grownBy_trans (grownBy_trans (grownBy_drew ⟨rfl, rfl, rfl, Nat.le_refl _, fun _ _ _ => rfl⟩) (setCells_grown g mv ((i + 1) * 2) w.drew)) (setCells_grown g _ _ _)
  rw [← hW1] at hcp1
  rw [← hmv]
  have hq1 : ¬ ((i : Int) = (n : Int)) := by omega
  have hq2 : ((i : Int) == (n : Int)) = false := beq_eq_false_iff_ne.2 hq1
  have hw1 : IntKind.i64.wrap ((i : Int) + 1) = (i : Int) + 1 := by rw [IntKind.wrap_i64]; omega
  have hb1 : (0 : Int) ≤ (i : Int) + 1 := by omega
  have hin : i ≤ n := by omega
  have htn : ((i : Int) + 1).toNat = i + 1 := by omega
  have hb2 : ¬ (cap = i + 1) := by omega
  have hb3 : (i : Int) ≤ (n : Int) + 1 := by omega
  have hb4 : ¬ (cap = i) := by omega
  clear hrow1 hl1 hml hg hs hnew hnew' hnew1 h1 hmv hW1
  go_enter Try.func40, Try.ntmps40
  go_wp2_with (simp only [hov])
  go_region_law (refine step_copy_by rfl (.tmp 73) (.tmp 76) 44 rfl (.slice (some ⟨g, (i + 1) * 2, none⟩) (n - i) (cap - (i + 1))) (.slice (some ⟨g, i * 2, none⟩) (n + 1 - i) (cap - i)) (by simp [Act.eval, Act.put]) (by simp [Act.eval, Act.put]) (hcp1 _ _ _) ?_)
  go_wp2_with (at_builtin; refine wpList_copy_by _ rfl _ _ 44 rfl _ _ rfl rfl (hcp2 _ (fun _ => rfl) (fun _ => rfl) _ _) ?_)
  go_ret
  exact ⟨rfl, unhide hown, unhide hgr⟩

/-! ### in the middle, no room: a new row -/
theorem setCells_drew (g : Nat) : ∀ (vs : List Value) (o : Nat) (w : World), w.drew.setCells g o vs = (w.setCells g o vs).drew
  | [], _, _ => rfl
  | v :: r, o, w => by rw [World.setCells, World.setCells, ← setCells_drew g r]; rfl

theorem setCells_size (g : Nat) : ∀ (vs : List Value) (o : Nat) (w : World), (w.setCells g o vs).heap.size = w.heap.size
  | [], _, _ => rfl
  | v :: r, o, w => by rw [World.setCells, setCells_size g r]; simp

theorem zeroCells_size (z : Array Value) (k : Nat) : (Builtin.zeroCells z k).size = k * z.size := by simp [Builtin.zeroCells]

set_option maxHeartbeats 4000000 in
set_option maxRecDepth 1000000 in
theorem insert_grow {B vb g n cap i : Nat} {cur : Array Value} {x d : ByteArray} {w : World} (hg : w.heap[g]? = some (.cells cur 51 (0, 0))) (hs : cur.size = cap * 2) (hi : i < n) (hnc : n ≤ cap) (hroom : cap < n + 1) (hn : n ≤ 1048576) (hnew : NewAt w vb x d) (h1 : ∀ u ∈ cur.toList.take (n * 2), u.oneCell' = true) (hB : B ≤ w.heap.size) :
    Calls Try.prog 40 #[.slice (some ⟨g, 0, none⟩) n cap, .int .i64 i, .slice (some ⟨vb, 0, none⟩) 1 1] w fun e w' => ∃ v', e = .returned v' ∧
      w'.ownsRow B 51 2 v' (n + 1) (cur.toList.take (i * 2) ++ [.string x, .string d] ++ (cur.toList.take (n * 2)).drop (i * 2)) ∧ w.grownBy w' (some g) := by
  obtain ⟨i0, hi0, hz0, hzs, hzb⟩ := info_parts Try.info51
  have hsz : (Try.prog.info? 51).map (·.size) = some 2 := by rw [hi0]; simp [hzs]
  have hgw : g < w.heap.size := (Array.getElem?_eq_some_iff.1 hg).1
  have hnew' : w.heap[vb]? = some (.cells #[.string x, .string d] 51 (0, 0)) := hnew
  have hvw : vb < w.heap.size := (Array.getElem?_eq_some_iff.1 hnew').1
  obtain ⟨mv, hmv⟩ : ∃ mv, mv = (cur.toList.take (n * 2)).drop (i * 2) := ⟨_, rfl⟩
  have hml : mv.length = (n - i) * 2 := by rw [hmv, List.length_drop, List.length_take, Array.length_toList, hs]; omega
  have hkk : (n : Int) + 1 - (i : Int) = ((n + 1 - i : Nat) : Int) := by omega
  have hik : i + (n + 1 - i) = n + 1 := by omega
  have hold : (Builtin.firstCells i0.size i (.slice (some ⟨g, 0, none⟩) i cap)).run Try.prog w.drew = .ok (cur.toList.take (i * 2)).toArray w.drew := by
    rw [hzs]
    exact run_firstCells_some w.drew 2 i ⟨g, 0, none⟩ i cap (cur.toList.take (i * 2)) (by rw [List.length_take, Array.length_toList, hs]; omega) (fun j v hj => by
      rw [Addr.add_lit, Nat.zero_add]
      have h2 := get_of_take hj
      rw [Array.getElem?_toList] at h2
      show w.cell? ⟨g, j, none⟩ = some v
      rw [cell_row hg]
      exact h2)
  have hrz : ∀ ty, (Builtin.append_ #[44, 3] ty #[.slice (some ⟨g, 0, none⟩) i cap, .int .i64 ((n : Int) + 1 - (i : Int))]).run Try.prog w =
      .ok (.slice (some ⟨w.heap.size, 0, none⟩) (n + 1) (grownCap w (n + 1) cap 51)) (w.drew.alloc (.cells ((cur.toList.take (i * 2)).toArray ++ Builtin.zeroCells (Value.agg #[.string ⟨#[]⟩, .string ⟨#[]⟩]).cells (n + 1 - i) ++ Builtin.zeroCells (Value.agg #[.string ⟨#[]⟩, .string ⟨#[]⟩]).cells (grownCap w (n + 1) cap 51 - (n + 1))) 51)) := fun ty => by
    have h := Lib.run_append_grow_zeros w 44 3 ty 51 i0 _ .i64 .i64 Try.underlying44 Try.underlying3 hi0 hz0 (some ⟨g, 0, none⟩) i cap (cur.toList.take (i * 2)) hold (n + 1 - i) (by omega) (by omega) (by omega) (by omega) (by rw [hzb]; omega) (by rw [hzb, hik]; exact growslice_fits hroom (by omega))
    rw [hik] at h
    rw [hkk]
    exact h
  obtain ⟨G, hG⟩ : ∃ G, G = grownCap w (n + 1) cap 51 := ⟨_, rfl⟩
  have hGn : n + 1 ≤ G := by rw [hG]; exact grownCap_ge w _ _ _
  have hGm : G ≤ maxLen := by rw [hG]; exact grownCap_le_maxLen w (n + 1) cap 51 (by unfold maxLen; omega)
  have hG63 : G ≤ 9223372036854775807 := by unfold maxLen at hGm; omega
  obtain ⟨ROW, hROW⟩ : ∃ ROW : Array Value, ROW = (cur.toList.take (i * 2)).toArray ++ Builtin.zeroCells (Value.agg #[.string ⟨#[]⟩, .string ⟨#[]⟩]).cells (n + 1 - i) ++ Builtin.zeroCells (Value.agg #[.string ⟨#[]⟩, .string ⟨#[]⟩]).cells (G - (n + 1)) := ⟨_, rfl⟩
  rw [← hG] at hrz
  rw [← hROW] at hrz
  have hla : (cur.toList.take (i * 2)).length = i * 2 := by rw [List.length_take, Array.length_toList, hs]; omega
  have hRs : ROW.size = G * 2 := by
    rw [hROW, Array.size_append, Array.size_append, zeroCells_size, zeroCells_size, List.size_toArray, hla]
    simp only [Value.cells, List.size_toArray, List.length_cons, List.length_nil]
    omega
  have hRt : ROW.toList.take (i * 2) = cur.toList.take (i * 2) := by
    rw [hROW, Array.toList_append, Array.toList_append, List.append_assoc]
    exact List.take_left' hla
  obtain ⟨W1, hW1⟩ : ∃ W1, W1 = w.drew.alloc (.cells ROW 51) := ⟨_, rfl⟩
  rw [← hW1] at hrz
  have hrow1 : W1.heap[w.heap.size]? = some (.cells ROW 51 (0, 0)) := by rw [hW1]; exact heap_alloc_new w.drew _
  have hold1 : ∀ k, k < w.heap.size → W1.heap[k]? = w.heap[k]? := fun k hk => by rw [hW1]; exact Below.heap_alloc w.drew _ k hk
  have hcpA : ∀ (W : World), (∀ a, W.cell? a = W1.cell? a) → (∀ a, W.frozen? a = W1.frozen? a) → ∀ ty dc, (Builtin.copy_ #[44, 44] ty #[.slice (some ⟨w.heap.size, i * 2, none⟩) (n + 1 - i) dc, .slice (some ⟨vb, 0, none⟩) 1 1]).run Try.prog W = .ok (goInt (Nat.min 1 (n + 1 - i))) (W.setCells w.heap.size (i * 2) [.string x, .string d]) := fun W hWc hWf ty dc =>
    run_copy_cells2 W 44 44 ty 51 w.heap.size (i * 2) (n + 1 - i) dc ⟨vb, 0, none⟩ 1 1 _ Try.underlying44 hsz (by simp only [List.length_cons, List.length_nil, Nat.min_def]; split <;> omega)
      (fun j u hj => by rw [Addr.add_lit, Nat.zero_add, hWc]; exact NewAt.get (show NewAt W1 vb x d from (hold1 vb hvw).trans hnew') j u hj)
      (fun j hj => by
        simp only [List.length_cons, List.length_nil] at hj
        rw [hWc, cell_row hrow1, Array.getElem?_eq_getElem (by omega)]
        rfl)
      (fun j hj => by rw [hWf]; simp [World.frozen?, hrow1]) (two_one x d)
  obtain ⟨W2, hW2⟩ : ∃ W2, W2 = W1.setCells w.heap.size (i * 2) [.string x, .string d] := ⟨_, rfl⟩
  have hrow2 : W2.heap[w.heap.size]? = some (.cells (lay ROW.toList (i * 2) [.string x, .string d]).toArray 51 (0, 0)) := by
    rw [hW2]
    exact setCells_row _ _ W1 ROW hrow1 (by simp only [List.length_cons, List.length_nil]; omega)
  have hl2 : (lay ROW.toList (i * 2) [Value.string x, .string d]).length = G * 2 := by rw [lay_length _ _ _ (by simp only [List.length_cons, List.length_nil, Array.length_toList]; omega), Array.length_toList, hRs]
  have hold2 : ∀ k, k < w.heap.size → W2.heap[k]? = w.heap[k]? := fun k hk => by
    rw [hW2, (setCells_grown w.heap.size [Value.string x, .string d] (i * 2) W1).block k (by rw [hW1]; simp; omega) (by simp; omega)]
    exact hold1 k hk
  have hcpB : ∀ (W : World), (∀ a, W.cell? a = W2.cell? a) → (∀ a, W.frozen? a = W2.frozen? a) → ∀ ty dc sc, (Builtin.copy_ #[44, 44] ty #[.slice (some ⟨w.heap.size, (i + 1) * 2, none⟩) (n - i) dc, .slice (some ⟨g, i * 2, none⟩) (n - i) sc]).run Try.prog W = .ok (goInt (Nat.min (n - i) (n - i))) (W.setCells w.heap.size ((i + 1) * 2) mv) := fun W hWc hWf ty dc sc =>
    run_copy_cells2 W 44 44 ty 51 w.heap.size ((i + 1) * 2) (n - i) dc ⟨g, i * 2, none⟩ (n - i) sc mv Try.underlying44 hsz (by rw [hml]; simp only [Nat.min_def]; split <;> omega)
      (fun j u hj => by
        rw [hmv, List.getElem?_drop] at hj
        have h2 := get_of_take hj
        rw [Array.getElem?_toList] at h2
        rw [Addr.add_lit, hWc, cell_row ((hold2 g hgw).trans hg)]
        exact h2)
      (fun j hj => by
        rw [hWc, cell_row hrow2, Array.getElem?_eq_getElem (by rw [List.size_toArray, hl2]; omega)]
        rfl)
      (fun j hj => by rw [hWf]; simp [World.frozen?, hrow2])
      (fun u hu => by rw [hmv] at hu; exact h1 u (List.mem_of_mem_drop hu))
  have hown : Hid ((W2.setCells w.heap.size ((i + 1) * 2) mv).ownsRow B 51 2 (.slice (some ⟨w.heap.size, 0, none⟩) (n + 1) G) (n + 1) (cur.toList.take (i * 2) ++ [.string x, .string d] ++ mv)) := by
    have hrow3 := setCells_row mv ((i + 1) * 2) W2 _ hrow2 (by rw [List.size_toArray, hl2, hml]; omega)
    refine own_mk hB hrow3 hGn hGm (by simp only [List.size_toArray]; rw [lay_length _ _ _ (by rw [hl2, hml]; omega), hl2]) ?_
    have e1 : (lay ROW.toList (i * 2) [Value.string x, .string d]).take ((i + 1) * 2) = cur.toList.take (i * 2) ++ [Value.string x, .string d] := by
      unfold lay
      rw [hRt]
      exact List.take_left' (by rw [List.length_append, hla]; simp only [List.length_cons, List.length_nil]; omega)
    show (lay (lay ROW.toList (i * 2) [Value.string x, .string d]) ((i + 1) * 2) mv).take ((n + 1) * 2) = _
    rw [show lay (lay ROW.toList (i * 2) [Value.string x, .string d]) ((i + 1) * 2) mv = (lay ROW.toList (i * 2) [Value.string x, .string d]).take ((i + 1) * 2) ++ mv ++ (lay ROW.toList (i * 2) [Value.string x, .string d]).drop ((i + 1) * 2 + mv.length) from rfl, e1]
    exact List.take_left' (by simp only [List.length_append, hla, hml, List.length_cons, List.length_nil]; omega)
  have hgr : Hid (w.grownBy (W2.setCells w.heap.size ((i + 1) * 2) mv) (some g)) := by
    have h3 := setCells_grown w.heap.size mv ((i + 1) * 2) W2
    have h2 := setCells_grown w.heap.size [Value.string x, .string d] (i * 2) W1
    have hz1 : W1.heap.size = w.heap.size + 1 := by rw [hW1]; simp
    have hz2 : W2.heap.size = w.heap.size + 1 := by
      rw [hW2, setCells_size, hz1]
    refine ⟨?_, ?_, ?_, ?_, fun k hk _ => ?_⟩
    · rw [h3.os, hW2, h2.os, hW1]; rfl
    · rw [h3.tape, hW2, h2.tape, hW1]; rfl
    · rw [h3.output, hW2, h2.output, hW1]; rfl
    · have := h3.size
      omega
    · rw [h3.block k (by omega) (by simp; omega)]
      exact hold2 k hk
  have hgN : g ≠ w.heap.size := by omega
  have hGi : ¬ (G = i) := by omega
  have hGim : ¬ (G = i + 1) := by omega
  have hci : ¬ (cap = i) := by omega
  have hq1 : ¬ ((i : Int) = (n : Int)) := by omega
  have hq2 : ((i : Int) == (n : Int)) = false := beq_eq_false_iff_ne.2 hq1
  have hw1 : IntKind.i64.wrap ((i : Int) + 1) = (i : Int) + 1 := by rw [IntKind.wrap_i64]; omega
  have hb1 : (0 : Int) ≤ (i : Int) + 1 := by omega
  have hin : i ≤ n := by omega
  have htn : ((i : Int) + 1).toNat = i + 1 := by omega
  have hb3 : (i : Int) ≤ (n : Int) := by omega
  rw [← hmv]
  clear hkk hik hold hROW hG hRs hRt hrow1 hold1 hrow2 hl2 hold2 hml hg hs hnew hnew' h1 hmv hla
  subst hW2
  subst hW1
  have hE1 : ∀ a, ((w.alloc (.cells ROW 51)).drew).cell? a = (w.drew.alloc (.cells ROW 51)).cell? a := fun a => rfl
  have hE2 : ∀ a, ((w.alloc (.cells ROW 51)).drew).frozen? a = (w.drew.alloc (.cells ROW 51)).frozen? a := fun a => rfl
  go_enter Try.func40, Try.ntmps40
  go_wp2_with (first | (at_builtin; refine Lib.wpList_append_run _ rfl _ _ _ _ rfl _ _ rfl rfl _ _ (hrz _) ?_) | (at_builtin; refine wpList_copy_by _ rfl _ _ 44 rfl _ _ rfl rfl (hcpA _ hE1 hE2 _ _) ?_))
  have hF1 : ∀ a, (((w.alloc (.cells ROW 51)).drew.setCells w.heap.size (i * 2) [.string x, .string d]).drew).cell? a = ((w.drew.alloc (.cells ROW 51)).setCells w.heap.size (i * 2) [.string x, .string d]).cell? a := fun a => rfl
  have hF2 : ∀ a, (((w.alloc (.cells ROW 51)).drew.setCells w.heap.size (i * 2) [.string x, .string d]).drew).frozen? a = ((w.drew.alloc (.cells ROW 51)).setCells w.heap.size (i * 2) [.string x, .string d]).frozen? a := fun a => rfl
  go_region_law (refine step_copy_by rfl (.tmp 50) (.tmp 53) 44 rfl (.slice (some ⟨w.heap.size, (i + 1) * 2, none⟩) (n - i) (G - (i + 1))) (.slice (some ⟨g, i * 2, none⟩) (n - i) (cap - i)) (by simp [Act.eval, Act.put]) (by simp [Act.eval, Act.put]) (hcpB _ hF1 hF2 _ _ _) ?_)
  go_wp2
  go_ret
  have e0 : w.drew.alloc (.cells ROW 51) = (w.alloc (.cells ROW 51)).drew := rfl
  have ho := unhide hown
  have hr := unhide hgr
  rw [e0, setCells_drew, setCells_drew] at ho hr
  refine ⟨_, rfl, ?_, ?_⟩
  · rw [setCells_drew, setCells_drew, setCells_drew]
    exact ho
  · rw [setCells_drew, setCells_drew, setCells_drew]
    exact ⟨hr.os, hr.tape, hr.output, hr.size, hr.block⟩

/-! ### all of it -/
theorem insert40 {B vb i : Nat} {v : Value} {l : List R} {x d : ByteArray} {w : World} (hown : w.ownsRow B 51 2 v l.length (flat l)) (hl : l.length ≤ 1048576) (hi : i ≤ l.length) (hnew : NewAt w vb x d) (hvb : v.ownBlock ≠ some vb) (hB : B ≤ w.heap.size) :
    Calls Try.prog 40 #[v, .int .i64 i, .slice (some ⟨vb, 0, none⟩) 1 1] w fun e w' => ∃ v', e = .returned v' ∧ w'.ownsRow B 51 2 v' (l.length + 1) (flat (l.take i ++ [(x, d)] ++ l.drop i)) ∧ w.grownBy w' v.ownBlock := by
  have hfl : flat (l.take i ++ [(x, d)] ++ l.drop i) = (flat l).take (i * 2) ++ [.string x, .string d] ++ (flat l).drop (i * 2) := by
    rw [flat_append, flat_append, flat_take l i hi, flat_drop l i hi]
    rfl
  by_cases he : i = l.length
  · subst he
    refine (insert_end hown hl hnew hB).mono ?_
    rintro e w' ⟨v', rfl, h1, h2⟩
    refine ⟨v', rfl, ?_, h2⟩
    rw [hfl, List.take_of_length_le (by rw [flat_length]; omega), List.drop_of_length_le (by rw [flat_length]; omega), List.append_nil]
    exact h1
  · rcases hown.2 with ⟨rfl, h0⟩ | ⟨g, cap, cur, rfl, hBg, hg, hnc, hcm, hcs, htake⟩
    · omega
    · have h1 : ∀ u ∈ cur.toList.take (l.length * 2), u.oneCell' = true := by rw [htake]; exact flat_one l
      have e1 : cur.toList.take (i * 2) = (flat l).take (i * 2) := by
        rw [← htake, List.take_take]
        congr 1
        omega
      by_cases hroom : l.length + 1 ≤ cap
      · refine (insert_shift (B := B) hg hcs (by omega) hroom hcm hnew (by simpa [Value.ownBlock] using hvb.symm) h1 hBg).mono ?_
        rintro e w' ⟨rfl, h3, h4⟩
        refine ⟨_, rfl, ?_, h4⟩
        rw [hfl, ← e1]
        rw [htake] at h3
        exact h3
      · refine (insert_grow (B := B) hg hcs (by omega) hnc (by omega) hl hnew h1 hB).mono ?_
        rintro e w' ⟨v', rfl, h3, h4⟩
        refine ⟨v', rfl, ?_, h4⟩
        rw [hfl, ← e1]
        rw [htake] at h3
        exact h3

end Go.Proofs.Qxb6602077a
