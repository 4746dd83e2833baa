/-
  WALKS of the seat b6602077a: slices.Delete(s, i, i+1) (39) on a row of the call's own.
-/
import Derived.Test.Qxb6602077aRow2
import Derived.Deep.RegionLaw
import Derived.Lib.SliceRun
import Derived.Lib.Walk
namespace Go.Proofs.Qxb6602077a
open Go.RowKit Plain

theorem cell_row {w : World} {g k : Nat} {cur : Array Value} {e : TypeId} (h : w.heap[g]? = some (.cells cur e (0, 0))) : w.cell? ⟨g, k, none⟩ = cur[k]? := by simp [World.cell?, h]

theorem get_of_take {xs : List Value} {n j : Nat} {u : Value} (h : (xs.take n)[j]? = some u) : xs[j]? = some u := by
  rw [List.getElem?_take] at h
  split at h
  · exact h
  · cases h

set_option maxHeartbeats 4000000 in
set_option maxRecDepth 1000000 in
theorem delete39 (B g n cap i j : Nat) (cur : Array Value) (w : World) (hg : w.heap[g]? = some (.cells cur 51 (0, 0))) (hs : cur.size = cap * 2) (hnc : n ≤ cap) (hm : cap ≤ maxLen) (hij : i < j) (hji : j ≤ i + 1) (hj : j ≤ n) (h1 : ∀ u ∈ cur.toList.take (n * 2), u.oneCell' = true) (hB : B ≤ g) :
    Calls Try.prog 39 #[.slice (some ⟨g, 0, none⟩) n cap, .int .i64 i, .int .i64 j] w fun e w' => e = .returned (.slice (some ⟨g, 0, none⟩) (i + (n - j)) cap) ∧
      w'.ownsRow B 51 2 (.slice (some ⟨g, 0, none⟩) (i + (n - j)) cap) (i + (n - j)) (cur.toList.take (i * 2) ++ (cur.toList.take (n * 2)).drop (j * 2)) ∧ w.grownBy w' (some g) := by
  obtain ⟨i0, hi0, _, hz1, _⟩ := info_parts Try.info51
  have hmax : cap ≤ 9223372036854775807 := by unfold maxLen at hm; omega
  obtain ⟨news, hnews⟩ : ∃ news, news = (cur.toList.take (n * 2)).drop (j * 2) := ⟨_, rfl⟩
  have hlen : news.length = (n - j) * 2 := by rw [hnews, List.length_drop, List.length_take, Array.length_toList, hs]; omega
  have hget : ∀ t u, news[t]? = some u → w.drew.cell? ⟨g, j * 2 + t, none⟩ = some u := by
    intro t u hu
    rw [hnews, List.getElem?_drop] at hu
    have h2 := get_of_take hu
    rw [Array.getElem?_toList] at h2
    show w.cell? ⟨g, j * 2 + t, none⟩ = some u
    simp [World.cell?, hg, h2]
  obtain ⟨A, hA, hsrc⟩ : ∃ A : Addr, (if cap = j then some (⟨g, 0, none⟩ : Addr) else some ⟨g, j * 2, none⟩) = some A ∧ Hid (∀ t u, news[t]? = some u → w.drew.cell? (A.add t) = some u) := by
    by_cases h : cap = j
    · refine ⟨⟨g, 0, none⟩, by simp [h], fun t u hu => ?_⟩
      have h0 : news.length = 0 := by rw [hlen]; omega
      rw [List.length_eq_zero_iff.1 h0] at hu
      simp at hu
    · refine ⟨⟨g, j * 2, none⟩, by simp [h], fun t u hu => ?_⟩
      rw [Addr.add_lit]
      exact hget t u hu
  have hsome : ∀ t, t < cap * 2 → (w.cell? ⟨g, t, none⟩).isSome = true := by
    intro t ht
    simp [World.cell?, hg, hs, ht]
  have hfro : ∀ t, w.frozen? ⟨g, t, none⟩ = false := by
    intro t
    simp [World.frozen?, hg]
  have s1 : Hid (news.length = (n - j) * 2) := hlen
  have s2 : Hid (∀ u ∈ news, u.oneCell' = true) := by
    intro u hu
    rw [hnews] at hu
    exact h1 u (List.mem_of_mem_drop hu)
  have s3 : Hid (∀ t, t < news.length → (w.drew.cell? ⟨g, 0 + i * 2 + t, none⟩).isSome = true ∧ w.drew.frozen? ⟨g, 0 + i * 2 + t, none⟩ = false) := by
    intro t ht
    rw [hlen] at ht
    exact ⟨hsome _ (by omega), hfro _⟩
  obtain ⟨W1, hW1⟩ : ∃ W1, W1 = w.drew.setCells g (0 + i * 2) news := ⟨_, rfl⟩
  have hrow1 : W1.heap[g]? = some (.cells (lay cur.toList (0 + i * 2) news).toArray 51 (0, 0)) := by
    rw [hW1]
    exact setCells_row news _ w.drew cur hg (by rw [hlen]; omega)
  have hl1 : (lay cur.toList (0 + i * 2) news).length = cap * 2 := by rw [lay_length _ _ _ (by rw [hlen, Array.length_toList]; omega), Array.length_toList, hs]
  have hcl : ∀ ty c, (Builtin.clear_ #[44] ty #[.slice (some ⟨g, (i + (n - j)) * 2, none⟩) (n - (i + (n - j))) c]).run Try.prog W1 = .ok (.tuple #[]) (W1.setCells g ((i + (n - j)) * 2) [.string ⟨#[]⟩, .string ⟨#[]⟩]) := fun ty c =>
    run_clear_one2 W1 44 51 ty _ _ Try.underlying44 Try.zeroValue51 rfl rfl g ((i + (n - j)) * 2) _ c (by omega)
      (fun t ht => by rw [cell_row hrow1, Array.getElem?_eq_getElem (by rw [List.size_toArray, hl1]; omega)]; rfl) (fun t ht => by simp [World.frozen?, hrow1])
  have hown : Hid ((W1.setCells g ((i + (n - j)) * 2) [.string ⟨#[]⟩, .string ⟨#[]⟩]).ownsRow B 51 2 (.slice (some ⟨g, 0, none⟩) (i + (n - j)) cap) (i + (n - j)) (cur.toList.take (i * 2) ++ news)) := by
    have hrow2 := setCells_row [Value.string ⟨#[]⟩, .string ⟨#[]⟩] ((i + (n - j)) * 2) W1 _ hrow1 (by simp only [List.size_toArray, hl1, List.length_cons, List.length_nil]; omega)
    refine own_mk hB hrow2 (by omega) hm (by simp only [List.size_toArray]; rw [lay_length _ _ _ (by rw [hl1]; simp; omega), hl1]) ?_
    have hla : (cur.toList.take (i * 2)).length = i * 2 := by rw [List.length_take, Array.length_toList, hs]; omega
    have e1 : (lay cur.toList (0 + i * 2) news).take ((i + (n - j)) * 2) = cur.toList.take (i * 2) ++ news := by
      unfold lay
      rw [Nat.zero_add]
      exact List.take_left' (by rw [List.length_append, hla, hlen]; omega)
    show (lay (lay cur.toList (0 + i * 2) news) ((i + (n - j)) * 2) [Value.string ⟨#[]⟩, .string ⟨#[]⟩]).take ((i + (n - j)) * 2) = _
    rw [show lay (lay cur.toList (0 + i * 2) news) ((i + (n - j)) * 2) [Value.string ⟨#[]⟩, .string ⟨#[]⟩] = (lay cur.toList (0 + i * 2) news).take ((i + (n - j)) * 2) ++ ([Value.string ⟨#[]⟩, .string ⟨#[]⟩] ++ (lay cur.toList (0 + i * 2) news).drop ((i + (n - j)) * 2 + 2)) from by simp [lay]]
    rw [List.take_left' (by rw [List.length_take, hl1]; omega), e1]
  have hgr : Hid (w.grownBy (W1.setCells g ((i + (n - j)) * 2) [.string ⟨#[]⟩, .string ⟨#[]⟩]) (some g)) := by
    rw [hW1]
    exact grownBy_trans (grownBy_trans (grownBy_drew ⟨rfl, rfl, rfl, Nat.le_refl _, fun _ _ _ => rfl⟩) (setCells_grown g news (0 + i * 2) w.drew)) (setCells_grown g _ _ _)
  have HN := hide hnews
  have hW : Hid (W1 = w.drew.setCells g (0 + i * 2) news) := hW1
  have hic : i ≤ cap := by omega
  have hjc : j ≤ cap := by omega
  have hij2 : ((i : Int) == (j : Int)) = false := beq_eq_false_iff_ne.2 (by omega)
  have hcc : ¬ cap = i + (n - j) := by omega
  rw [← hnews]
  clear hW1 hrow1 hl1 hnews hlen hget hsome hfro h1 hg
  go_enter Try.func39, Try.ntmps39
  go_wp2_with fail
  go_region_law (refine step_append_room rfl (.tmp 22) (.tmp 25) 44 rfl 51 i0 2 Try.underlying44 hi0 hz1 g 0 i cap (by simp [Act.eval, Act.put]) A (n - j) (cap - j) news (by simp [Act.eval, Act.put]) s1.out hsrc.out s2.out (by omega) s3.out ?_; rw [← hW.out])
  go_wp2
  go_ret
  exact ⟨rfl, hown.out, hgr.out⟩

end Go.Proofs.Qxb6602077a
