/-
  WALKS of the seat b6602077a: setModelB1 (17), invariantB1 (29), zzBytes_FnSetMatchesMergeModel (9), zzBytes_FnSetThenPickHeadKeepsStateInvariant (26).
-/
import Derived.Test.Qxb6602077aSetPlain
namespace Go.Proofs.Qxb6602077a
open Go.RowKit Plain

theorem new_get (W : World) (a b : ByteArray) (t : TypeId) : ∀ j u, [Value.string a, .string b][j]? = some u → (W.alloc (.cells #[.string a, .string b] t)).cell? ((⟨W.heap.size, 0, none⟩ : Addr).add j) = some u := by
  intro j u hj
  rw [Addr.add_lit, Nat.zero_add]
  rw [cell_row (heap_alloc_new W _)]
  match j, hj with
  | 0, hj => simpa using hj
  | 1, hj => simpa using hj
  | j + 2, hj => simp at hj

theorem flat_snoc (acc : List R) (a b : ByteArray) : flat acc ++ [.string a, .string b] = flat (acc ++ [(a, b)]) := by rw [flat_append]; rfl

theorem drop_step (l : List R) (k : Nat) (h : k < l.length) : l.drop k = rf l k :: l.drop (k + 1) := by
  rw [List.drop_eq_getElem_cons h, rf_eq l k h]

/-- What one round of the model does to what is to come. -/
theorem merge_skip (x d : ByteArray) (p : Bool) (l acc M : List R) (k : Nat) (h : k < l.length) (hm : acc ++ mergeL x d p (l.drop k) = M) (he : by' (nm l k) = by' x) : acc ++ mergeL x d p (l.drop (k + 1)) = M := by
  rw [← hm, drop_step l k h]
  have he' : by' (rf l k).1 = by' x := he
  simp only [mergeL, he', if_true]

theorem merge_both (x d : ByteArray) (l acc M : List R) (k : Nat) (h : k < l.length) (hm : acc ++ mergeL x d false (l.drop k) = M) (he : by' (nm l k) ≠ by' x) (hlx : Op.bytesLess (by' x) (by' (nm l k)) = true) : (acc ++ [(x, d)] ++ [(nm l k, Plain.id l k)]) ++ mergeL x d true (l.drop (k + 1)) = M := by
  rw [← hm, drop_step l k h]
  have he' : ¬ by' (rf l k).1 = by' x := he
  have hl' : Op.bytesLess (by' x) (by' (rf l k).1) = true := hlx
  simp only [mergeL, he', if_false, hl', and_self, if_true]
  simp [nm, Plain.id]

theorem merge_one (x d : ByteArray) (p : Bool) (l acc M : List R) (k : Nat) (h : k < l.length) (hm : acc ++ mergeL x d p (l.drop k) = M) (he : by' (nm l k) ≠ by' x) (hp : ¬ (p = false ∧ Op.bytesLess (by' x) (by' (nm l k)) = true)) : (acc ++ [(nm l k, Plain.id l k)]) ++ mergeL x d p (l.drop (k + 1)) = M := by
  rw [← hm, drop_step l k h]
  have he' : ¬ by' (rf l k).1 = by' x := he
  have hp' : ¬ (p = false ∧ Op.bytesLess (by' x) (by' (rf l k).1) = true) := hp
  simp only [mergeL, he', if_false]
  rw [if_neg hp']
  simp [nm, Plain.id]

set_option maxHeartbeats 8000000 in
set_option maxRecDepth 1000000 in
theorem setModel17 (ao : Option Addr) (c : Nat) (l : List R) (x d : ByteArray) (w : World) (hl : l.length ≤ 1048576) (hr : RefsAt w ao l) :
    Calls Try.prog 17 #[.slice ao l.length c, .string x, .string d] w fun e w' => ∃ v, e = .returned v ∧ w'.ownsRow w.heap.size 39 2 v (mergeL x d (by' d).isEmpty l).length (flat (mergeL x d (by' d).isEmpty l)) ∧ Below w.heap.size w w' := by
  obtain ⟨i0, hi, hz0, hz1, hz2⟩ := info_parts Try.info39
  have HI := hide (And.intro hi (And.intro hz0 (And.intro hz1 hz2)))
  clear hi hz0 hz1 hz2
  have HR := hide hr
  have hE : d.toList.isEmpty = (by' d).isEmpty := by rw [tl]
  generalize (by' d).isEmpty = E at *
  clear hr
  go_enter Try.func17, Try.ntmps17
  go_wp2_with (at_make; refine wpList_make_own _ rfl _ _ 22 rfl w.heap.size 39 i0 _ 2 Try.underlying22 (unhide HI).1 (unhide HI).2.1 (unhide HI).2.2.1 _ _ _ (l.length + 1) rfl rfl (by omega) (by rw [(unhide HI).2.2.2]; omega) (by unfold maxLen; omega) (Nat.le_refl _) ?_; intro w1 hown hgrow)
  have hB1 := Below.grown (Below.refl w.heap.size w) hgrow (Nat.le_refl _) (fun j hj => by cases hj)
  have H1 := hide (And.intro hown hB1)
  clear hown hgrow hB1
  go_loopw [7, 8, 9] (fun v pl i wr => ∃ (k : Nat) (acc : List R) (p : Bool), k ≤ l.length ∧ i = .int .i64 k ∧ pl = .bool p ∧ acc.length ≤ 2 * k ∧ Hid (wr.ownsRow w.heap.size 39 2 v acc.length (flat acc)) ∧ Hid (acc ++ mergeL x d p (l.drop k) = mergeL x d E l) ∧ Hid (Below w.heap.size w wr)) (fun _ _ i _ => l.length - (intOf i).toNat)
  case atStart => exact ⟨0, [], E, Nat.zero_le _, rfl, by first | rfl | (rw [hE]), Nat.le_refl _, (unhide H1).1, rfl, (unhide H1).2⟩
  case round =>
    clear H1
    obtain ⟨k, acc, p, hk, rfl, rfl, hal, HO, HM, HW⟩ := hrel
    have hwz : w.heap.size ≤ wr.heap.size := (unhide HW).size
    by_cases hlt : k < l.length
    · have hr2 := unhide HR
      rcases hr2 with rfl | ⟨b, off, rfl, hbl, hc⟩
      · simp at hlt
      · have HQ : Hid (∀ W, Below w.heap.size w W → W.cell? ⟨b, off + k * 2, none⟩ = some (.string (nm l k)) ∧ W.cell? ⟨b, off + k * 2 + 1, none⟩ = some (.string (Plain.id l k))) := fun W hW => ⟨(hW.cell (p := ⟨b, off + k * 2, none⟩) hbl).trans (hc k hlt).1, (hW.cell (p := ⟨b, off + k * 2 + 1, none⟩) hbl).trans (hc k hlt).2⟩
        have c1 := (unhide HQ _ (unhide HW)).1
        have c2 := (unhide HQ _ (unhide HW)).2
        clear hc
        by_cases he : by' (nm l k) = by' x
        · have hb := beq_yes he
          have HM2 := hide (merge_skip x d p l acc _ k hlt (unhide HM) he)
          clear he
          go_wp2
          go_roundw
          case rel => exact ⟨k + 1, acc, p, by omega, by go_num, rfl, by omega, HO, HM2, HW⟩
          case measure => simp [intOf]; omega
        · have hb := beq_no he
          have hlb : (acc ++ [(nm l k, Plain.id l k)]).length = acc.length + 1 := by simp
          have hlc : (acc ++ [(x, d)]).length = acc.length + 1 := by simp
          have hld : (acc ++ [(x, d)] ++ [(nm l k, Plain.id l k)]).length = acc.length + 2 := by simp
          by_cases hp : p = false ∧ Op.bytesLess (by' x) (by' (nm l k)) = true
          · obtain ⟨rfl, hlx⟩ := hp
            have hlx2 : Op.bytesLess x.toList (nm l k).toList = true := by rw [less_eq]; exact hlx
            have HM2 := hide (merge_both x d l acc _ k hlt (unhide HM) he hlx)
            clear he hlx
            have HL := hide (And.intro hlb (And.intro hlc hld))
            clear hlb hlc hld
            go_wp2_with (first | (at_builtin; refine wpList_append_own _ rfl (.tmp 40) (.tmp 44) 22 rfl w.heap.size 39 i0 _ 2 32 Try.underlying22 (unhide HI).1 (unhide HI).2.1 (unhide HI).2.2.1 (unhide HI).2.2.2 rfl (by decide) _ acc.length (flat acc) rfl ((unhide HO).alloc _) ⟨wr.heap.size, 0, none⟩ 1 1 [.string x, .string d] rfl rfl (new_get wr x d 39) (two_one x d) (by unfold maxLen; omega) (by omega) (by simp; omega) ?_; intro v2 w2 h2 g2 _; rw [flat_snoc, ← (unhide HL).2.1] at h2; have hsz2 := g2.size; have b2 := Below.grown ((unhide HW).alloc (o := .cells #[.string x, .string d] 39) hwz) g2 (by simp; omega) (fun j hj => ((unhide HO).lt j hj).1); have d1 := (unhide HQ _ b2).1; have d2 := (unhide HQ _ b2).2; have hwz2 := b2.size; have H2 := hide (And.intro h2 b2); clear h2 g2 b2 hsz2) | (at_builtin; refine wpList_append_own _ rfl (.tmp 46) (.tmp 51) 22 rfl w.heap.size 39 i0 _ 2 32 Try.underlying22 (unhide HI).1 (unhide HI).2.1 (unhide HI).2.2.1 (unhide HI).2.2.2 rfl (by decide) _ (acc ++ [(x, d)]).length (flat (acc ++ [(x, d)])) rfl ((unhide H2).1.alloc _) ⟨w2.heap.size, 0, none⟩ 1 1 [.string (nm l k), .string (Plain.id l k)] rfl rfl (new_get w2 (nm l k) (Plain.id l k) 39) (two_one _ _) (by rw [(unhide HL).2.1]; unfold maxLen; omega) (by rw [(unhide HL).2.1]; omega) (by simp; omega) ?_; intro v3 w3 h3 g3 _; rw [flat_snoc, (unhide HL).2.1] at h3; have H3 := hide (And.intro h3 (Below.grown ((unhide H2).2.alloc (o := .cells #[.string (nm l k), .string (Plain.id l k)] 39) hwz2) g3 (by simp; omega) (fun j hj => ((unhide H2).1.lt j hj).1))); clear h3 g3))
            go_roundw
            case rel => exact ⟨k + 1, acc ++ [(x, d)] ++ [(nm l k, Plain.id l k)], true, by omega, by go_num, rfl, by rw [(unhide HL).2.2]; omega, by rw [(unhide HL).2.2]; exact (unhide H3).1, HM2, (unhide H3).2⟩
            case measure => simp [intOf]; omega
          · have HM2 := hide (merge_one x d p l acc _ k hlt (unhide HM) he hp)
            have hpd : p = true ∨ (p = false ∧ Op.bytesLess x.toList (nm l k).toList = false) := by
              cases p
              · right
                refine ⟨rfl, ?_⟩
                rw [less_eq]
                cases hb2 : Op.bytesLess (by' x) (by' (nm l k))
                · rfl
                · exact absurd ⟨rfl, hb2⟩ hp
              · exact .inl rfl
            have HL := hide hlb
            clear he hp hlb hlc hld
            rcases hpd with rfl | ⟨rfl, hlx2⟩
            all_goals
              go_wp2_with (at_builtin; refine wpList_append_own _ rfl (.tmp 46) (.tmp 51) 22 rfl w.heap.size 39 i0 _ 2 32 Try.underlying22 (unhide HI).1 (unhide HI).2.1 (unhide HI).2.2.1 (unhide HI).2.2.2 rfl (by decide) _ acc.length (flat acc) rfl ((unhide HO).alloc _) ⟨wr.heap.size, 0, none⟩ 1 1 [.string (nm l k), .string (Plain.id l k)] rfl rfl (new_get wr (nm l k) (Plain.id l k) 39) (two_one _ _) (by unfold maxLen; omega) (by omega) (by simp; omega) ?_; intro v3 w3 h3 g3 _; rw [flat_snoc, ← unhide HL] at h3; have H3 := hide (And.intro h3 (Below.grown ((unhide HW).alloc (o := .cells #[.string (nm l k), .string (Plain.id l k)] 39) hwz) g3 (by simp; omega) (fun j hj => ((unhide HO).lt j hj).1))); clear h3 g3)
              go_roundw
              case rel => exact ⟨k + 1, acc ++ [(nm l k, Plain.id l k)], _, by omega, by go_num, rfl, by rw [unhide HL]; omega, (unhide H3).1, HM2, (unhide H3).2⟩
              case measure => simp [intOf]; omega
    · have hke : l.drop k = [] := List.drop_of_length_le (by omega)
      rw [hke] at HM
      clear hke
      cases p
      · have HM2 : Hid (acc ++ [(x, d)] = mergeL x d E l) := by
          unfold Hid
          rw [← unhide HM]
          simp [mergeL]
        have HL : Hid ((acc ++ [(x, d)]).length = acc.length + 1) := by simp [Hid]
        go_wp2_with (at_builtin; refine wpList_append_own _ rfl (.tmp 55) (.tmp 59) 22 rfl w.heap.size 39 i0 _ 2 32 Try.underlying22 (unhide HI).1 (unhide HI).2.1 (unhide HI).2.2.1 (unhide HI).2.2.2 rfl (by decide) _ acc.length (flat acc) rfl ((unhide HO).alloc _) ⟨wr.heap.size, 0, none⟩ 1 1 [.string x, .string d] rfl rfl (new_get wr x d 39) (two_one x d) (by unfold maxLen; omega) (by omega) (by simp; omega) ?_; intro v2 w2 h2 g2 _; rw [flat_snoc, ← unhide HL, unhide HM2] at h2; have H2 := hide (And.intro h2 (Below.grown ((unhide HW).alloc (o := .cells #[.string x, .string d] 39) hwz) g2 (by simp; omega) (fun j hj => ((unhide HO).lt j hj).1))); clear h2 g2)
        go_ret
        exact ⟨_, rfl, (unhide H2).1, (unhide H2).2⟩
      · have HM2 : Hid (acc = mergeL x d E l) := by
          unfold Hid
          rw [← unhide HM]
          simp [mergeL]
        rw [unhide HM2] at HO
        go_wp2
        go_ret
        exact ⟨_, rfl, unhide HO, unhide HW⟩

end Go.Proofs.Qxb6602077a
