/-
  WALKS of the seat b6602077a: zzBytes_FnSetMatchesMergeModel (9), zzBytes_FnSetThenPickHeadKeepsStateInvariant (26), invariantB1 (29).
-/
import Derived.Test.Qxb6602077aModel
namespace Go.Proofs.Qxb6602077a
open Go.RowKit Plain

set_option maxHeartbeats 4000000 in
theorem bytes9 (s t u v : ByteArray) (ao : Option Addr) (c : Nat) (l : List R) (w : World) (hs : s.size ≤ maxLen) (ht : t.size ≤ maxLen) (hu : u.size ≤ maxLen) (hv : v.size ≤ maxLen) (hl : l.length ≤ maxLen) (hsz : ∀ k, k < l.length → (nm l k).size ≤ maxLen ∧ (Plain.id l k).size ≤ maxLen) (hr : RefsAt w ao l) :
    Calls Try.prog 9 #[.string s, .string t, .slice ao l.length c, .string u, .string v] w fun e w' => (e = .returned (.bool false) ∨ (e = .returned (.bool true) ∧ Hid (s.size ≤ 1048576 ∧ t.size ≤ 1048576 ∧ u.size ≤ 1048576 ∧ v.size ≤ 1048576 ∧ l.length ≤ 1048576 ∧ Short l l.length))) ∧ w = w' := by
  unfold maxLen at hs ht hu hv hl hsz
  have HS := hide hsz
  clear hsz
  by_cases h1 : s.size ≤ 1048576
  · by_cases h2 : t.size ≤ 1048576 ∧ s.size + t.size ≤ 1048576
    · obtain ⟨h2, h3⟩ := h2
      by_cases h4 : l.length ≤ 1048576 ∧ s.size + t.size + l.length ≤ 1048576
      · obtain ⟨h4, h5⟩ := h4
        go_enter Try.func9, Try.ntmps9
        go_wp2
        go_loop [11, 12] (fun z i => ∃ k N : Nat, k ≤ l.length ∧ N ≤ 1048576 ∧ z = .int .i64 N ∧ i = .int .i64 k ∧ Hid (Short l k)) (fun _ i => l.length - (intOf i).toNat)
        case atStart => exact ⟨0, s.size + t.size + l.length, Nat.zero_le _, h5, by go_num, rfl, fun j hj => by omega⟩
        case round =>
          obtain ⟨k, N, hk, hN, rfl, rfl, HF⟩ := hrel
          by_cases hlt : k < l.length
          · rcases hr with rfl | ⟨b, off, rfl, _, hc⟩
            · simp at hlt
            · have c1 := (hc k hlt).1
              have c2 := (hc k hlt).2
              have hz := unhide HS k hlt
              obtain ⟨z1, z2⟩ := hz
              clear hc
              by_cases g1 : (nm l k).size ≤ 1048576 ∧ N + (nm l k).size ≤ 1048576
              · obtain ⟨g1, g2⟩ := g1
                by_cases g3 : (Plain.id l k).size ≤ 1048576 ∧ N + (nm l k).size + (Plain.id l k).size ≤ 1048576
                · obtain ⟨g3, g4⟩ := g3
                  have Hn := hide (Short.step (unhide HF) g1 g3)
                  go_wp2
                  go_round
                  case rel => exact ⟨k + 1, N + (nm l k).size + (Plain.id l k).size, by omega, g4, by go_num, by go_num, Hn⟩
                  case measure => simp [intOf]; omega
                · go_wp2
                  all_goals (go_ret; exact ⟨.inl rfl, rfl⟩)
              · go_wp2
                all_goals (go_ret; exact ⟨.inl rfl, rfl⟩)
          · have hke : k = l.length := by omega
            have Hn : Hid (Short l l.length) := by rw [← hke]; exact HF
            clear hke
            by_cases g5 : u.size ≤ 1048576 ∧ N + u.size ≤ 1048576
            · obtain ⟨g5, g6⟩ := g5
              by_cases g7 : v.size ≤ 1048576 ∧ N + u.size + v.size ≤ 1048576
              · obtain ⟨g7, g8⟩ := g7
                have HA : Hid (s.size ≤ 1048576 ∧ t.size ≤ 1048576 ∧ u.size ≤ 1048576 ∧ v.size ≤ 1048576 ∧ l.length ≤ 1048576 ∧ Short l l.length) := ⟨h1, h2, g5, g7, h4, Hn⟩
                go_wp2
                go_ret
                first | exact ⟨.inr ⟨rfl, HA⟩, rfl⟩ | exact ⟨.inr rfl, rfl⟩
              · go_wp2
                all_goals (go_ret; exact ⟨.inl rfl, rfl⟩)
            · go_wp2
              all_goals (go_ret; exact ⟨.inl rfl, rfl⟩)
      · go_enter Try.func9, Try.ntmps9
        go_wp2
        all_goals (go_ret; exact ⟨.inl rfl, rfl⟩)
    · go_enter Try.func9, Try.ntmps9
      go_wp2
      all_goals (go_ret; exact ⟨.inl rfl, rfl⟩)
  · go_enter Try.func9, Try.ntmps9
    go_wp2
    go_ret
    exact ⟨.inl rfl, rfl⟩

set_option maxHeartbeats 8000000 in
theorem bytes26 (s t : ByteArray) (ao ao2 : Option Addr) (c c2 : Nat) (l l2 : List R) (w : World) (hs : s.size ≤ maxLen) (ht : t.size ≤ maxLen) (hl : l.length ≤ maxLen) (hl2 : l2.length ≤ maxLen) (hsz : ∀ k, k < l.length → (nm l k).size ≤ maxLen ∧ (Plain.id l k).size ≤ maxLen) (hsz2 : ∀ k, k < l2.length → (nm l2 k).size ≤ maxLen ∧ (Plain.id l2 k).size ≤ maxLen) (hr : RefsAt w ao l) (hr2 : RefsAt w ao2 l2) :
    Calls Try.prog 26 #[.string s, .string t, .slice ao l.length c, .slice ao2 l2.length c2] w fun e w' => (e = .returned (.bool false) ∨ (e = .returned (.bool true) ∧ Hid (s.size ≤ 1048576 ∧ t.size ≤ 1048576 ∧ l.length ≤ 1048576 ∧ l2.length ≤ 1048576 ∧ Short l l.length ∧ Short l2 l2.length))) ∧ w = w' := by
  unfold maxLen at hs ht hl hl2 hsz hsz2
  have HS := hide hsz
  have HS2 := hide hsz2
  clear hsz hsz2
  by_cases h1 : s.size ≤ 1048576
  · by_cases h2 : t.size ≤ 1048576 ∧ s.size + t.size ≤ 1048576
    · obtain ⟨h2, h3⟩ := h2
      by_cases h4 : l.length ≤ 1048576 ∧ s.size + t.size + l.length ≤ 1048576
      · obtain ⟨h4, h5⟩ := h4
        go_enter Try.func26, Try.ntmps26
        go_wp2
        go_loop [9, 10] (fun z i => ∃ k N : Nat, k ≤ l.length ∧ N ≤ 1048576 ∧ z = .int .i64 N ∧ i = .int .i64 k ∧ Hid (Short l k)) (fun _ i => l.length - (intOf i).toNat)
        case atStart => exact ⟨0, s.size + t.size + l.length, Nat.zero_le _, h5, by go_num, rfl, fun j hj => by omega⟩
        case round =>
          obtain ⟨k, N, hk, hN, rfl, rfl, HF⟩ := hrel
          by_cases hlt : k < l.length
          · rcases hr with rfl | ⟨b, off, rfl, _, hc⟩
            · simp at hlt
            · have c1 := (hc k hlt).1
              have c2 := (hc k hlt).2
              have hz := unhide HS k hlt
              obtain ⟨z1, z2⟩ := hz
              clear hc
              by_cases g1 : (nm l k).size ≤ 1048576 ∧ N + (nm l k).size ≤ 1048576
              · obtain ⟨g1, g2⟩ := g1
                by_cases g3 : (Plain.id l k).size ≤ 1048576 ∧ N + (nm l k).size + (Plain.id l k).size ≤ 1048576
                · obtain ⟨g3, g4⟩ := g3
                  have Hn := hide (Short.step (unhide HF) g1 g3)
                  go_wp2
                  go_round
                  case rel => exact ⟨k + 1, N + (nm l k).size + (Plain.id l k).size, by omega, g4, by go_num, by go_num, Hn⟩
                  case measure => simp [intOf]; omega
                · go_wp2
                  all_goals (go_ret; exact ⟨.inl rfl, rfl⟩)
              · go_wp2
                all_goals (go_ret; exact ⟨.inl rfl, rfl⟩)
          · have hke : k = l.length := by omega
            have Hn : Hid (Short l l.length) := by rw [← hke]; exact HF
            clear hke
            by_cases g5 : l2.length ≤ 1048576 ∧ N + l2.length ≤ 1048576
            · obtain ⟨g5, g6⟩ := g5
              go_wp2
              go_loop [9, 11] (fun z i => ∃ k N : Nat, k ≤ l2.length ∧ N ≤ 1048576 ∧ z = .int .i64 N ∧ i = .int .i64 k ∧ Hid (Short l2 k)) (fun _ i => l2.length - (intOf i).toNat)
              case atStart => exact ⟨0, N + l2.length, Nat.zero_le _, g6, by go_num, rfl, fun j hj => by omega⟩
              case round =>
                obtain ⟨k2, N2, hk2, hN2, rfl, rfl, HF2⟩ := hrel
                by_cases hlt2 : k2 < l2.length
                · rcases hr2 with rfl | ⟨b, off, rfl, _, hc⟩
                  · simp at hlt2
                  · have c1 := (hc k2 hlt2).1
                    have c2 := (hc k2 hlt2).2
                    have hz := unhide HS2 k2 hlt2
                    obtain ⟨z1, z2⟩ := hz
                    clear hc
                    by_cases q1 : (nm l2 k2).size ≤ 1048576 ∧ N2 + (nm l2 k2).size ≤ 1048576
                    · obtain ⟨q1, q2⟩ := q1
                      by_cases q3 : (Plain.id l2 k2).size ≤ 1048576 ∧ N2 + (nm l2 k2).size + (Plain.id l2 k2).size ≤ 1048576
                      · obtain ⟨q3, q4⟩ := q3
                        have Hn2 := hide (Short.step (unhide HF2) q1 q3)
                        go_wp2
                        go_round
                        case rel => exact ⟨k2 + 1, N2 + (nm l2 k2).size + (Plain.id l2 k2).size, by omega, q4, by go_num, by go_num, Hn2⟩
                        case measure => simp [intOf]; omega
                      · go_wp2
                        all_goals (go_ret; exact ⟨.inl rfl, rfl⟩)
                    · go_wp2
                      all_goals (go_ret; exact ⟨.inl rfl, rfl⟩)
                · have hke2 : k2 = l2.length := by omega
                  have Hn2 : Hid (Short l2 l2.length) := by rw [← hke2]; exact HF2
                  clear hke2
                  have HA : Hid (s.size ≤ 1048576 ∧ t.size ≤ 1048576 ∧ l.length ≤ 1048576 ∧ l2.length ≤ 1048576 ∧ Short l l.length ∧ Short l2 l2.length) := ⟨h1, h2, h4, g5, Hn, Hn2⟩
                  go_wp2
                  go_ret
                  first | exact ⟨.inr ⟨rfl, HA⟩, rfl⟩ | exact ⟨.inr ⟨rfl, (unhide HA).2.2.2.2⟩, rfl⟩ | exact ⟨.inr rfl, rfl⟩
            · go_wp2
              all_goals (go_ret; exact ⟨.inl rfl, rfl⟩)
      · go_enter Try.func26, Try.ntmps26
        go_wp2
        all_goals (go_ret; exact ⟨.inl rfl, rfl⟩)
    · go_enter Try.func26, Try.ntmps26
      go_wp2
      all_goals (go_ret; exact ⟨.inl rfl, rfl⟩)
  · go_enter Try.func26, Try.ntmps26
    go_wp2
    go_ret
    exact ⟨.inl rfl, rfl⟩

set_option maxHeartbeats 4000000 in
theorem invariant29 (hd : ByteArray) (ao : Option Addr) (c : Nat) (l : List R) (w : World) (hA : Asc l) (hI : Plain.idsSet l = true) (hH : hasName l hd = true ∨ (by' hd = [] ∧ anyBr l = false)) (hl : l.length ≤ 1048576) (hsz : ∀ k, k < l.length → (nm l k).size ≤ maxLen) (hr : RefsAt w ao l) :
    Calls Try.prog 29 #[.string hd, .slice ao l.length c] w fun e w' => e = .returned (.bool true) ∧ ∃ n, w' = w.drewN n := by
  have hsrt := sorted_walk ao c l w hl hr
  rw [(ascB_iff l).2 hA] at hsrt
  have HSo := hide hsrt
  have HR := hide hr
  have HZ := hide hsz
  clear hsrt hA hr hsz
  go_enter Try.func29, Try.ntmps29
  go_wp2_with fail
  refine (unhide HSo).mono ?_
  rintro e w1 ⟨rfl, n, rfl⟩
  have hr1 := (unhide HR).below (below_drewN (Below.refl w.heap.size w) n)
  have hid := idsSet_walk ao c l (w.drewN n) hl hr1
  rw [hI] at hid
  have HId := hide hid
  have HN := hide (hasName_walk ao c l hd (w.drewN n) hl hr1)
  have HB := hide (anyBranch_walk ao c l (w.drewN n) hl (unhide HZ) hr1)
  clear hid hr1 HSo
  go_wp2_with fail
  refine (unhide HId).mono ?_
  rintro e w2 ⟨rfl, rfl⟩
  clear HId hI
  go_wp2_with fail
  refine (unhide HN).mono ?_
  rintro e w2 ⟨rfl, rfl⟩
  clear HN
  cases hn : hasName l hd
  · rw [hn] at hH
    obtain ⟨h1, h2⟩ := hH.resolve_left (by simp)
    have he : hd.toList.isEmpty = true := by rw [tl, h1]; rfl
    rw [h2] at HB
    clear hn h1 h2 hH
    go_wp2_with fail
    refine (unhide HB).mono ?_
    rintro e w2 ⟨rfl, rfl⟩
    go_wp2
    go_ret
    exact ⟨rfl, ⟨n, rfl⟩⟩
  · clear hn hH
    go_wp2
    go_ret
    exact ⟨rfl, ⟨n, rfl⟩⟩

end Go.Proofs.Qxb6602077a
