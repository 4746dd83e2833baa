/-
  WALKS of the seat b6602077a: pickHead (33), ZZPickHead (22).
-/
import Derived.Test.Qxb6602077aFind
namespace Go.Proofs.Qxb6602077a
open Go.RowKit Plain

set_option maxHeartbeats 4000000 in
theorem pick33 {B sb : Nat} {fmt hd : ByteArray} {l : List R} {w : World} (h : StateAt B sb fmt hd l w) (hA : Asc l) (hl : l.length ≤ 1048576) (hB : B ≤ w.heap.size) :
    Calls Try.prog 33 #[.pointer (some ⟨sb, 0, none⟩)] w fun e w' => e = .returned (.tuple #[]) ∧ StateAt B sb fmt (pick hd l) l w' ∧ Below B w w' := by
  obtain ⟨ao, c, hr, c0, c1, c2, _⟩ := h.cells
  have HF := hide (ref36 h hd hA hl)
  have HS := hide h
  have HA := hide hA
  clear h hA hr
  cases e1 : hasName l hd
  · rw [e1] at HF
    have H1 := hide e1
    clear e1
    go_enter Try.func33, Try.ntmps33
    go_wp2_with fail
    refine (unhide HF).mono ?_
    rintro e w1 ⟨rfl, hb1⟩
    have st1 := (unhide HS).below hb1
    obtain ⟨ao1, cc1, hr1, d0, d1, d2, f1⟩ := st1.cells
    have Hb1 := hide (hb1.mono hB)
    have HZ1 := hide hb1.size
    have st2 := st1.setHead ⟨#[]⟩
    have H2 := hide st2
    have HF2 := hide (ref36 st2.1 mainB (unhide HA) hl)
    clear hb1 st1 st2 hr1
    cases e2 : hasName l mainB
    · have HP : Hid (pick hd l = firstBr l) := by unfold Hid pick; rw [unhide H1, e2]; rfl
      rw [e2] at HF2
      clear e2
      go_wp2_with fail
      refine (unhide HF2).mono ?_
      rintro e w2 ⟨rfl, hb2⟩
      have st3 := (unhide H2).1.below hb2
      obtain ⟨ao2, cc2, hr2, g0, g1, g2, f2⟩ := st3.cells
      have hsz2 : w1.heap.size ≤ w2.heap.size := by have := hb2.size; simpa using this
      have Hb2 := hide (((unhide Hb1).trans (unhide H2).2).trans (hb2.mono (by have := unhide HZ1; simp; omega)))
      have HS3 := hide st3
      have HR2 := hide hr2
      clear hb2 st3 hr2 HF2 H2 HF
      go_wp2
      go_loopw [35] (fun i wr => ∃ k : Nat, k ≤ l.length ∧ i = .int .i64 k ∧ Hid (Below w2.heap.size w2 wr) ∧ Hid (∀ j, j < k → isBr (nm l j) = false)) (fun i _ => l.length - (intOf i).toNat)
      case atStart => exact ⟨0, Nat.zero_le _, rfl, Below.refl _ _, fun j hj => by omega⟩
      case round =>
        obtain ⟨k, hk, rfl, HW, HN⟩ := hrel
        by_cases hlt : k < l.length
        · have hr3 := (unhide HR2).below (unhide HW)
          have st4 := (unhide HS3).below (unhide HW)
          have hwz : w2.heap.size ≤ wr.heap.size := (unhide HW).size
          obtain ⟨ao4, c4, _, k0, k1, k2, f4⟩ := st4.cells
          have HS4 := hide st4
          have hsb := st4.lt
          clear st4
          rcases hr3 with rfl | ⟨b, off, rfl, hbl, hc⟩
          · simp at hlt
          · have h1 := (hc k hlt).1
            have h2 := (hc k hlt).2
            clear hc
            have hP := Try.strings_HasPrefix (nm l k) ⟨#[114, 101, 102, 115, 47, 104, 101, 97, 100, 115, 47]⟩ (wr.alloc (.cells #[.string (nm l k), .string (Plain.id l k)] 51))
            have hP2 : Calls Try.prog 41 #[.string (nm l k), .string ⟨#[114, 101, 102, 115, 47, 104, 101, 97, 100, 115, 47]⟩] (wr.alloc (.cells #[.string (nm l k), .string (Plain.id l k)] 51)) fun e w' => e = .returned (.bool (isBr (nm l k))) ∧ w' = (wr.alloc (.cells #[.string (nm l k), .string (Plain.id l k)] 51)) := hP
            cases he : isBr (nm l k)
            · rw [he] at hP2
              have Hn : Hid (∀ j, j < k + 1 → isBr (nm l j) = false) := by
                intro j hj
                by_cases e : j = k
                · rw [e]; exact he
                · exact HN.out j (by omega)
              have HC := hide hP2
              clear he hP hP2
              go_wp2_with fail
              refine (unhide HC).mono ?_
              rintro e w' ⟨rfl, rfl⟩
              have Hw2 := hide ((unhide HW).alloc (o := .cells #[.string (nm l k), .string (Plain.id l k)] 51) hwz)
              go_wp2
              go_roundw
              case rel => exact ⟨k + 1, by omega, by go_num, Hw2, Hn⟩
              case measure => simp [intOf]; omega
            · rw [he] at hP2
              have Hn := hide ((unhide HP).trans (firstBr_at l k hlt (unhide HN) he))
              have HC := hide hP2
              clear he hP hP2
              go_wp2_with fail
              refine (unhide HC).mono ?_
              rintro e w' ⟨rfl, rfl⟩
              have H5 := hide ((unhide HS4).setHead (nm l k))
              go_wp2
              refine bodyPost_ret (results_none rfl _ _ _) rfl ?_
              have hz5 : (wr.setCell ⟨sb, 1, none⟩ (.string (nm l k))).heap.size = wr.heap.size := by simp
              have hB5 : B ≤ wr.heap.size := by have := unhide HZ1; omega
              have ha := (Below.refl (wr.setCell ⟨sb, 1, none⟩ (.string (nm l k))).heap.size (wr.setCell ⟨sb, 1, none⟩ (.string (nm l k)))).alloc (Nat.le_refl _) (.cells #[.string (nm l k), .string (Plain.id l k)] 51)
              exact ⟨rfl, by rw [unhide Hn]; exact (unhide H5).1.below ha, (((unhide Hb2).trans ((unhide HW).mono (by have := unhide HZ1; omega))).trans (unhide H5).2).trans (ha.mono (by rw [hz5]; exact hB5))⟩
        · have Hn := hide ((unhide HP).trans (firstBr_none l (fun j hj => unhide HN j (by omega))))
          go_wp2
          go_end0
          exact ⟨rfl, by rw [unhide Hn]; exact (unhide HS3).below (unhide HW), (unhide Hb2).trans ((unhide HW).mono (by have := unhide HZ1; omega))⟩
    · have HP : Hid (pick hd l = mainB) := by unfold Hid pick; rw [unhide H1, e2]; rfl
      rw [e2] at HF2
      clear e2
      go_wp2_with fail
      refine (unhide HF2).mono ?_
      rintro e w2 ⟨rfl, hb2⟩
      have st3 := (unhide H2).1.below hb2
      obtain ⟨ao2, cc2, hr2, g0, g1, g2, f2⟩ := st3.cells
      have Hb2 := hide (((unhide Hb1).trans (unhide H2).2).trans (hb2.mono (by have := unhide HZ1; simp; omega)))
      have H4 := hide (st3.setHead mainB)
      clear hb2 st3 hr2 HF2 H2 HF
      go_wp2
      refine bodyPost_ret (results_none rfl _ _ _) rfl ?_
      exact ⟨rfl, by rw [unhide HP]; exact (unhide H4).1, (unhide Hb2).trans (unhide H4).2⟩
  · have HP : Hid (pick hd l = hd) := by unfold Hid pick; rw [e1]; rfl
    rw [e1] at HF
    clear e1
    go_enter Try.func33, Try.ntmps33
    go_wp2_with fail
    refine (unhide HF).mono ?_
    rintro e w1 ⟨rfl, hb1⟩
    go_wp2
    refine bodyPost_ret (results_none rfl _ _ _) rfl ?_
    exact ⟨rfl, by rw [unhide HP]; exact (unhide HS).below hb1, hb1.mono hB⟩

theorem ZZPick22 {B sb : Nat} {fmt hd : ByteArray} {l : List R} {w : World} (h : StateAt B sb fmt hd l w) (hA : Asc l) (hl : l.length ≤ 1048576) (hB : B ≤ w.heap.size) :
    Calls Try.prog 22 #[.pointer (some ⟨sb, 0, none⟩)] w fun e w' => e = .returned (.tuple #[]) ∧ StateAt B sb fmt (pick hd l) l w' ∧ Below B w w' := by
  have HP := hide (pick33 h hA hl hB)
  clear h hA
  go_enter Try.func22, Try.ntmps22
  go_wp2_with fail
  refine (unhide HP).mono ?_
  rintro e w1 ⟨rfl, h1, hb1⟩
  have H1 := hide (And.intro h1 hb1)
  clear h1 hb1
  go_wp2
  go_end0
  exact ⟨rfl, unhide H1⟩

end Go.Proofs.Qxb6602077a
