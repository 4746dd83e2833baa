/-
  THE WALK of FnIsUUIDAcceptsEveryFormatted (4).
-/
import Derived.Test.Qxb6602109aFormat
namespace Go.Proofs.Qxb6602109a
open Go.RowKit

theorem format_yes (cs : Array Value) (x : Nat → Nat) (up : Bool) (w : World) (h6 : Six cs x) :
    Calls Try.prog 12 #[.agg cs, .bool up, .bool true] w fun e w' => ∃ l : List UInt8, e = .returned (.string ⟨l.toArray⟩) ∧ (l.length = 36 ∧ Good l) ∧ Below w.heap.size w w' := by
  cases up
  · exact format_yes_false cs x w h6
  · exact format_yes_true cs x w h6
theorem format_no (cs : Array Value) (x : Nat → Nat) (up : Bool) (w : World) (h6 : Six cs x) :
    Calls Try.prog 12 #[.agg cs, .bool up, .bool false] w fun e w' => ∃ l : List UInt8, e = .returned (.string ⟨l.toArray⟩) ∧ l.length = 32 ∧ Below w.heap.size w w' := by
  cases up
  · exact format_no_false cs x w h6
  · exact format_no_true cs x w h6

theorem Try.size23 : (Try.prog.info? 23).map (·.size) = some 16 := by kernel_rfl

theorem size_mk (l : List UInt8) : (⟨l.toArray⟩ : ByteArray).size = l.length := by show l.toArray.size = _; simp

set_option maxHeartbeats 8000000 in
theorem main (cs : Array Value) (x : Nat → Nat) (up : Bool) (cu : UInt8) (k : Nat) (w : World) (h6 : Six cs x) (hk : k ≤ 36) :
    Calls Try.prog 4 #[.agg cs, .bool up, .int .u8 (cu.toNat : Int), .int .i64 k] w fun e w' => e = .returned (.bool true) ∧ Below w.heap.size w w' := by
  obtain ⟨i0, hi, hz0, hz1, hz2⟩ := info_parts Try.info5
  have HI := hide (And.intro hi (And.intro hz0 (And.intro hz1 hz2)))
  have H6 := hide h6
  have hb0 : (w.alloc (.cells cs 23)).heap[w.heap.size]? = some (.cells cs 23 (0, 0)) := heap_alloc_new w _
  have hs23 : (Try.prog.info? 23).map (·.size) = some cs.size := by rw [h6.size]; exact Try.size23
  have HL0 := hide (And.intro hb0 hs23)
  clear hi hz0 hz1 hz2 h6 hb0 hs23
  have HFy := hide (fun W => format_yes cs x up W (unhide H6))
  have HFn := hide (fun W => format_no cs x up W (unhide H6))
  go_enter Try.func4, Try.ntmps4
  go_wp2_with (refine wpList_load_row rfl 23 _ rfl w.heap.size rfl 23 cs (0, 0) _ (unhide HL0).1 Try.underlying23 rfl (unhide HL0).2 ?_)
  refine (unhide HFy _).mono ?_
  rintro e w1 ⟨l, rfl, ⟨hl36, hgood⟩, hb1⟩
  have HY := hide (fun W => isUUID_yes l W hl36 hgood)
  have hS : (⟨l.toArray⟩ : ByteArray).size = 36 := (size_mk l).trans hl36
  generalize (⟨l.toArray⟩ : ByteArray) = S at *
  have hS1 : S.size ≤ 36 := by omega
  have hS2 : 36 ≤ S.size := by omega
  have hb1' : w1.heap[w.heap.size]? = some (.cells cs 23 (0, 0)) := (hb1.block w.heap.size (by simp)).trans (unhide HL0).1
  have HL1 := hide (And.intro hb1' (unhide HL0).2)
  have H1 := hide (((Below.refl w.heap.size w).alloc (Nat.le_refl _) _).trans (hb1.mono (by simp)))
  clear hl36 hgood hS hb1 hb1' HL0 HFy
  go_wp2_with fail
  refine (unhide HY _).mono ?_
  rintro e w2 ⟨rfl, rfl⟩
  clear HY
  go_wp2_with (refine wpList_load_row rfl 23 _ rfl w.heap.size rfl 23 cs (0, 0) _ (unhide HL1).1 Try.underlying23 rfl (unhide HL1).2 ?_)
  refine (unhide HFn _).mono ?_
  rintro e w2 ⟨l2, rfl, hl32, hb2⟩
  have HN := hide (fun W => isUUID_no (⟨l2.toArray⟩ : ByteArray) W (by rw [size_mk, hl32]; decide))
  have hz1 : w.heap.size ≤ w1.heap.size := (unhide H1).size
  have H2 := hide ((unhide H1).trans (hb2.mono hz1))
  generalize (⟨l2.toArray⟩ : ByteArray) = S2 at *
  clear hl32 hb2 HL1 HFn H1
  go_wp2_with fail
  refine (unhide HN _).mono ?_
  rintro e w3 ⟨rfl, rfl⟩
  clear HN
  have hz2 : w.heap.size ≤ w2.heap.size := (unhide H2).size
  go_wp2_with (at_make; refine wpList_make_own _ rfl _ _ 25 rfl w.heap.size 5 i0 _ 1 Try.underlying25 (unhide HI).1 (unhide HI).2.1 (unhide HI).2.2.1 _ _ _ 37 rfl rfl rfl (by rw [(unhide HI).2.2.2]; decide) (by decide) hz2 ?_; intro w3 hown hgrow)
  have hB3 := Below.grown (unhide H2) hgrow hz2 (fun j hj => by cases hj)
  have H3 := hide (And.intro hown hB3)
  clear hown hgrow hB3
  go_loopw [10, 11] (fun v i wr => ∃ (j : Nat) (acc : List UInt8), j ≤ k ∧ i = .int .i64 j ∧ acc.length ≤ j ∧ j ≤ acc.length ∧ Hid (wr.ownsRow w.heap.size 5 1 v acc.length (Lib.byteCells acc)) ∧ Hid (Below w.heap.size w wr)) (fun _ i _ => k - (intOf i).toNat)
  case atStart => exact ⟨0, [], Nat.zero_le _, rfl, Nat.le_refl _, Nat.le_refl _, (unhide H3).1, (unhide H3).2⟩
  case round =>
    clear H3 H2
    obtain ⟨j, acc, hjk, rfl, ha1, ha2, HO, HW⟩ := hrel
    have hwz : w.heap.size ≤ wr.heap.size := (unhide HW).size
    by_cases hlt : j < k
    · have hj : j < S.size := by omega
      have HL : Hid ((acc ++ [S[j]'hj]).length = acc.length + 1) := by simp [Hid]
      go_wp2_with (at_builtin; refine wpList_append_own _ rfl (.tmp 37) (.tmp 41) 25 rfl w.heap.size 5 i0 _ 1 1 Try.underlying25 (unhide HI).1 (unhide HI).2.1 (unhide HI).2.2.1 (unhide HI).2.2.2 rfl (by decide) _ (acc).length (Lib.byteCells (acc)) rfl ((unhide HO).alloc _) ⟨wr.heap.size, 0, none⟩ 1 1 [.int .u8 ((S[j]'hj).toNat : Int)] rfl rfl (new_one wr _ 5) (u8_one _) (by unfold maxLen; omega) (by omega) (by simp; omega) ?_; intro v4 w4 h4 g4 _; rw [cells_snoc, ← unhide HL] at h4; have HH4 := hide (And.intro h4 (Below.grown ((unhide HW).alloc (o := .cells #[.int .u8 ((S[j]'hj).toNat : Int)] 5) hwz) g4 (by simp; omega) (fun j hj => ((unhide HO).lt j hj).1))); clear h4 g4)
      go_roundw
      case rel => exact ⟨j + 1, acc ++ [S[j]'hj], by omega, by go_num, by rw [unhide HL]; omega, by rw [unhide HL]; omega, (unhide HH4).1, (unhide HH4).2⟩
      case measure => simp [intOf]; omega
    · have HL : Hid ((acc ++ [cu]).length = acc.length + 1) := by simp [Hid]
      go_wp2_with (at_builtin; refine wpList_append_own _ rfl (.tmp 43) (.tmp 45) 25 rfl w.heap.size 5 i0 _ 1 1 Try.underlying25 (unhide HI).1 (unhide HI).2.1 (unhide HI).2.2.1 (unhide HI).2.2.2 rfl (by decide) _ (acc).length (Lib.byteCells (acc)) rfl ((unhide HO).alloc _) ⟨wr.heap.size, 0, none⟩ 1 1 [.int .u8 (cu.toNat : Int)] rfl rfl (new_one wr _ 5) (u8_one _) (by unfold maxLen; omega) (by omega) (by simp; omega) ?_; intro v5 w5 h5 g5 _; rw [cells_snoc, ← unhide HL] at h5; have HH5 := hide (And.intro h5 (Below.grown ((unhide HW).alloc (o := .cells #[.int .u8 (cu.toNat : Int)] 5) hwz) g5 (by simp; omega) (fun j hj => ((unhide HO).lt j hj).1))); clear h5 g5)
      have hal : (acc ++ [cu]).length = k + 1 := by rw [unhide HL]; omega
      generalize acc ++ [cu] = acc2 at *
      clear HL HO HW ha1 ha2 hlt hjk
      go_loopw [10, 12] (fun v i wr => ∃ (j : Nat) (acc : List UInt8), j ≤ S.size ∧ i = .int .i64 j ∧ acc.length ≤ j + 1 ∧ j + 1 ≤ acc.length ∧ Hid (wr.ownsRow w.heap.size 5 1 v acc.length (Lib.byteCells acc)) ∧ Hid (Below w.heap.size w wr)) (fun _ i _ => S.size - (intOf i).toNat)
      case atStart => exact ⟨k, acc2, by omega, rfl, by omega, by omega, (unhide HH5).1, (unhide HH5).2⟩
      case round =>
        clear HH5 hal hwz
        obtain ⟨j, acc, hjk, rfl, ha1, ha2, HO, HW⟩ := hrel
        have hwz : w.heap.size ≤ wr.heap.size := (unhide HW).size
        by_cases hlt : j < S.size
        · have hj : j < S.size := hlt
          have HL : Hid ((acc ++ [S[j]'hj]).length = acc.length + 1) := by simp [Hid]
          go_wp2_with (at_builtin; refine wpList_append_own _ rfl (.tmp 54) (.tmp 58) 25 rfl w.heap.size 5 i0 _ 1 1 Try.underlying25 (unhide HI).1 (unhide HI).2.1 (unhide HI).2.2.1 (unhide HI).2.2.2 rfl (by decide) _ (acc).length (Lib.byteCells (acc)) rfl ((unhide HO).alloc _) ⟨wr.heap.size, 0, none⟩ 1 1 [.int .u8 ((S[j]'hj).toNat : Int)] rfl rfl (new_one wr _ 5) (u8_one _) (by unfold maxLen; omega) (by omega) (by simp; omega) ?_; intro v6 w6 h6 g6 _; rw [cells_snoc, ← unhide HL] at h6; have HH6 := hide (And.intro h6 (Below.grown ((unhide HW).alloc (o := .cells #[.int .u8 ((S[j]'hj).toNat : Int)] 5) hwz) g6 (by simp; omega) (fun j hj => ((unhide HO).lt j hj).1))); clear h6 g6)
          go_roundw
          case rel => exact ⟨j + 1, acc ++ [S[j]'hj], by omega, by go_num, by rw [unhide HL]; omega, by rw [unhide HL]; omega, (unhide HH6).1, (unhide HH6).2⟩
          case measure => simp [intOf]; omega
        · have hl37 : acc.length = 37 := by omega
          have HN := hide (fun W => isUUID_no (⟨acc.toArray⟩ : ByteArray) W (by rw [size_mk, hl37]; decide))
          obtain ⟨g, cap, hv, hcl⟩ := own_bytes (unhide HO) (by omega)
          subst hv
          have hcv := run_convert_bytes_back (P := Try.prog) wr 25 9 5 ⟨g, 0, none⟩ cap acc Try.underlying25 Try.underlying5 Try.underlying9 hcl
          generalize (⟨acc.toArray⟩ : ByteArray) = S3 at *
          clear hl37 hcl HO ha1 ha2
          go_wp2_with fail
          refine (unhide HN _).mono ?_
          rintro e w7 ⟨rfl, rfl⟩
          clear HN
          by_cases hk36 : k < 36
          · go_wp2_with (at_make; refine wpList_make_own _ rfl _ _ 25 rfl w.heap.size 5 i0 _ 1 Try.underlying25 (unhide HI).1 (unhide HI).2.1 (unhide HI).2.2.1 _ _ _ 35 rfl rfl rfl (by rw [(unhide HI).2.2.2]; decide) (by decide) hwz ?_; intro w8 hown hgrow)
            have hB8 := Below.grown (unhide HW) hgrow hwz (fun j hj => by cases hj)
            have H8 := hide (And.intro hown hB8)
            clear hown hgrow hB8 hcv
            obtain ⟨wo, rfl⟩ : ∃ wo : World, wo = wr := ⟨_, rfl⟩
            go_loopw [13, 14] (fun v i wr => ∃ (j : Nat) (acc : List UInt8), j ≤ S.size ∧ i = .int .i64 j ∧ ((j ≤ k ∧ acc.length = j) ∨ (k < j ∧ acc.length + 1 = j)) ∧ Hid (wr.ownsRow w.heap.size 5 1 v acc.length (Lib.byteCells acc)) ∧ Hid (Below w.heap.size w wr)) (fun _ i _ => S.size - (intOf i).toNat)
            case atStart => exact ⟨0, [], by omega, rfl, .inl ⟨Nat.zero_le _, rfl⟩, (unhide H8).1, (unhide H8).2⟩
            case round =>
              clear H8 HW hwz
              obtain ⟨j, acc, hjk, rfl, ha, HO, HW⟩ := hrel
              have hwz : w.heap.size ≤ wr.heap.size := (unhide HW).size
              have hacc : acc.length ≤ 36 := by omega
              have HAc := hide ha
              clear ha
              by_cases hlt : j < S.size
              · have hj : j < S.size := hlt
                have HL : Hid ((acc ++ [S[j]'hj]).length = acc.length + 1) := by simp [Hid]
                by_cases hjk2 : j = k
                · have hne : ((j : Int) != (k : Int)) = false := by simp [hjk2]
                  have HA2 : Hid ((j + 1 ≤ k ∧ acc.length = j + 1) ∨ (k < j + 1 ∧ acc.length + 1 = j + 1)) := by
                    have := unhide HAc
                    unfold Hid
                    omega
                  clear hjk2
                  go_wp2
                  go_roundw
                  case rel => exact ⟨j + 1, acc, by omega, by go_num, unhide HA2, HO, HW⟩
                  case measure => simp [intOf]; omega
                · have hne : ((j : Int) != (k : Int)) = true := by rw [bne_iff_ne]; omega
                  have HA2 : Hid ((j + 1 ≤ k ∧ (acc ++ [S[j]'hj]).length = j + 1) ∨ (k < j + 1 ∧ (acc ++ [S[j]'hj]).length + 1 = j + 1)) := by
                    have := unhide HAc
                    unfold Hid
                    rw [unhide HL]
                    omega
                  clear hjk2
                  go_wp2_with (at_builtin; refine wpList_append_own _ rfl (.tmp 75) (.tmp 79) 25 rfl w.heap.size 5 i0 _ 1 1 Try.underlying25 (unhide HI).1 (unhide HI).2.1 (unhide HI).2.2.1 (unhide HI).2.2.2 rfl (by decide) _ (acc).length (Lib.byteCells (acc)) rfl ((unhide HO).alloc _) ⟨wr.heap.size, 0, none⟩ 1 1 [.int .u8 ((S[j]'hj).toNat : Int)] rfl rfl (new_one wr _ 5) (u8_one _) (by unfold maxLen; omega) (by omega) (by simp; omega) ?_; intro v9 w9 h9 g9 _; rw [cells_snoc, ← unhide HL] at h9; have HH9 := hide (And.intro h9 (Below.grown ((unhide HW).alloc (o := .cells #[.int .u8 ((S[j]'hj).toNat : Int)] 5) hwz) g9 (by simp; omega) (fun j hj => ((unhide HO).lt j hj).1))); clear h9 g9)
                  go_roundw
                  case rel => exact ⟨j + 1, acc ++ [S[j]'hj], by omega, by go_num, unhide HA2, (unhide HH9).1, (unhide HH9).2⟩
                  case measure => simp [intOf]; omega
              · have hl35 : acc.length = 35 := by have := unhide HAc; omega
                have HN := hide (fun W => isUUID_no (⟨acc.toArray⟩ : ByteArray) W (by rw [size_mk, hl35]; decide))
                obtain ⟨g, cap, hv, hcl⟩ := own_bytes (unhide HO) (by omega)
                subst hv
                have hcv := run_convert_bytes_back (P := Try.prog) wr 25 9 5 ⟨g, 0, none⟩ cap acc Try.underlying25 Try.underlying5 Try.underlying9 hcl
                generalize (⟨acc.toArray⟩ : ByteArray) = S4 at *
                clear hl35 hcl HO HAc
                go_wp2_with fail
                refine (unhide HN _).mono ?_
                rintro e w7 ⟨rfl, rfl⟩
                go_wp2
                go_ret
                exact ⟨rfl, unhide HW⟩
          · clear hcv
            go_wp2
            go_ret
            exact ⟨rfl, unhide HW⟩

theorem walk (cs : Array Value) (x : Nat → Nat) (up : Bool) (c k : Int) (w : World) (h6 : Six cs x) (hc : 0 ≤ c ∧ c ≤ 255) :
    Calls Try.prog 4 #[.agg cs, .bool up, .int .u8 c, .int .i64 k] w fun e w' => e = .returned (.bool true) ∧ Below w.heap.size w w' := by
  by_cases h0 : 0 ≤ k
  · by_cases h36 : k ≤ 36
    · obtain ⟨n, rfl⟩ := Int.eq_ofNat_of_zero_le h0
      obtain ⟨m, rfl⟩ := Int.eq_ofNat_of_zero_le hc.1
      have e : (m : Int) = ((UInt8.ofNat m).toNat : Int) := by
        rw [UInt8.toNat_ofNat_of_lt' (show m < 256 by omega)]
      rw [e]
      exact main cs x up (UInt8.ofNat m) n w h6 (by omega)
    · go_enter Try.func4, Try.ntmps4
      go_wp2
      go_ret
      exact ⟨rfl, (Below.refl _ _).alloc (Nat.le_refl _) _⟩
  · go_enter Try.func4, Try.ntmps4
    go_wp2
    go_ret
    exact ⟨rfl, (Below.refl _ _).alloc (Nat.le_refl _) _⟩

end Go.Proofs.Qxb6602109a
