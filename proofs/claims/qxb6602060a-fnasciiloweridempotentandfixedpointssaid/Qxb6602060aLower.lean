/-
  THE WALK of store.asciiLower (13) and store.ZZasciiLower (7), out of the library's contracts (Qxb6602060aShelf).
-/
import Derived.Test.Qxb6602060aSmall
import Derived.Test.Qxb6602060aShelf
namespace Go.Proofs.Qxb6602060a
open Go.RowKit

theorem eg15 : ∀ args w, (callFunc 15 args).run Try.prog w = .ok (.enter 15 args) w := enters_of Try.func15 (by kernel_rfl) rfl

theorem take_succ_map (s : ByteArray) (k : Nat) (h : k < s.size) :
    Lib.byteCells ((s.data.toList.take k).map Lib.lowerB) ++ [Value.int .u8 ((Lib.lowerB (s[k]'h)).toNat : Int)] = Lib.byteCells ((s.data.toList.take (k + 1)).map Lib.lowerB) := by
  rw [List.take_succ_eq_append_getElem (by rw [← Lib.size_eq]; exact h), List.map_append, Lib.byteCells_append]
  rfl

theorem len_take (s : ByteArray) (k : Nat) (h : k ≤ s.size) : (Lib.byteCells ((s.data.toList.take k).map Lib.lowerB)).length = k := by
  rw [Lib.byteCells_length, List.length_map, List.length_take, ← Lib.size_eq]
  omega

set_option maxHeartbeats 2000000 in
set_option maxRecDepth 100000 in
theorem asciiLower (s : ByteArray) (w : World) (hs : s.size ≤ 1048576) :
    Calls Try.prog 13 #[.string s] w fun e w' => e = .returned (.string (Plain.low s)) ∧ Below w.heap.size w w' := by
  have hI := Try.strings_IndexFunc 15 #[] eg15 Plain.capR s w (pred15 w)
  have hrg := Lib.idxFuncFrom_range Plain.capR true s s.size 0
  change Lib.idxFunc Plain.capR true s = -1 ∨ _ at hrg
  have hneg := Plain.low_neg s
  have htake := Plain.take_pos s
  have hrg' : Lib.idxFunc Plain.capR true s = -1 ∨ ∃ i : Nat, Lib.idxFunc Plain.capR true s = (i : Int) ∧ i < s.size := by
    rcases hrg with h | ⟨h1, h2⟩
    · exact .inl h
    · refine .inr ⟨(Lib.idxFunc Plain.capR true s).toNat, ?_, ?_⟩
      · rw [Int.toNat_of_nonneg]
        simpa [Lib.idxFunc] using h1
      · have : Lib.idxFunc Plain.capR true s < (s.size : Int) := h2
        have h0 : (0 : Int) ≤ Lib.idxFunc Plain.capR true s := by simpa [Lib.idxFunc] using h1
        omega
  clear hrg
  generalize Lib.idxFunc Plain.capR true s = I at *
  rcases hrg' with rfl | ⟨i, rfl, hi⟩
  · have Hn := hide (hneg rfl)
    clear hneg htake
    go_enter Try.func13, Try.ntmps13
    go_wp2_with (go_at_call 14; refine hI.mono ?_; rintro e w1 ⟨rfl, hb1⟩)
    go_ret
    exact ⟨by rw [unhide Hn]; rfl, hb1⟩
  · have Ht := hide (htake i rfl)
    have hi0 : ¬ ((i : Int) < 0) := by omega
    clear hneg htake
    go_enter Try.func13, Try.ntmps13
    go_wp2_with (go_at_call 14; refine hI.mono ?_; rintro e w1 ⟨rfl, hb1⟩)
    refine (Try.Builder_Grow_fresh w.heap.size w1.heap.size s.size _ hb1.size (heap_alloc_new w1 _) (by have := hb1.size; simp; omega) (by omega)).mono ?_
    rintro e w2 ⟨rfl, h2, hb2⟩
    have hb2' : Below w.heap.size w w2 := (hb1.alloc hb1.size _).trans hb2
    have H2 := hide (Or.inr h2 : Lib.IsBuilder 31 5 w.heap.size w1.heap.size [] w2)
    have Hb2 := hide hb2'
    have hz2 : w.heap.size ≤ w2.heap.size := hb2'.size
    clear h2 hb2 hb2' hb1 hI
    have hxs : (s.extract 0 i).size = i := by
      rw [Lib.size_eq, Lib.extract_data, List.length_take, List.length_drop, ← Lib.size_eq]
      omega
    have hcells : Lib.strCells (s.extract 0 i) = Lib.byteCells ((s.data.toList.take i).map Lib.lowerB) := by
      rw [Lib.strCells_eq, Lib.extract_data, unhide Ht]
      rfl
    have HX := hide hxs
    have HC := hide hcells
    clear hxs hcells
    go_wp2_with fail
    refine (Try.Builder_WriteString w.heap.size w1.heap.size [] (s.extract 0 i) w2 (unhide H2) (by rw [unhide HX]; simp; omega) hz2).mono ?_
    rintro e w3 ⟨rfl, h3, hb3⟩
    rw [List.nil_append, unhide HC] at h3
    have H3 := hide (Or.inr h3 : Lib.IsBuilder 31 5 w.heap.size w1.heap.size (Lib.byteCells ((s.data.toList.take i).map Lib.lowerB)) w3)
    have Hb3 := hide ((unhide Hb2).trans hb3)
    clear h3 hb3 H2 Hb2 HX HC hz2
    go_wp2
    go_loopw [5] (fun v wr => ∃ k : Nat, i ≤ k ∧ k ≤ s.size ∧ v = .int .i64 k ∧ Hid (Lib.IsBuilder 31 5 w.heap.size w1.heap.size (Lib.byteCells ((s.data.toList.take k).map Lib.lowerB)) wr) ∧ Hid (Below w.heap.size w wr)) (fun v _ => s.size - (intOf v).toNat)
    case atStart => exact ⟨i, Nat.le_refl _, by omega, rfl, H3, Hb3⟩
    case round =>
      obtain ⟨k, hik, hk, rfl, HB, HW⟩ := hrel
      by_cases hlt : k < s.size
      · have hc256 : (s[k]'hlt).toNat < 256 := UInt8.toNat_lt _
        have Hcat := hide (take_succ_map s k hlt)
        have hlen := len_take s k hk
        have hBw : w.heap.size ≤ wr.heap.size := (unhide HW).size
        have Hl := hide hlen
        clear hlen
        by_cases h1 : 65 ≤ (s[k]'hlt).toNat ∧ (s[k]'hlt).toNat ≤ 90
        · obtain ⟨h1, h2⟩ := h1
          have hv : ((Lib.lowerB (s[k]'hlt)).toNat : Int) = ((s[k]'hlt).toNat : Int) + 32 := by
            rw [Plain.lowerB_nat, Plain.lowN, if_pos ⟨h1, h2⟩]
            omega
          rw [hv] at Hcat
          clear hv
          go_wp2_with fail
          refine (Try.Builder_WriteByte w.heap.size w1.heap.size _ (((s[k]'hlt).toNat : Int) + 32) wr (unhide HB) (by rw [unhide Hl]; omega) hBw).mono ?_
          rintro e w4 ⟨rfl, h4, hb4⟩
          rw [unhide Hcat] at h4
          have H4 := hide (Or.inr h4 : Lib.IsBuilder 31 5 w.heap.size w1.heap.size _ w4)
          have Hb4 := hide ((unhide HW).trans hb4)
          clear h4 hb4
          go_wp2
          go_roundw
          case rel => exact ⟨k + 1, by omega, by omega, by go_num, H4, Hb4⟩
          case measure => simp [intOf]; omega
        · have hv : ((Lib.lowerB (s[k]'hlt)).toNat : Int) = ((s[k]'hlt).toNat : Int) := by
            rw [Plain.lowerB_nat, Plain.lowN, if_neg h1]
          rw [hv] at Hcat
          clear hv
          go_wp2_with fail
          all_goals
            refine (Try.Builder_WriteByte w.heap.size w1.heap.size _ (((s[k]'hlt).toNat : Int)) wr (unhide HB) (by rw [unhide Hl]; omega) hBw).mono ?_
            rintro e w4 ⟨rfl, h4, hb4⟩
            rw [unhide Hcat] at h4
            have H4 := hide (Or.inr h4 : Lib.IsBuilder 31 5 w.heap.size w1.heap.size _ w4)
            have Hb4 := hide ((unhide HW).trans hb4)
            clear h4 hb4
            go_wp2
            go_roundw
            case rel => exact ⟨k + 1, by omega, by omega, by go_num, H4, Hb4⟩
            case measure => simp [intOf]; omega
      · have hke : k = s.size := by omega
        have hall : (s.data.toList.take k).map Lib.lowerB = s.data.toList.map Lib.lowerB := by
          rw [List.take_of_length_le (by rw [← Lib.size_eq]; omega)]
        rw [hall] at HB
        have hBw : w.heap.size ≤ wr.heap.size := (unhide HW).size
        clear hke hall
        go_wp2_with fail
        refine (Try.Builder_String_any w.heap.size w1.heap.size _ wr (unhide HB) hBw).mono ?_
        rintro e w5 ⟨rfl, hb5⟩
        have Hb5 := hide ((unhide HW).trans hb5)
        clear hb5
        go_wp2
        go_ret
        exact ⟨rfl, unhide Hb5⟩

theorem ZZasciiLower (s : ByteArray) (w : World) (hs : s.size ≤ 1048576) :
    Calls Try.prog 7 #[.string s] w fun e w' => e = .returned (.string (Plain.low s)) ∧ Below w.heap.size w w' := by
  go_enter Try.func7, Try.ntmps7
  go_wp2_with (go_at_call 13; refine (asciiLower s w hs).mono ?_; rintro e w1 ⟨rfl, hb1⟩)
  go_ret
  exact ⟨rfl, hb1⟩

end Go.Proofs.Qxb6602060a
