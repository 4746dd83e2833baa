/-
  WALKS of the seat b6602109a: zzb1FormatUUID (12).
-/
import Derived.Test.Qxb6602109aWalks
namespace Go.Proofs.Qxb6602109a
open Go.RowKit

theorem Try.info5 : (Try.prog.info? 5).map (fun i => (i.zero, i.size, i.bytes)) = some (some (.int .u8 0), 1, 1) := by kernel_rfl

/-- The sixteen bytes, as cells. -/
structure Six (cs : Array Value) (x : Nat → Nat) : Prop where
  size : cs.size = 16
  at' : ∀ j, j < 16 → cs[j]? = some (.int .u8 (x j : Int)) ∧ x j < 256

/-- An alphabet of hex digits. -/
structure Alpha (A : ByteArray) : Prop where
  size : A.size = 16
  mem : ∀ c ∈ A.data.toList, hexN c.toNat

theorem Alpha.hex {A : ByteArray} (h : Alpha A) (j : Nat) (hj : j < A.size) : hexN (A[j]'hj).toNat := h.mem _ (Array.getElem_mem_toList hj)

theorem cell_row {w : World} {g k : Nat} {cur : Array Value} {e : TypeId} (h : w.heap[g]? = some (.cells cur e (0, 0))) : w.cell? ⟨g, k, none⟩ = cur[k]? := by simp [World.cell?, h]

theorem new_one (W : World) (v : Value) (t : TypeId) : ∀ j u, [v][j]? = some u → (W.alloc (.cells #[v] t)).cell? ((⟨W.heap.size, 0, none⟩ : Addr).add j) = some u := by
  intro j u hj
  rw [Addr.add_lit, Nat.zero_add]
  rw [cell_row (heap_alloc_new W _)]
  match j, hj with
  | 0, hj => simpa using hj
  | j + 1, hj => simp at hj

theorem u8_one (n : Int) : ∀ u ∈ [Value.int .u8 n], u.oneCell' = true := by
  intro u hu
  simp only [List.mem_cons, List.not_mem_nil, or_false] at hu
  rw [hu]
  rfl

theorem cells_snoc (l : List UInt8) (c : UInt8) : Lib.byteCells l ++ [.int .u8 (c.toNat : Int)] = Lib.byteCells (l ++ [c]) := by rw [Lib.byteCells_append]; rfl

theorem cells_snoc45 (l : List UInt8) : Lib.byteCells l ++ [.int .u8 45] = Lib.byteCells (l ++ [45]) := cells_snoc l 45

/-- A row of bytes of the call's own, not empty: its cells. -/
theorem own_bytes {w : World} {B : Nat} {v : Value} {l : List UInt8} (h : w.ownsRow B 5 1 v l.length (Lib.byteCells l)) (h0 : 0 < l.length) : ∃ g cap, v = .slice (some ⟨g, 0, none⟩) l.length cap ∧ ∀ j (hj : j < l.length), w.cell? ((⟨g, 0, none⟩ : Addr).add j) = some (.int .u8 (l[j].toNat : Int)) := by
  rcases h.2 with ⟨rfl, hn⟩ | ⟨g, cap, cur, rfl, hb, hg, hnc, hm, hs, ht⟩
  · omega
  · refine ⟨g, cap, rfl, fun j hj => ?_⟩
    rw [Addr.add_lit, Nat.zero_add, h.cellAt j (by omega)]
    simp [Lib.byteCells, hj]

theorem below_of {w W : World} {o : Obj} (h : Below (w.heap.size + 1) (w.alloc o) W) : Below w.heap.size w W :=
  ((Below.refl w.heap.size w).alloc (Nat.le_refl _) o).trans (h.mono (by omega))

theorem lower_alpha : Alpha ⟨#[48, 49, 50, 51, 52, 53, 54, 55, 56, 57, 97, 98, 99, 100, 101, 102]⟩ := by
  refine ⟨rfl, ?_⟩
  unfold hexN
  decide
theorem upper_alpha : Alpha ⟨#[48, 49, 50, 51, 52, 53, 54, 55, 56, 57, 65, 66, 67, 68, 69, 70]⟩ := by
  refine ⟨rfl, ?_⟩
  unfold hexN
  decide

set_option maxHeartbeats 8000000 in
theorem format_no_false (cs : Array Value) (x : Nat → Nat) (w : World) (h6 : Six cs x) :
    Calls Try.prog 12 #[.agg cs, .bool false, .bool false] w fun e w' => ∃ l : List UInt8, e = .returned (.string ⟨l.toArray⟩) ∧ l.length = 32 ∧ Below w.heap.size w w' := by
  obtain ⟨i0, hi, hz0, hz1, hz2⟩ := info_parts Try.info5
  have HI := hide (And.intro hi (And.intro hz0 (And.intro hz1 hz2)))
  have H6 := hide h6
  clear hi hz0 hz1 hz2 h6
  go_enter Try.func12, Try.ntmps12
  go_wp2_with (at_make; refine wpList_make_own _ rfl _ _ 25 rfl (w.heap.size + 1) 5 i0 _ 1 Try.underlying25 (unhide HI).1 (unhide HI).2.1 (unhide HI).2.2.1 _ _ _ 36 rfl rfl rfl (by rw [(unhide HI).2.2.2]; decide) (by decide) (by simp) ?_; intro w1 hown hgrow)
  have hB1 := Below.grown (Below.refl (w.heap.size + 1) (w.alloc (.cells cs 23))) hgrow (by simp) (fun j hj => by cases hj)
  simp only [World.size_alloc] at hown
  have H1 := hide (And.intro hown hB1)
  clear hown hgrow hB1
  have HA : Hid (Alpha ⟨#[48, 49, 50, 51, 52, 53, 54, 55, 56, 57, 97, 98, 99, 100, 101, 102]⟩) := lower_alpha
  generalize (⟨#[48, 49, 50, 51, 52, 53, 54, 55, 56, 57, 97, 98, 99, 100, 101, 102]⟩ : ByteArray) = A at *
  go_loopw [8, 9] (fun v i wr => ∃ (k : Nat) (acc : List UInt8), k ≤ 16 ∧ i = .int .i64 k ∧ acc.length ≤ 2 * k ∧ 2 * k ≤ acc.length ∧ Hid (wr.ownsRow (w.heap.size + 1) 5 1 v acc.length (Lib.byteCells acc)) ∧ Hid (Below (w.heap.size + 1) (w.alloc (.cells cs 23)) wr)) (fun _ i _ => 16 - (intOf i).toNat)
  case atStart => exact ⟨0, [], by omega, rfl, Nat.le_refl _, Nat.le_refl _, (unhide H1).1, (unhide H1).2⟩
  case round =>
    clear H1
    obtain ⟨k, acc, hk, rfl, ha1, ha2, HO, HW⟩ := hrel
    have hwz : w.heap.size + 1 ≤ wr.heap.size := by have := (unhide HW).size; simpa using this
    by_cases hlt : k < 16
    · have HQ : Hid (∀ W, Below (w.heap.size + 1) (w.alloc (.cells cs 23)) W → W.cell? ⟨w.heap.size, k, none⟩ = some (.int .u8 (x k : Int))) := fun W hW => by
        rw [hW.cell (p := ⟨w.heap.size, k, none⟩) (by simp), cell_row (heap_alloc_new w _)]
        exact ((unhide H6).at' k hlt).1
      have q1 := unhide HQ _ (unhide HW)
      have hx256 := ((unhide H6).at' k hlt).2
      have hA16 := (unhide HA).size
      have hand : bits .and .u8 (x k : Int) 15 = ((x k % 16 : Nat) : Int) := by
        have h1 : bits .and .u8 (x k : Int) 15 = ((x k &&& 15 : Nat) : Int) := u8_and_nat (x k) 15 hx256 (by omega)
        rw [h1, Nat.and_two_pow_sub_one_eq_mod (x k) 4]
      have hm16 : x k % 16 < 16 := Nat.mod_lt _ (by omega)
      have hd16 : x k / 16 < 16 := by omega
      generalize x k = X at *
      have hA1 : 16 ≤ A.size := by omega
      clear hA16
      have hi1 : X / 16 < A.size := by omega
      have hi2 : X % 16 < A.size := by omega
      have HL : Hid ((acc ++ [A[X / 16]'hi1]).length = acc.length + 1 ∧ (acc ++ [A[X / 16]'hi1] ++ [A[X % 16]'hi2]).length = acc.length + 2) := by simp [Hid]
      have hac : acc.length ≤ 32 := by omega
      go_wp2_with (first | (at_builtin; refine wpList_append_own _ rfl (.tmp 36) (.tmp 43) 25 rfl (w.heap.size + 1) 5 i0 _ 1 1 Try.underlying25 (unhide HI).1 (unhide HI).2.1 (unhide HI).2.2.1 (unhide HI).2.2.2 rfl (by decide) _ acc.length (Lib.byteCells acc) rfl ((unhide HO).alloc _) ⟨wr.heap.size, 0, none⟩ 1 1 [.int .u8 ((A[X / 16]'hi1).toNat : Int)] rfl rfl (new_one wr _ 5) (u8_one _) (by unfold maxLen; omega) (by omega) (by simp; omega) ?_; intro v2 w2 h2 g2 _; rw [cells_snoc, ← (unhide HL).1] at h2; have b2 := Below.grown ((unhide HW).alloc (o := .cells #[.int .u8 ((A[X / 16]'hi1).toNat : Int)] 5) hwz) g2 (by simp; omega) (fun j hj => ((unhide HO).lt j hj).1); have q2 := unhide HQ _ b2; have hwz2 : w.heap.size + 1 ≤ w2.heap.size := (by have := b2.size; simpa using this); have H2 := hide (And.intro h2 b2); clear h2 g2 b2) | (at_builtin; refine wpList_append_own _ rfl (.tmp 45) (.tmp 52) 25 rfl (w.heap.size + 1) 5 i0 _ 1 1 Try.underlying25 (unhide HI).1 (unhide HI).2.1 (unhide HI).2.2.1 (unhide HI).2.2.2 rfl (by decide) _ (acc ++ [A[X / 16]'hi1]).length (Lib.byteCells (acc ++ [A[X / 16]'hi1])) rfl ((unhide H2).1.alloc _) ⟨w2.heap.size, 0, none⟩ 1 1 [.int .u8 ((A[X % 16]'hi2).toNat : Int)] rfl rfl (new_one w2 _ 5) (u8_one _) (by rw [(unhide HL).1]; unfold maxLen; omega) (by rw [(unhide HL).1]; omega) (by simp; omega) ?_; intro v3 w3 h3 g3 _; rw [cells_snoc, (unhide HL).1] at h3; have H3 := hide (And.intro h3 (Below.grown ((unhide H2).2.alloc (o := .cells #[.int .u8 ((A[X % 16]'hi2).toNat : Int)] 5) hwz2) g3 (by simp; omega) (fun j hj => ((unhide H2).1.lt j hj).1))); clear h3 g3))
      go_roundw
      case rel => exact ⟨k + 1, acc ++ [A[X / 16]'hi1] ++ [A[X % 16]'hi2], by omega, by go_num, by rw [(unhide HL).2]; omega, by rw [(unhide HL).2]; omega, by rw [(unhide HL).2]; exact (unhide H3).1, (unhide H3).2⟩
      case measure => simp [intOf]; omega
    · have hl32 : acc.length = 32 := by omega
      have HL := hide hl32
      clear hl32
      obtain ⟨g, cap, hv, hcl⟩ := own_bytes (unhide HO) (by omega)
      subst hv
      have hcv := fun ty => run_convert_bytes_back (P := Try.prog) wr 25 ty 5 ⟨g, 0, none⟩ cap acc Try.underlying25 Try.underlying5
      have hcv2 := hcv 9 Try.underlying9 hcl
      have HB := hide (below_of (unhide HW))
      clear hcv hcl HO HW
      go_wp2
      go_ret
      exact ⟨acc, rfl, unhide HL, unhide HB⟩


set_option maxHeartbeats 8000000 in
theorem format_no_true (cs : Array Value) (x : Nat → Nat) (w : World) (h6 : Six cs x) :
    Calls Try.prog 12 #[.agg cs, .bool true, .bool false] w fun e w' => ∃ l : List UInt8, e = .returned (.string ⟨l.toArray⟩) ∧ l.length = 32 ∧ Below w.heap.size w w' := by
  obtain ⟨i0, hi, hz0, hz1, hz2⟩ := info_parts Try.info5
  have HI := hide (And.intro hi (And.intro hz0 (And.intro hz1 hz2)))
  have H6 := hide h6
  clear hi hz0 hz1 hz2 h6
  go_enter Try.func12, Try.ntmps12
  go_wp2_with (at_make; refine wpList_make_own _ rfl _ _ 25 rfl (w.heap.size + 1) 5 i0 _ 1 Try.underlying25 (unhide HI).1 (unhide HI).2.1 (unhide HI).2.2.1 _ _ _ 36 rfl rfl rfl (by rw [(unhide HI).2.2.2]; decide) (by decide) (by simp) ?_; intro w1 hown hgrow)
  have hB1 := Below.grown (Below.refl (w.heap.size + 1) (w.alloc (.cells cs 23))) hgrow (by simp) (fun j hj => by cases hj)
  simp only [World.size_alloc] at hown
  have H1 := hide (And.intro hown hB1)
  clear hown hgrow hB1
  have HA : Hid (Alpha ⟨#[48, 49, 50, 51, 52, 53, 54, 55, 56, 57, 65, 66, 67, 68, 69, 70]⟩) := upper_alpha
  generalize (⟨#[48, 49, 50, 51, 52, 53, 54, 55, 56, 57, 65, 66, 67, 68, 69, 70]⟩ : ByteArray) = A at *
  go_loopw [8, 9] (fun v i wr => ∃ (k : Nat) (acc : List UInt8), k ≤ 16 ∧ i = .int .i64 k ∧ acc.length ≤ 2 * k ∧ 2 * k ≤ acc.length ∧ Hid (wr.ownsRow (w.heap.size + 1) 5 1 v acc.length (Lib.byteCells acc)) ∧ Hid (Below (w.heap.size + 1) (w.alloc (.cells cs 23)) wr)) (fun _ i _ => 16 - (intOf i).toNat)
  case atStart => exact ⟨0, [], by omega, rfl, Nat.le_refl _, Nat.le_refl _, (unhide H1).1, (unhide H1).2⟩
  case round =>
    clear H1
    obtain ⟨k, acc, hk, rfl, ha1, ha2, HO, HW⟩ := hrel
    have hwz : w.heap.size + 1 ≤ wr.heap.size := by have := (unhide HW).size; simpa using this
    by_cases hlt : k < 16
    · have HQ : Hid (∀ W, Below (w.heap.size + 1) (w.alloc (.cells cs 23)) W → W.cell? ⟨w.heap.size, k, none⟩ = some (.int .u8 (x k : Int))) := fun W hW => by
        rw [hW.cell (p := ⟨w.heap.size, k, none⟩) (by simp), cell_row (heap_alloc_new w _)]
        exact ((unhide H6).at' k hlt).1
      have q1 := unhide HQ _ (unhide HW)
      have hx256 := ((unhide H6).at' k hlt).2
      have hA16 := (unhide HA).size
      have hand : bits .and .u8 (x k : Int) 15 = ((x k % 16 : Nat) : Int) := by
        have h1 : bits .and .u8 (x k : Int) 15 = ((x k &&& 15 : Nat) : Int) := u8_and_nat (x k) 15 hx256 (by omega)
        rw [h1, Nat.and_two_pow_sub_one_eq_mod (x k) 4]
      have hm16 : x k % 16 < 16 := Nat.mod_lt _ (by omega)
      have hd16 : x k / 16 < 16 := by omega
      generalize x k = X at *
      have hA1 : 16 ≤ A.size := by omega
      clear hA16
      have hi1 : X / 16 < A.size := by omega
      have hi2 : X % 16 < A.size := by omega
      have HL : Hid ((acc ++ [A[X / 16]'hi1]).length = acc.length + 1 ∧ (acc ++ [A[X / 16]'hi1] ++ [A[X % 16]'hi2]).length = acc.length + 2) := by simp [Hid]
      have hac : acc.length ≤ 32 := by omega
      go_wp2_with (first | (at_builtin; refine wpList_append_own _ rfl (.tmp 36) (.tmp 43) 25 rfl (w.heap.size + 1) 5 i0 _ 1 1 Try.underlying25 (unhide HI).1 (unhide HI).2.1 (unhide HI).2.2.1 (unhide HI).2.2.2 rfl (by decide) _ acc.length (Lib.byteCells acc) rfl ((unhide HO).alloc _) ⟨wr.heap.size, 0, none⟩ 1 1 [.int .u8 ((A[X / 16]'hi1).toNat : Int)] rfl rfl (new_one wr _ 5) (u8_one _) (by unfold maxLen; omega) (by omega) (by simp; omega) ?_; intro v2 w2 h2 g2 _; rw [cells_snoc, ← (unhide HL).1] at h2; have b2 := Below.grown ((unhide HW).alloc (o := .cells #[.int .u8 ((A[X / 16]'hi1).toNat : Int)] 5) hwz) g2 (by simp; omega) (fun j hj => ((unhide HO).lt j hj).1); have q2 := unhide HQ _ b2; have hwz2 : w.heap.size + 1 ≤ w2.heap.size := (by have := b2.size; simpa using this); have H2 := hide (And.intro h2 b2); clear h2 g2 b2) | (at_builtin; refine wpList_append_own _ rfl (.tmp 45) (.tmp 52) 25 rfl (w.heap.size + 1) 5 i0 _ 1 1 Try.underlying25 (unhide HI).1 (unhide HI).2.1 (unhide HI).2.2.1 (unhide HI).2.2.2 rfl (by decide) _ (acc ++ [A[X / 16]'hi1]).length (Lib.byteCells (acc ++ [A[X / 16]'hi1])) rfl ((unhide H2).1.alloc _) ⟨w2.heap.size, 0, none⟩ 1 1 [.int .u8 ((A[X % 16]'hi2).toNat : Int)] rfl rfl (new_one w2 _ 5) (u8_one _) (by rw [(unhide HL).1]; unfold maxLen; omega) (by rw [(unhide HL).1]; omega) (by simp; omega) ?_; intro v3 w3 h3 g3 _; rw [cells_snoc, (unhide HL).1] at h3; have H3 := hide (And.intro h3 (Below.grown ((unhide H2).2.alloc (o := .cells #[.int .u8 ((A[X % 16]'hi2).toNat : Int)] 5) hwz2) g3 (by simp; omega) (fun j hj => ((unhide H2).1.lt j hj).1))); clear h3 g3))
      go_roundw
      case rel => exact ⟨k + 1, acc ++ [A[X / 16]'hi1] ++ [A[X % 16]'hi2], by omega, by go_num, by rw [(unhide HL).2]; omega, by rw [(unhide HL).2]; omega, by rw [(unhide HL).2]; exact (unhide H3).1, (unhide H3).2⟩
      case measure => simp [intOf]; omega
    · have hl32 : acc.length = 32 := by omega
      have HL := hide hl32
      clear hl32
      obtain ⟨g, cap, hv, hcl⟩ := own_bytes (unhide HO) (by omega)
      subst hv
      have hcv := fun ty => run_convert_bytes_back (P := Try.prog) wr 25 ty 5 ⟨g, 0, none⟩ cap acc Try.underlying25 Try.underlying5
      have hcv2 := hcv 9 Try.underlying9 hcl
      have HB := hide (below_of (unhide HW))
      clear hcv hcl HO HW
      go_wp2
      go_ret
      exact ⟨acc, rfl, unhide HL, unhide HB⟩


set_option maxHeartbeats 8000000 in
theorem format_yes_false (cs : Array Value) (x : Nat → Nat) (w : World) (h6 : Six cs x) :
    Calls Try.prog 12 #[.agg cs, .bool false, .bool true] w fun e w' => ∃ l : List UInt8, e = .returned (.string ⟨l.toArray⟩) ∧ (l.length = 36 ∧ Good l) ∧ Below w.heap.size w w' := by
  obtain ⟨i0, hi, hz0, hz1, hz2⟩ := info_parts Try.info5
  have HI := hide (And.intro hi (And.intro hz0 (And.intro hz1 hz2)))
  have H6 := hide h6
  clear hi hz0 hz1 hz2 h6
  go_enter Try.func12, Try.ntmps12
  go_wp2_with (at_make; refine wpList_make_own _ rfl _ _ 25 rfl (w.heap.size + 1) 5 i0 _ 1 Try.underlying25 (unhide HI).1 (unhide HI).2.1 (unhide HI).2.2.1 _ _ _ 36 rfl rfl rfl (by rw [(unhide HI).2.2.2]; decide) (by decide) (by simp) ?_; intro w1 hown hgrow)
  have hB1 := Below.grown (Below.refl (w.heap.size + 1) (w.alloc (.cells cs 23))) hgrow (by simp) (fun j hj => by cases hj)
  simp only [World.size_alloc] at hown
  have H1 := hide (And.intro hown hB1)
  clear hown hgrow hB1
  have HA : Hid (Alpha ⟨#[48, 49, 50, 51, 52, 53, 54, 55, 56, 57, 97, 98, 99, 100, 101, 102]⟩) := lower_alpha
  generalize (⟨#[48, 49, 50, 51, 52, 53, 54, 55, 56, 57, 97, 98, 99, 100, 101, 102]⟩ : ByteArray) = A at *
  go_loopw [8, 9] (fun v i wr => ∃ (k : Nat) (acc : List UInt8), k ≤ 16 ∧ i = .int .i64 k ∧ acc.length ≤ 36 ∧ Hid (acc.length = lenD k ∧ Good acc) ∧ Hid (wr.ownsRow (w.heap.size + 1) 5 1 v acc.length (Lib.byteCells acc)) ∧ Hid (Below (w.heap.size + 1) (w.alloc (.cells cs 23)) wr)) (fun _ i _ => 16 - (intOf i).toNat)
  case atStart => exact ⟨0, [], by omega, rfl, by decide, ⟨rfl, fun j h => absurd h (by simp)⟩, (unhide H1).1, (unhide H1).2⟩
  case round =>
    clear H1
    obtain ⟨k, acc, hk, rfl, ha1, HG, HO, HW⟩ := hrel
    have hwz : w.heap.size + 1 ≤ wr.heap.size := by have := (unhide HW).size; simpa using this
    by_cases hlt : k < 16
    · have HQ : Hid (∀ W, Below (w.heap.size + 1) (w.alloc (.cells cs 23)) W → W.cell? ⟨w.heap.size, k, none⟩ = some (.int .u8 (x k : Int))) := fun W hW => by
        rw [hW.cell (p := ⟨w.heap.size, k, none⟩) (by simp), cell_row (heap_alloc_new w _)]
        exact ((unhide H6).at' k hlt).1
      have q1 := unhide HQ _ (unhide HW)
      have hx256 := ((unhide H6).at' k hlt).2
      have hA16 := (unhide HA).size
      have hand : bits .and .u8 (x k : Int) 15 = ((x k % 16 : Nat) : Int) := by
        have h1 : bits .and .u8 (x k : Int) 15 = ((x k &&& 15 : Nat) : Int) := u8_and_nat (x k) 15 hx256 (by omega)
        rw [h1, Nat.and_two_pow_sub_one_eq_mod (x k) 4]
      have hm16 : x k % 16 < 16 := Nat.mod_lt _ (by omega)
      have hd16 : x k / 16 < 16 := by omega
      generalize x k = X at *
      have hA1 : 16 ≤ A.size := by omega
      clear hA16
      have hi1 : X / 16 < A.size := by omega
      have hi2 : X % 16 < A.size := by omega
      have hx1 := (unhide HA).hex _ hi1
      have hx2 := (unhide HA).hex _ hi2
      by_cases hd : k = 4 ∨ k = 6 ∨ k = 8 ∨ k = 10
      · obtain ⟨d1, d2, d3, d4⟩ := len_dash k hd
        have HL : Hid ((acc ++ [45]).length = acc.length + 1 ∧ (acc ++ [45] ++ [A[X / 16]'hi1]).length = acc.length + 1 + 1 ∧ (acc ++ [45] ++ [A[X / 16]'hi1] ++ [A[X % 16]'hi2]).length = acc.length + 1 + 1 + 1) := by simp [Hid]
        have HGN : Hid ((acc ++ [45] ++ [A[X / 16]'hi1] ++ [A[X % 16]'hi2]).length = lenD (k + 1) ∧ Good (acc ++ [45] ++ [A[X / 16]'hi1] ++ [A[X % 16]'hi2])) := by
          obtain ⟨e1, e2⟩ := unhide HG
          have g1 := Good.dash e2 (by rw [e1]; exact d1)
          have g2 := Good.hex g1 (by rw [(unhide HL).1, e1]; exact d2) _ hx1
          have g3 := Good.hex g2 (by rw [(unhide HL).2.1, e1]; exact d3) _ hx2
          exact ⟨by rw [(unhide HL).2.2, e1, d4], g3⟩
        have hac : acc.length ≤ 33 := by
          obtain ⟨e1, e2⟩ := unhide HG
          rw [e1]
          rcases hd with rfl | rfl | rfl | rfl <;> decide
        have hcase : (((k : Int) == 4) = true) ∨ (((k : Int) == 4) = false ∧ ((k : Int) == 6) = true) ∨ (((k : Int) == 4) = false ∧ ((k : Int) == 6) = false ∧ ((k : Int) == 8) = true) ∨ (((k : Int) == 4) = false ∧ ((k : Int) == 6) = false ∧ ((k : Int) == 8) = false ∧ ((k : Int) == 10) = true) := by
          rcases hd with rfl | rfl | rfl | rfl <;> decide
        clear d1 d2 d3 d4 hd hx1 hx2
        rcases hcase with e1 | ⟨e1, e2⟩ | ⟨e1, e2, e3⟩ | ⟨e1, e2, e3, e4⟩
        all_goals
          go_wp2_with (first | (at_builtin; refine wpList_append_own _ rfl (.tmp 33) (.tmp 34) 25 rfl (w.heap.size + 1) 5 i0 _ 1 1 Try.underlying25 (unhide HI).1 (unhide HI).2.1 (unhide HI).2.2.1 (unhide HI).2.2.2 rfl (by decide) _ (acc).length (Lib.byteCells (acc)) rfl ((unhide HO).alloc _) ⟨wr.heap.size, 0, none⟩ 1 1 [.int .u8 45] rfl rfl (new_one wr _ 5) (u8_one _) (by unfold maxLen; omega) (by omega) (by simp; omega) ?_; intro v1 w1' h1 gg _; rw [cells_snoc45, ← (unhide HL).1] at h1; have bb := Below.grown ((unhide HW).alloc (o := .cells #[.int .u8 45] 5) hwz) gg (by simp; omega) (fun j hj => ((unhide HO).lt j hj).1); have q2 := unhide HQ _ bb; have hz1 : w.heap.size + 1 ≤ w1'.heap.size := (by have := bb.size; simpa using this); have HH1 := hide (And.intro h1 bb); clear h1 gg bb) | (at_builtin; refine wpList_append_own _ rfl (.tmp 36) (.tmp 43) 25 rfl (w.heap.size + 1) 5 i0 _ 1 1 Try.underlying25 (unhide HI).1 (unhide HI).2.1 (unhide HI).2.2.1 (unhide HI).2.2.2 rfl (by decide) _ (acc ++ [45]).length (Lib.byteCells (acc ++ [45])) rfl ((unhide HH1).1.alloc _) ⟨w1'.heap.size, 0, none⟩ 1 1 [.int .u8 ((A[X / 16]'hi1).toNat : Int)] rfl rfl (new_one w1' _ 5) (u8_one _) (by rw [(unhide HL).1]; unfold maxLen; omega) (by rw [(unhide HL).1]; omega) (by simp; omega) ?_; intro v2 w2 h2 gg _; rw [cells_snoc, (unhide HL).1, ← (unhide HL).2.1] at h2; have bb := Below.grown ((unhide HH1).2.alloc (o := .cells #[.int .u8 ((A[X / 16]'hi1).toNat : Int)] 5) hz1) gg (by simp; omega) (fun j hj => ((unhide HH1).1.lt j hj).1); have q3 := unhide HQ _ bb; have hz2 : w.heap.size + 1 ≤ w2.heap.size := (by have := bb.size; simpa using this); have HH2 := hide (And.intro h2 bb); clear h2 gg bb) | (at_builtin; refine wpList_append_own _ rfl (.tmp 45) (.tmp 52) 25 rfl (w.heap.size + 1) 5 i0 _ 1 1 Try.underlying25 (unhide HI).1 (unhide HI).2.1 (unhide HI).2.2.1 (unhide HI).2.2.2 rfl (by decide) _ (acc ++ [45] ++ [A[X / 16]'hi1]).length (Lib.byteCells (acc ++ [45] ++ [A[X / 16]'hi1])) rfl ((unhide HH2).1.alloc _) ⟨w2.heap.size, 0, none⟩ 1 1 [.int .u8 ((A[X % 16]'hi2).toNat : Int)] rfl rfl (new_one w2 _ 5) (u8_one _) (by rw [(unhide HL).2.1]; unfold maxLen; omega) (by rw [(unhide HL).2.1]; omega) (by simp; omega) ?_; intro v3 w3 h3 gg _; rw [cells_snoc, (unhide HL).2.1, ← (unhide HL).2.2] at h3; have bb := Below.grown ((unhide HH2).2.alloc (o := .cells #[.int .u8 ((A[X % 16]'hi2).toNat : Int)] 5) hz2) gg (by simp; omega) (fun j hj => ((unhide HH2).1.lt j hj).1); have HH3 := hide (And.intro h3 bb); clear h3 gg bb))
          go_roundw
          case rel => exact ⟨k + 1, acc ++ [45] ++ [A[X / 16]'hi1] ++ [A[X % 16]'hi2], by omega, by go_num, by rw [(unhide HL).2.2]; omega, HGN, (unhide HH3).1, (unhide HH3).2⟩
          case measure => simp [intOf]; omega
      · obtain ⟨d1, d2, d3⟩ := len_plain k hlt hd
        have HL : Hid ((acc ++ [A[X / 16]'hi1]).length = acc.length + 1 ∧ (acc ++ [A[X / 16]'hi1] ++ [A[X % 16]'hi2]).length = acc.length + 1 + 1) := by simp [Hid]
        have HGN : Hid ((acc ++ [A[X / 16]'hi1] ++ [A[X % 16]'hi2]).length = lenD (k + 1) ∧ Good (acc ++ [A[X / 16]'hi1] ++ [A[X % 16]'hi2])) := by
          obtain ⟨e1, e2⟩ := unhide HG
          have g2 := Good.hex e2 (by rw [e1]; exact d1) _ hx1
          have g3 := Good.hex g2 (by rw [(unhide HL).1, e1]; exact d2) _ hx2
          exact ⟨by rw [(unhide HL).2, e1, d3], g3⟩
        have hac : acc.length ≤ 34 := by
          obtain ⟨e1, e2⟩ := unhide HG
          rw [e1]
          unfold lenD
          repeat' split
          all_goals omega
        have e1 : ((k : Int) == 4) = false := beq_eq_false_iff_ne.2 (by omega)
        have e2 : ((k : Int) == 6) = false := beq_eq_false_iff_ne.2 (by omega)
        have e3 : ((k : Int) == 8) = false := beq_eq_false_iff_ne.2 (by omega)
        have e4 : ((k : Int) == 10) = false := beq_eq_false_iff_ne.2 (by omega)
        clear d1 d2 d3 hd hx1 hx2
        go_wp2_with (first | (at_builtin; refine wpList_append_own _ rfl (.tmp 36) (.tmp 43) 25 rfl (w.heap.size + 1) 5 i0 _ 1 1 Try.underlying25 (unhide HI).1 (unhide HI).2.1 (unhide HI).2.2.1 (unhide HI).2.2.2 rfl (by decide) _ (acc).length (Lib.byteCells (acc)) rfl ((unhide HO).alloc _) ⟨wr.heap.size, 0, none⟩ 1 1 [.int .u8 ((A[X / 16]'hi1).toNat : Int)] rfl rfl (new_one wr _ 5) (u8_one _) (by unfold maxLen; omega) (by omega) (by simp; omega) ?_; intro v2 w2 h2 gg _; rw [cells_snoc, ← (unhide HL).1] at h2; have bb := Below.grown ((unhide HW).alloc (o := .cells #[.int .u8 ((A[X / 16]'hi1).toNat : Int)] 5) hwz) gg (by simp; omega) (fun j hj => ((unhide HO).lt j hj).1); have q3 := unhide HQ _ bb; have hz2 : w.heap.size + 1 ≤ w2.heap.size := (by have := bb.size; simpa using this); have HH2 := hide (And.intro h2 bb); clear h2 gg bb) | (at_builtin; refine wpList_append_own _ rfl (.tmp 45) (.tmp 52) 25 rfl (w.heap.size + 1) 5 i0 _ 1 1 Try.underlying25 (unhide HI).1 (unhide HI).2.1 (unhide HI).2.2.1 (unhide HI).2.2.2 rfl (by decide) _ (acc ++ [A[X / 16]'hi1]).length (Lib.byteCells (acc ++ [A[X / 16]'hi1])) rfl ((unhide HH2).1.alloc _) ⟨w2.heap.size, 0, none⟩ 1 1 [.int .u8 ((A[X % 16]'hi2).toNat : Int)] rfl rfl (new_one w2 _ 5) (u8_one _) (by rw [(unhide HL).1]; unfold maxLen; omega) (by rw [(unhide HL).1]; omega) (by simp; omega) ?_; intro v3 w3 h3 gg _; rw [cells_snoc, (unhide HL).1, ← (unhide HL).2] at h3; have bb := Below.grown ((unhide HH2).2.alloc (o := .cells #[.int .u8 ((A[X % 16]'hi2).toNat : Int)] 5) hz2) gg (by simp; omega) (fun j hj => ((unhide HH2).1.lt j hj).1); have HH3 := hide (And.intro h3 bb); clear h3 gg bb))
        go_roundw
        case rel => exact ⟨k + 1, acc ++ [A[X / 16]'hi1] ++ [A[X % 16]'hi2], by omega, by go_num, by rw [(unhide HL).2]; omega, HGN, (unhide HH3).1, (unhide HH3).2⟩
        case measure => simp [intOf]; omega
    · have hk16 : k = 16 := by omega
      have HL : Hid (acc.length = 36 ∧ Good acc) := by
        obtain ⟨e1, e2⟩ := unhide HG
        rw [hk16] at e1
        exact ⟨e1, e2⟩
      have h0 : 0 < acc.length := by rw [(unhide HL).1]; omega
      clear hk16
      obtain ⟨g, cap, hv, hcl⟩ := own_bytes (unhide HO) h0
      subst hv
      have hcv := fun ty => run_convert_bytes_back (P := Try.prog) wr 25 ty 5 ⟨g, 0, none⟩ cap acc Try.underlying25 Try.underlying5
      have hcv2 := hcv 9 Try.underlying9 hcl
      have HB := hide (below_of (unhide HW))
      clear hcv hcl HO HW
      go_wp2
      go_ret
      exact ⟨acc, rfl, unhide HL, unhide HB⟩


set_option maxHeartbeats 8000000 in
theorem format_yes_true (cs : Array Value) (x : Nat → Nat) (w : World) (h6 : Six cs x) :
    Calls Try.prog 12 #[.agg cs, .bool true, .bool true] w fun e w' => ∃ l : List UInt8, e = .returned (.string ⟨l.toArray⟩) ∧ (l.length = 36 ∧ Good l) ∧ Below w.heap.size w w' := by
  obtain ⟨i0, hi, hz0, hz1, hz2⟩ := info_parts Try.info5
  have HI := hide (And.intro hi (And.intro hz0 (And.intro hz1 hz2)))
  have H6 := hide h6
  clear hi hz0 hz1 hz2 h6
  go_enter Try.func12, Try.ntmps12
  go_wp2_with (at_make; refine wpList_make_own _ rfl _ _ 25 rfl (w.heap.size + 1) 5 i0 _ 1 Try.underlying25 (unhide HI).1 (unhide HI).2.1 (unhide HI).2.2.1 _ _ _ 36 rfl rfl rfl (by rw [(unhide HI).2.2.2]; decide) (by decide) (by simp) ?_; intro w1 hown hgrow)
  have hB1 := Below.grown (Below.refl (w.heap.size + 1) (w.alloc (.cells cs 23))) hgrow (by simp) (fun j hj => by cases hj)
  simp only [World.size_alloc] at hown
  have H1 := hide (And.intro hown hB1)
  clear hown hgrow hB1
  have HA : Hid (Alpha ⟨#[48, 49, 50, 51, 52, 53, 54, 55, 56, 57, 65, 66, 67, 68, 69, 70]⟩) := upper_alpha
  generalize (⟨#[48, 49, 50, 51, 52, 53, 54, 55, 56, 57, 65, 66, 67, 68, 69, 70]⟩ : ByteArray) = A at *
  go_loopw [8, 9] (fun v i wr => ∃ (k : Nat) (acc : List UInt8), k ≤ 16 ∧ i = .int .i64 k ∧ acc.length ≤ 36 ∧ Hid (acc.length = lenD k ∧ Good acc) ∧ Hid (wr.ownsRow (w.heap.size + 1) 5 1 v acc.length (Lib.byteCells acc)) ∧ Hid (Below (w.heap.size + 1) (w.alloc (.cells cs 23)) wr)) (fun _ i _ => 16 - (intOf i).toNat)
  case atStart => exact ⟨0, [], by omega, rfl, by decide, ⟨rfl, fun j h => absurd h (by simp)⟩, (unhide H1).1, (unhide H1).2⟩
  case round =>
    clear H1
    obtain ⟨k, acc, hk, rfl, ha1, HG, HO, HW⟩ := hrel
    have hwz : w.heap.size + 1 ≤ wr.heap.size := by have := (unhide HW).size; simpa using this
    by_cases hlt : k < 16
    · have HQ : Hid (∀ W, Below (w.heap.size + 1) (w.alloc (.cells cs 23)) W → W.cell? ⟨w.heap.size, k, none⟩ = some (.int .u8 (x k : Int))) := fun W hW => by
        rw [hW.cell (p := ⟨w.heap.size, k, none⟩) (by simp), cell_row (heap_alloc_new w _)]
        exact ((unhide H6).at' k hlt).1
      have q1 := unhide HQ _ (unhide HW)
      have hx256 := ((unhide H6).at' k hlt).2
      have hA16 := (unhide HA).size
      have hand : bits .and .u8 (x k : Int) 15 = ((x k % 16 : Nat) : Int) := by
        have h1 : bits .and .u8 (x k : Int) 15 = ((x k &&& 15 : Nat) : Int) := u8_and_nat (x k) 15 hx256 (by omega)
        rw [h1, Nat.and_two_pow_sub_one_eq_mod (x k) 4]
      have hm16 : x k % 16 < 16 := Nat.mod_lt _ (by omega)
      have hd16 : x k / 16 < 16 := by omega
      generalize x k = X at *
      have hA1 : 16 ≤ A.size := by omega
      clear hA16
      have hi1 : X / 16 < A.size := by omega
      have hi2 : X % 16 < A.size := by omega
      have hx1 := (unhide HA).hex _ hi1
      have hx2 := (unhide HA).hex _ hi2
      by_cases hd : k = 4 ∨ k = 6 ∨ k = 8 ∨ k = 10
      · obtain ⟨d1, d2, d3, d4⟩ := len_dash k hd
        have HL : Hid ((acc ++ [45]).length = acc.length + 1 ∧ (acc ++ [45] ++ [A[X / 16]'hi1]).length = acc.length + 1 + 1 ∧ (acc ++ [45] ++ [A[X / 16]'hi1] ++ [A[X % 16]'hi2]).length = acc.length + 1 + 1 + 1) := by simp [Hid]
        have HGN : Hid ((acc ++ [45] ++ [A[X / 16]'hi1] ++ [A[X % 16]'hi2]).length = lenD (k + 1) ∧ Good (acc ++ [45] ++ [A[X / 16]'hi1] ++ [A[X % 16]'hi2])) := by
          obtain ⟨e1, e2⟩ := unhide HG
          have g1 := Good.dash e2 (by rw [e1]; exact d1)
          have g2 := Good.hex g1 (by rw [(unhide HL).1, e1]; exact d2) _ hx1
          have g3 := Good.hex g2 (by rw [(unhide HL).2.1, e1]; exact d3) _ hx2
          exact ⟨by rw [(unhide HL).2.2, e1, d4], g3⟩
        have hac : acc.length ≤ 33 := by
          obtain ⟨e1, e2⟩ := unhide HG
          rw [e1]
          rcases hd with rfl | rfl | rfl | rfl <;> decide
        have hcase : (((k : Int) == 4) = true) ∨ (((k : Int) == 4) = false ∧ ((k : Int) == 6) = true) ∨ (((k : Int) == 4) = false ∧ ((k : Int) == 6) = false ∧ ((k : Int) == 8) = true) ∨ (((k : Int) == 4) = false ∧ ((k : Int) == 6) = false ∧ ((k : Int) == 8) = false ∧ ((k : Int) == 10) = true) := by
          rcases hd with rfl | rfl | rfl | rfl <;> decide
        clear d1 d2 d3 d4 hd hx1 hx2
        rcases hcase with e1 | ⟨e1, e2⟩ | ⟨e1, e2, e3⟩ | ⟨e1, e2, e3, e4⟩
        all_goals
          go_wp2_with (first | (at_builtin; refine wpList_append_own _ rfl (.tmp 33) (.tmp 34) 25 rfl (w.heap.size + 1) 5 i0 _ 1 1 Try.underlying25 (unhide HI).1 (unhide HI).2.1 (unhide HI).2.2.1 (unhide HI).2.2.2 rfl (by decide) _ (acc).length (Lib.byteCells (acc)) rfl ((unhide HO).alloc _) ⟨wr.heap.size, 0, none⟩ 1 1 [.int .u8 45] rfl rfl (new_one wr _ 5) (u8_one _) (by unfold maxLen; omega) (by omega) (by simp; omega) ?_; intro v1 w1' h1 gg _; rw [cells_snoc45, ← (unhide HL).1] at h1; have bb := Below.grown ((unhide HW).alloc (o := .cells #[.int .u8 45] 5) hwz) gg (by simp; omega) (fun j hj => ((unhide HO).lt j hj).1); have q2 := unhide HQ _ bb; have hz1 : w.heap.size + 1 ≤ w1'.heap.size := (by have := bb.size; simpa using this); have HH1 := hide (And.intro h1 bb); clear h1 gg bb) | (at_builtin; refine wpList_append_own _ rfl (.tmp 36) (.tmp 43) 25 rfl (w.heap.size + 1) 5 i0 _ 1 1 Try.underlying25 (unhide HI).1 (unhide HI).2.1 (unhide HI).2.2.1 (unhide HI).2.2.2 rfl (by decide) _ (acc ++ [45]).length (Lib.byteCells (acc ++ [45])) rfl ((unhide HH1).1.alloc _) ⟨w1'.heap.size, 0, none⟩ 1 1 [.int .u8 ((A[X / 16]'hi1).toNat : Int)] rfl rfl (new_one w1' _ 5) (u8_one _) (by rw [(unhide HL).1]; unfold maxLen; omega) (by rw [(unhide HL).1]; omega) (by simp; omega) ?_; intro v2 w2 h2 gg _; rw [cells_snoc, (unhide HL).1, ← (unhide HL).2.1] at h2; have bb := Below.grown ((unhide HH1).2.alloc (o := .cells #[.int .u8 ((A[X / 16]'hi1).toNat : Int)] 5) hz1) gg (by simp; omega) (fun j hj => ((unhide HH1).1.lt j hj).1); have q3 := unhide HQ _ bb; have hz2 : w.heap.size + 1 ≤ w2.heap.size := (by have := bb.size; simpa using this); have HH2 := hide (And.intro h2 bb); clear h2 gg bb) | (at_builtin; refine wpList_append_own _ rfl (.tmp 45) (.tmp 52) 25 rfl (w.heap.size + 1) 5 i0 _ 1 1 Try.underlying25 (unhide HI).1 (unhide HI).2.1 (unhide HI).2.2.1 (unhide HI).2.2.2 rfl (by decide) _ (acc ++ [45] ++ [A[X / 16]'hi1]).length (Lib.byteCells (acc ++ [45] ++ [A[X / 16]'hi1])) rfl ((unhide HH2).1.alloc _) ⟨w2.heap.size, 0, none⟩ 1 1 [.int .u8 ((A[X % 16]'hi2).toNat : Int)] rfl rfl (new_one w2 _ 5) (u8_one _) (by rw [(unhide HL).2.1]; unfold maxLen; omega) (by rw [(unhide HL).2.1]; omega) (by simp; omega) ?_; intro v3 w3 h3 gg _; rw [cells_snoc, (unhide HL).2.1, ← (unhide HL).2.2] at h3; have bb := Below.grown ((unhide HH2).2.alloc (o := .cells #[.int .u8 ((A[X % 16]'hi2).toNat : Int)] 5) hz2) gg (by simp; omega) (fun j hj => ((unhide HH2).1.lt j hj).1); have HH3 := hide (And.intro h3 bb); clear h3 gg bb))
          go_roundw
          case rel => exact ⟨k + 1, acc ++ [45] ++ [A[X / 16]'hi1] ++ [A[X % 16]'hi2], by omega, by go_num, by rw [(unhide HL).2.2]; omega, HGN, (unhide HH3).1, (unhide HH3).2⟩
          case measure => simp [intOf]; omega
      · obtain ⟨d1, d2, d3⟩ := len_plain k hlt hd
        have HL : Hid ((acc ++ [A[X / 16]'hi1]).length = acc.length + 1 ∧ (acc ++ [A[X / 16]'hi1] ++ [A[X % 16]'hi2]).length = acc.length + 1 + 1) := by simp [Hid]
        have HGN : Hid ((acc ++ [A[X / 16]'hi1] ++ [A[X % 16]'hi2]).length = lenD (k + 1) ∧ Good (acc ++ [A[X / 16]'hi1] ++ [A[X % 16]'hi2])) := by
          obtain ⟨e1, e2⟩ := unhide HG
          have g2 := Good.hex e2 (by rw [e1]; exact d1) _ hx1
          have g3 := Good.hex g2 (by rw [(unhide HL).1, e1]; exact d2) _ hx2
          exact ⟨by rw [(unhide HL).2, e1, d3], g3⟩
        have hac : acc.length ≤ 34 := by
          obtain ⟨e1, e2⟩ := unhide HG
          rw [e1]
          unfold lenD
          repeat' split
          all_goals omega
        have e1 : ((k : Int) == 4) = false := beq_eq_false_iff_ne.2 (by omega)
        have e2 : ((k : Int) == 6) = false := beq_eq_false_iff_ne.2 (by omega)
        have e3 : ((k : Int) == 8) = false := beq_eq_false_iff_ne.2 (by omega)
        have e4 : ((k : Int) == 10) = false := beq_eq_false_iff_ne.2 (by omega)
        clear d1 d2 d3 hd hx1 hx2
        go_wp2_with (first | (at_builtin; refine wpList_append_own _ rfl (.tmp 36) (.tmp 43) 25 rfl (w.heap.size + 1) 5 i0 _ 1 1 Try.underlying25 (unhide HI).1 (unhide HI).2.1 (unhide HI).2.2.1 (unhide HI).2.2.2 rfl (by decide) _ (acc).length (Lib.byteCells (acc)) rfl ((unhide HO).alloc _) ⟨wr.heap.size, 0, none⟩ 1 1 [.int .u8 ((A[X / 16]'hi1).toNat : Int)] rfl rfl (new_one wr _ 5) (u8_one _) (by unfold maxLen; omega) (by omega) (by simp; omega) ?_; intro v2 w2 h2 gg _; rw [cells_snoc, ← (unhide HL).1] at h2; have bb := Below.grown ((unhide HW).alloc (o := .cells #[.int .u8 ((A[X / 16]'hi1).toNat : Int)] 5) hwz) gg (by simp; omega) (fun j hj => ((unhide HO).lt j hj).1); have q3 := unhide HQ _ bb; have hz2 : w.heap.size + 1 ≤ w2.heap.size := (by have := bb.size; simpa using this); have HH2 := hide (And.intro h2 bb); clear h2 gg bb) | (at_builtin; refine wpList_append_own _ rfl (.tmp 45) (.tmp 52) 25 rfl (w.heap.size + 1) 5 i0 _ 1 1 Try.underlying25 (unhide HI).1 (unhide HI).2.1 (unhide HI).2.2.1 (unhide HI).2.2.2 rfl (by decide) _ (acc ++ [A[X / 16]'hi1]).length (Lib.byteCells (acc ++ [A[X / 16]'hi1])) rfl ((unhide HH2).1.alloc _) ⟨w2.heap.size, 0, none⟩ 1 1 [.int .u8 ((A[X % 16]'hi2).toNat : Int)] rfl rfl (new_one w2 _ 5) (u8_one _) (by rw [(unhide HL).1]; unfold maxLen; omega) (by rw [(unhide HL).1]; omega) (by simp; omega) ?_; intro v3 w3 h3 gg _; rw [cells_snoc, (unhide HL).1, ← (unhide HL).2] at h3; have bb := Below.grown ((unhide HH2).2.alloc (o := .cells #[.int .u8 ((A[X % 16]'hi2).toNat : Int)] 5) hz2) gg (by simp; omega) (fun j hj => ((unhide HH2).1.lt j hj).1); have HH3 := hide (And.intro h3 bb); clear h3 gg bb))
        go_roundw
        case rel => exact ⟨k + 1, acc ++ [A[X / 16]'hi1] ++ [A[X % 16]'hi2], by omega, by go_num, by rw [(unhide HL).2]; omega, HGN, (unhide HH3).1, (unhide HH3).2⟩
        case measure => simp [intOf]; omega
    · have hk16 : k = 16 := by omega
      have HL : Hid (acc.length = 36 ∧ Good acc) := by
        obtain ⟨e1, e2⟩ := unhide HG
        rw [hk16] at e1
        exact ⟨e1, e2⟩
      have h0 : 0 < acc.length := by rw [(unhide HL).1]; omega
      clear hk16
      obtain ⟨g, cap, hv, hcl⟩ := own_bytes (unhide HO) h0
      subst hv
      have hcv := fun ty => run_convert_bytes_back (P := Try.prog) wr 25 ty 5 ⟨g, 0, none⟩ cap acc Try.underlying25 Try.underlying5
      have hcv2 := hcv 9 Try.underlying9 hcl
      have HB := hide (below_of (unhide HW))
      clear hcv hcl HO HW
      go_wp2
      go_ret
      exact ⟨acc, rfl, unhide HL, unhide HB⟩


end Go.Proofs.Qxb6602109a
