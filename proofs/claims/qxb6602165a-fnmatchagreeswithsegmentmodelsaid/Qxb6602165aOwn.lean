/-
  WALKS of the seat b6602165a: the functions that lay rows: elemStarts (24), segments (17), closeStars (32), closeDeep (29), cloneBytes (11), cloneStrings (12).
-/
import Derived.Test.Qxb6602165aMatch
import Derived.Laws.OwnMore
import Derived.OwnWalk
import Derived.Maps.AppendAt
namespace Go.Proofs.Qxb6602165a
open Go.RowKit Plain

theorem Try.info3 : (Try.prog.info? 3).map (fun i => (i.zero, i.size, i.bytes)) = some (some (.int .i64 0), 1, 8) := by kernel_rfl
theorem Try.info4 : (Try.prog.info? 4).map (fun i => (i.zero, i.size, i.bytes)) = some (some (.bool false), 1, 1) := by kernel_rfl
theorem Try.info5 : (Try.prog.info? 5).map (fun i => (i.zero, i.size, i.bytes)) = some (some (.int .u8 0), 1, 1) := by kernel_rfl
theorem Try.info9 : (Try.prog.info? 9).map (fun i => (i.zero, i.size, i.bytes)) = some (some (.string ⟨#[]⟩), 1, 16) := by kernel_rfl

theorem new_one (W : World) (v : Value) (t : TypeId) : ∀ j u, [v][j]? = some u → (W.alloc (.cells #[v] t)).cell? ((⟨W.heap.size, 0, none⟩ : Addr).add j) = some u := by
  intro j u hj
  rw [Addr.add_lit, Nat.zero_add]
  rw [cell_of_row _ _ _ _ _ _ (heap_alloc_new W _)]
  match j, hj with
  | 0, hj => simpa using hj
  | j + 1, hj => simp at hj

theorem int_one (n : Int) : ∀ u ∈ [Value.int .i64 n], u.oneCell' = true := by
  intro u hu
  simp only [List.mem_cons, List.not_mem_nil, or_false] at hu
  rw [hu]
  rfl

def vals (f : Nat → Value) (n : Nat) : List Value := (List.range n).map f
theorem vals_snoc (f : Nat → Value) (n : Nat) : vals f n ++ [f n] = vals f (n + 1) := by simp [vals, List.range_succ]
theorem vals_get (f : Nat → Value) (n j : Nat) (h : j < n) : (vals f n)[j]? = some (f j) := by simp [vals, h]

theorem own_row {w : World} {B : Nat} {e : TypeId} {v : Value} {n : Nat} {xs : List Value} {f : Nat → Value} (h : w.ownsRow B e 1 v n xs) (hx : ∀ j, j < n → xs[j]? = some (f j)) :
    ∃ ao c, v = .slice ao n c ∧ Row w.heap.size w ao n f := by
  have h0 := h
  rcases h.2 with ⟨rfl, hn⟩ | ⟨g, cap, cur, rfl, hb, hg, _⟩
  · subst hn
    exact ⟨none, 0, rfl, .inl rfl⟩
  · refine ⟨_, _, rfl, .inr ⟨g, 0, rfl, ?_, fun k hk => ?_⟩⟩
    · rcases Nat.lt_or_ge g w.heap.size with h1 | h1
      · exact h1
      · rw [Array.getElem?_eq_none h1] at hg; cases hg
    · rw [Nat.zero_add, h0.cellAt k (by omega)]
      exact hx k hk

/-- The cells of a row of ints. -/
def iv (f : Nat → Nat) (k : Nat) : Value := .int .i64 (f k : Int)

set_option maxHeartbeats 4000000 in
theorem elemStarts24 (p : Nat → Nat) (n : Nat) (hp : Prg p n) {B : Nat} (ao : Option Addr) (c s m : Nat) (w : World) (hB : B ≤ w.heap.size) (hr : Row B w ao n (pv p)) (hs : Seg p n s m) :
    Calls Try.prog 24 #[.slice ao n c, .int .i64 s, .int .i64 (it p n s m : Int)] w fun e w' => ∃ ao' c', e = .returned (.slice ao' m c') ∧ Row w'.heap.size w' ao' m (iv (it p n s)) ∧ Below w.heap.size w w' := by
  have hn := hp.len
  obtain ⟨i0, hi, hz0, hz1, hz2⟩ := info_parts Try.info3
  have HI := hide (And.intro hi (And.intro hz0 (And.intro hz1 hz2)))
  have HE := hide (fun W (hW : Below w.heap.size w W) k => elemEnd26 p n hp ao c k W (hr.below (hW.mono hB)))
  have HS := hide hs
  have hs0 : s ≤ n := hs.le 0 (Nat.zero_le _)
  have hem := hs.le m (Nat.le_refl _)
  have HEM : ∃ z, z = it p n s m := ⟨_, rfl⟩
  obtain ⟨z, hz⟩ := HEM
  rw [← hz] at hem ⊢
  have HZ := hide hz
  have hmn : m ≤ n := by
    have := it_ge (p := p) (n := n) s m
    omega
  clear hs hr hp hz hi hz0 hz1 hz2
  go_enter Try.func24, Try.ntmps24
  go_wp2
  go_loopw [7, 8] (fun v i wr => ∃ (j k : Nat), j ≤ m ∧ k ≤ n ∧ i = .int .i64 k ∧ Hid (k = it p n s j) ∧ Hid (wr.ownsRow w.heap.size 3 1 v j (vals (iv (it p n s)) j)) ∧ Hid (Below w.heap.size w wr)) (fun _ i _ => n - (intOf i).toNat)
  case atStart => exact ⟨0, s, Nat.zero_le _, hs0, rfl, rfl, World.ownsRow_nil _ _ _ _, Below.refl _ _⟩
  case round =>
    obtain ⟨j, k, hj, hk, rfl, HK, HO, HW⟩ := hrel
    have hwz : w.heap.size ≤ wr.heap.size := (unhide HW).size
    by_cases hlt : j < m
    · have h1 : k < n := by rw [unhide HK]; exact (unhide HS).lt j hlt
      have h3 := (unhide HS).ok j hlt
      have h5 : it p n s (j + 1) ≤ n := (unhide HS).le _ hlt
      have h6 := it_mono (p := p) (n := n) s (i := j) (j := m) (by omega)
      have hkz : k < z := by rw [unhide HZ, unhide HK]; omega
      rw [← unhide HK] at h3
      have h7 := elemEnd_gt h3
      have h4 := endI_some h3
      obtain ⟨k', hk'⟩ : ∃ k', k' = it p n s (j + 1) := ⟨_, rfl⟩
      rw [← hk'] at h3 h4 h5 h7
      have HK' := hide hk'
      have HE4 := hide h4
      have Hsn : Hid (vals (iv (it p n s)) j ++ [.int .i64 (k : Int)] = vals (iv (it p n s)) (j + 1)) := by
        unfold Hid
        rw [← vals_snoc, unhide HK]
        rfl
      clear h3 h4 h6 hk'
      go_wp2_with (at_builtin; refine wpList_append_own _ rfl (.tmp 14) (.tmp 16) 30 rfl w.heap.size 3 i0 _ 1 8 Try.underlying30 (unhide HI).1 (unhide HI).2.1 (unhide HI).2.2.1 (unhide HI).2.2.2 rfl (by decide) _ j (vals (iv (it p n s)) j) rfl ((unhide HO).alloc _) ⟨wr.heap.size, 0, none⟩ 1 1 [.int .i64 (k : Int)] rfl rfl (new_one wr _ 3) (int_one _) (by unfold maxLen; omega) (by omega) (by simp; omega) ?_; intro v4 w4 h4 g4 _; rw [unhide Hsn] at h4; have HH4 := hide (And.intro h4 (Below.grown ((unhide HW).alloc (o := .cells #[.int .i64 (k : Int)] 3) hwz) g4 (by simp; omega) (fun j hj => ((unhide HO).lt j hj).1))); clear h4 g4)
      have HE1 := hide (unhide HE w4 (unhide HH4).2 k h1)
      rw [unhide HE4] at HE1
      go_wp2_with fail
      refine (unhide HE1).mono ?_
      rintro e w' ⟨rfl, rfl⟩
      go_wp2
      go_roundw
      case rel => exact ⟨j + 1, k', hlt, h5, rfl, HK', (unhide HH4).1, (unhide HH4).2⟩
      case measure => simp [intOf]; omega
    · have hjm : j = m := by omega
      subst hjm
      have hkz : z ≤ k := by rw [unhide HZ, unhide HK]; exact Nat.le_refl _
      obtain ⟨ao', c', hv, hrow⟩ := own_row (unhide HO) (fun i hi => vals_get _ _ i hi)
      have HV := hide hrow
      subst hv
      clear hrow
      go_wp2
      go_ret
      exact ⟨ao', c', rfl, unhide HV, unhide HW⟩

theorem path_le {p : Nat → Nat} {n M : Nat} {S mm : Nat → Nat} (h : Path (p := p) (n := n) 0 M S mm) (i : Nat) (hi : i ≤ M) : i ≤ S i := by
  induction i with
  | zero => exact Nat.zero_le _
  | succ i ih =>
    have := h.next i hi
    have h2 := it_ge (p := p) (n := n) (S i) (mm i)
    have := ih (by omega)
    omega

/-- No block is both. -/
def Dj (a b : Option Nat) : Prop := ∀ k, a = some k → b = some k → False
theorem Dj.ne {a b : Option Nat} (h : Dj a b) : a = none ∨ a ≠ b := by
  cases a with
  | none => exact .inl rfl
  | some k => exact .inr (fun e => h k rfl e.symm)
theorem Dj.symm {a b : Option Nat} (h : Dj a b) : Dj b a := fun k x y => h k y x
theorem Dj.grow {a a' b : Option Nat} {H : Nat} (h : Dj a b) (ha : a' = a ∨ a' = some H) (hb : ∀ k, b = some k → k < H) : Dj a' b := by
  intro k x y
  rcases ha with e | e
  · exact h k (e ▸ x) y
  · rw [e] at x
    cases x
    exact absurd (hb _ y) (Nat.lt_irrefl _)

set_option maxHeartbeats 8000000 in
theorem segments17 (p : Nat → Nat) (n : Nat) (hp : Prg p n) {B : Nat} (ao : Option Addr) (c M : Nat) (S mm : Nat → Nat) (w : World) (hB : B ≤ w.heap.size) (hr : Row B w ao n (pv p)) (hP : Path (p := p) (n := n) 0 M S mm) :
    Calls Try.prog 17 #[.slice ao n c] w fun e w' => ∃ ao1 c1 ao2 c2, e = .returned (.tuple #[.slice ao1 M c1, .slice ao2 M c2]) ∧ Row w'.heap.size w' ao1 M (iv S) ∧ Row w'.heap.size w' ao2 M (iv (fun i => it p n (S i) (mm i))) ∧ Below w.heap.size w w' := by
  have hn := hp.len
  obtain ⟨i0, hi, hz0, hz1, hz2⟩ := info_parts Try.info3
  have HI := hide (And.intro hi (And.intro hz0 (And.intro hz1 hz2)))
  have HE := hide (fun W (hW : Below w.heap.size w W) s m => segEnd30 p n hp ao c s m W (hr.below (hW.mono hB)))
  have HP := hide hP
  have hM : M ≤ n + 1 := by
    have := path_le hP M (Nat.le_refl _)
    rw [hP.last] at this
    exact this
  clear hr hp hP hi hz0 hz1 hz2
  go_enter Try.func17, Try.ntmps17
  go_wp2
  go_loopw [4, 5, 6] (fun v1 v2 i wr => ∃ (j k : Nat), j ≤ M ∧ k ≤ n + 1 ∧ i = .int .i64 k ∧ Hid (k = S j) ∧ Hid (wr.ownsRow w.heap.size 3 1 v1 j (vals (iv S) j)) ∧ Hid (wr.ownsRow w.heap.size 3 1 v2 j (vals (iv (fun i => it p n (S i) (mm i))) j)) ∧ Hid (Dj v1.ownBlock v2.ownBlock) ∧ Hid (Below w.heap.size w wr)) (fun _ _ i _ => n + 1 - (intOf i).toNat)
  case atStart => exact ⟨0, 0, Nat.zero_le _, Nat.zero_le _, rfl, (unhide HP).zero.symm, World.ownsRow_nil _ _ _ _, World.ownsRow_nil _ _ _ _, (fun k h => by cases h), Below.refl _ _⟩
  case round =>
    obtain ⟨j, k, hj, hk, rfl, HK, HO1, HO2, HNE, HW⟩ := hrel
    have hwz : w.heap.size ≤ wr.heap.size := (unhide HW).size
    by_cases hlt : j < M
    · have h1 : k ≤ n := by rw [unhide HK]; exact (unhide HP).le j hlt
      have HE1 := hide (unhide HE wr (unhide HW) k (mm j) (by rw [unhide HK]; exact ((unhide HP).part j hlt).seg))
      have hE := ((unhide HP).part j hlt).seg.le _ (Nat.le_refl (mm j))
      have hG := it_ge (p := p) (n := n) (S j) (mm j)
      have hNx := (unhide HP).next j hlt
      have HSn1 : Hid (vals (iv S) j ++ [.int .i64 (k : Int)] = vals (iv S) (j + 1)) := by
        unfold Hid
        rw [← vals_snoc, unhide HK]
        rfl
      have HSn2 : Hid (vals (iv (fun i => it p n (S i) (mm i))) j ++ [.int .i64 (it p n (S j) (mm j) : Int)] = vals (iv (fun i => it p n (S i) (mm i))) (j + 1)) := vals_snoc _ _
      rw [← unhide HK] at hE hG hNx HSn2
      obtain ⟨y, hy⟩ : ∃ y, y = it p n k (mm j) := ⟨_, rfl⟩
      rw [← hy] at hE hG hNx HSn2 HE1
      have HNx := hide hNx
      clear hNx hy
      go_wp2_with fail
      refine (unhide HE1).mono ?_
      rintro e w0 ⟨rfl, rfl⟩
      go_wp2_with (first
        | (at_builtin; refine wpList_append_own_at _ rfl (.tmp 15) (.tmp 17) 30 rfl w.heap.size 3 i0 _ 1 8 Try.underlying30 (unhide HI).1 (unhide HI).2.1 (unhide HI).2.2.1 (unhide HI).2.2.2 rfl (by decide) _ j (vals (iv S) j) rfl ((unhide HO1).alloc _) ⟨wr.heap.size, 0, none⟩ 1 1 [.int .i64 (k : Int)] rfl rfl (new_one wr _ 3) (int_one _) (by unfold maxLen; omega) (by omega) (by simp; omega) ?_; intro v4 w4 h4 g4 _ at4; rw [unhide HSn1] at h4; have HH4 := hide (And.intro h4 (And.intro (Below.grown ((unhide HW).alloc (o := .cells #[.int .i64 (k : Int)] 3) hwz) g4 (by simp; omega) (fun j hj => ((unhide HO1).lt j hj).1)) (And.intro (((unhide HO2).alloc _).kept g4 (unhide HNE).symm.ne) (Dj.grow (unhide HNE) at4 (fun q hq => (((unhide HO2).alloc (.cells #[.int .i64 (k : Int)] 3)).lt q hq).2))))); clear h4 g4 at4)
        | (have hwz4 : w.heap.size ≤ w4.heap.size := (unhide HH4).2.1.size; at_builtin; refine wpList_append_own_at _ rfl (.tmp 19) (.tmp 21) 30 rfl w.heap.size 3 i0 _ 1 8 Try.underlying30 (unhide HI).1 (unhide HI).2.1 (unhide HI).2.2.1 (unhide HI).2.2.2 rfl (by decide) _ j (vals (iv (fun i => it p n (S i) (mm i))) j) rfl ((unhide HH4).2.2.1.alloc _) ⟨w4.heap.size, 0, none⟩ 1 1 [.int .i64 (y : Int)] rfl rfl (new_one w4 _ 3) (int_one _) (by unfold maxLen; omega) (by omega) (by simp; omega) ?_; intro v5 w5 h5 g5 _ at5; rw [unhide HSn2] at h5; have HH5 := hide (And.intro h5 (And.intro (Below.grown ((unhide HH4).2.1.alloc (o := .cells #[.int .i64 (y : Int)] 3) hwz4) g5 (by simp; omega) (fun j hj => ((unhide HH4).2.2.1.lt j hj).1)) (And.intro (((unhide HH4).1.alloc _).kept g5 (unhide HH4).2.2.2.ne) (Dj.grow (unhide HH4).2.2.2.symm at5 (fun q hq => (((unhide HH4).1.alloc (.cells #[.int .i64 (y : Int)] 3)).lt q hq).2))))); clear h5 g5 at5))
      go_roundw
      case rel => exact ⟨j + 1, y + 1, hlt, by omega, by go_num, (unhide HNx).symm, (unhide HH5).2.2.1, (unhide HH5).1, (unhide HH5).2.2.2.symm, (unhide HH5).2.1⟩
      case measure => simp [intOf]; omega
    · have hjm : j = M := by omega
      subst hjm
      have hkz : n + 1 ≤ k := by rw [unhide HK, (unhide HP).last]; exact Nat.le_refl _
      obtain ⟨ao1, c1, hv1, hrow1⟩ := own_row (unhide HO1) (fun i hi => vals_get _ _ i hi)
      obtain ⟨ao2, c2, hv2, hrow2⟩ := own_row (unhide HO2) (fun i hi => vals_get _ _ i hi)
      have HV := hide (And.intro hrow1 hrow2)
      subst hv1 hv2
      clear hrow1 hrow2
      go_wp2
      go_ret2
      exact ⟨ao1, c1, ao2, c2, rfl, (unhide HV).1, (unhide HV).2, unhide HW⟩

end Go.Proofs.Qxb6602165a
