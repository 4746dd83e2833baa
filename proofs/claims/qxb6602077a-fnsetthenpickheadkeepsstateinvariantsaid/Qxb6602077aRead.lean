/-
  WALKS of the seat b6602077a: the functions that only read a slice of refs.
-/
import Derived.Test.Qxb6602077aRows
import Derived.Test.Qxb6602077aPlain
import Derived.Test.Qxb6602077aShelf
import Derived.WalkKit
import Derived.WalkSpells
import Derived.WalkLawsBesides
import Derived.Deep.QuietTactic
import Derived.BigQuiet
namespace Go.Proofs.Qxb6602077a
open Go.RowKit Plain

theorem hide {p : Prop} (h : p) : Hid p := h
theorem unhide {p : Prop} (h : Hid p) : p := h
theorem ret_bool {a b : Bool} (h : a = b) : Ending.returned (.bool a) = .returned (.bool b) := by rw [h]
theorem ret_str {a b : ByteArray} (h : a = b) : Ending.returned (.string a) = .returned (.string b) := by rw [h]
theorem tl (x : ByteArray) : x.toList = by' x := ByteArray.toList_eq x
theorem beq_yes {x y : ByteArray} (h : by' x = by' y) : (x.toList == y.toList) = true := by rw [tl, tl, h]; simp
theorem beq_no {x y : ByteArray} (h : by' x ≠ by' y) : (x.toList == y.toList) = false := by rw [tl, tl]; simpa using h
theorem bne_yes {x y : ByteArray} (h : by' x ≠ by' y) : (x.toList != y.toList) = true := by rw [tl, tl]; simpa using h
theorem bne_no {x y : ByteArray} (h : by' x = by' y) : (x.toList != y.toList) = false := by rw [tl, tl, h]; simp
theorem by_inj {x y : ByteArray} (h : by' x = by' y) : x = y := by rw [← Lib.mk_data x, ← Lib.mk_data y]; exact congrArg (fun l : List UInt8 => (⟨l.toArray⟩ : ByteArray)) h
theorem less_eq (x y : ByteArray) : Op.bytesLess x.toList y.toList = Op.bytesLess (by' x) (by' y) := by rw [tl, tl]

/-- The refs l lie behind the address ao. -/
def RefsAt (w : World) (ao : Option Addr) (l : List R) : Prop :=
  l = [] ∨ ∃ b off, ao = some ⟨b, off, none⟩ ∧ b < w.heap.size ∧ ∀ k, k < l.length → w.cell? ⟨b, off + k * 2, none⟩ = some (.string (nm l k)) ∧ w.cell? ⟨b, off + k * 2 + 1, none⟩ = some (.string (Plain.id l k))

theorem RefsAt.below {w w' : World} {ao : Option Addr} {l : List R} (h : RefsAt w ao l) (hb : Below w.heap.size w w') : RefsAt w' ao l := by
  rcases h with h | ⟨b, off, h1, h2, h3⟩
  · exact .inl h
  · refine .inr ⟨b, off, h1, by have := hb.size; omega, fun k hk => ?_⟩
    have e1 := hb.cell (p := ⟨b, off + k * 2, none⟩) h2
    have e2 := hb.cell (p := ⟨b, off + k * 2 + 1, none⟩) h2
    rw [e1, e2]
    exact h3 k hk

/-- .. below a block number B all the same. -/
def RefsOld (B : Nat) (w : World) (ao : Option Addr) (l : List R) : Prop :=
  l = [] ∨ ∃ b off, ao = some ⟨b, off, none⟩ ∧ b < B ∧ ∀ k, k < l.length → w.cell? ⟨b, off + k * 2, none⟩ = some (.string (nm l k)) ∧ w.cell? ⟨b, off + k * 2 + 1, none⟩ = some (.string (Plain.id l k))

theorem RefsOld.below {B : Nat} {w w' : World} {ao : Option Addr} {l : List R} (h : RefsOld B w ao l) (hb : Below B w w') : RefsOld B w' ao l := by
  rcases h with h | ⟨b, off, h1, h2, h3⟩
  · exact .inl h
  · refine .inr ⟨b, off, h1, h2, fun k hk => ?_⟩
    have e1 := hb.cell (p := ⟨b, off + k * 2, none⟩) h2
    have e2 := hb.cell (p := ⟨b, off + k * 2 + 1, none⟩) h2
    rw [e1, e2]
    exact h3 k hk

theorem RefsOld.at {B : Nat} {w : World} {ao : Option Addr} {l : List R} (h : RefsOld B w ao l) (hB : B ≤ w.heap.size) : RefsAt w ao l := by
  rcases h with h | ⟨b, off, h1, h2, h3⟩
  · exact .inl h
  · exact .inr ⟨b, off, h1, by omega, h3⟩

/-! ### idsSetB1 (27) -/
set_option maxHeartbeats 400000 in
theorem idsSet_walk (ao : Option Addr) (c : Nat) (l : List R) (w : World) (hl : l.length ≤ 1048576) (hr : RefsAt w ao l) :
    Calls Try.prog 27 #[.slice ao l.length c] w fun e w' => e = .returned (.bool (Plain.idsSet l)) ∧ w = w' := by
  go_enter Try.func27, Try.ntmps27
  go_wp2
  go_loop [3] (fun i => ∃ k : Nat, k ≤ l.length ∧ i = .int .i64 k ∧ Hid (∀ j, j < k → (by' (Plain.id l j)).isEmpty = false)) (fun i => l.length - (intOf i).toNat)
  case atStart => exact ⟨0, Nat.zero_le _, rfl, fun j hj => by omega⟩
  case round =>
    obtain ⟨k, hk, rfl, HF⟩ := hrel
    by_cases hlt : k < l.length
    · rcases hr with rfl | ⟨b, off, rfl, _, hc⟩
      · simp at hlt
      · have h1 := (hc k hlt).1
        have h2 := (hc k hlt).2
        clear hc
        cases he : (by' (Plain.id l k)).isEmpty
        · have hb : (Plain.id l k).toList.isEmpty = false := by rw [tl]; exact he
          have Hn : Hid (∀ j, j < k + 1 → (by' (Plain.id l j)).isEmpty = false) := by
            intro j hj
            by_cases e : j = k
            · rw [e]; exact he
            · exact HF.out j (by omega)
          clear he
          go_wp2
          go_round
          case rel => exact ⟨k + 1, by omega, by go_num, Hn⟩
          case measure => simp [intOf]; omega
        · have hb : (Plain.id l k).toList.isEmpty = true := by rw [tl]; exact he
          have Hn : Hid (Plain.idsSet l = false) := by
            unfold Hid Plain.idsSet
            rw [any_true _ l k hlt he]
            rfl
          clear he
          go_wp2
          go_ret
          exact ⟨ret_bool Hn.out.symm, rfl⟩
    · have Hn : Hid (Plain.idsSet l = true) := by
        unfold Hid Plain.idsSet
        rw [any_false _ l (fun j hj => HF.out j (by omega))]
        rfl
      go_wp2
      go_ret
      exact ⟨ret_bool Hn.out.symm, rfl⟩

/-! ### hasNameB1 (34) -/
set_option maxHeartbeats 400000 in
theorem hasName_walk (ao : Option Addr) (c : Nat) (l : List R) (x : ByteArray) (w : World) (hl : l.length ≤ 1048576) (hr : RefsAt w ao l) :
    Calls Try.prog 34 #[.slice ao l.length c, .string x] w fun e w' => e = .returned (.bool (hasName l x)) ∧ w = w' := by
  go_enter Try.func34, Try.ntmps34
  go_wp2
  go_loop [5] (fun i => ∃ k : Nat, k ≤ l.length ∧ i = .int .i64 k ∧ Hid (∀ j, j < k → by' (nm l j) ≠ by' x)) (fun i => l.length - (intOf i).toNat)
  case atStart => exact ⟨0, Nat.zero_le _, rfl, fun j hj => by omega⟩
  case round =>
    obtain ⟨k, hk, rfl, HF⟩ := hrel
    by_cases hlt : k < l.length
    · rcases hr with rfl | ⟨b, off, rfl, _, hc⟩
      · simp at hlt
      · have h1 := (hc k hlt).1
        have h2 := (hc k hlt).2
        clear hc
        by_cases he : by' (nm l k) = by' x
        · have hb := beq_yes he
          have Hn := hide (hasName_yes l x k hlt he)
          clear he
          go_wp2
          go_ret
          exact ⟨ret_bool Hn.out.symm, rfl⟩
        · have hb := beq_no he
          have Hn : Hid (∀ j, j < k + 1 → by' (nm l j) ≠ by' x) := by
            intro j hj
            by_cases e : j = k
            · rw [e]; exact he
            · exact HF.out j (by omega)
          clear he
          go_wp2
          go_round
          case rel => exact ⟨k + 1, by omega, by go_num, Hn⟩
          case measure => simp [intOf]; omega
    · have Hn := hide (hasName_no l x (fun j hj => HF.out j (by omega)))
      go_wp2
      go_ret
      exact ⟨ret_bool Hn.out.symm, rfl⟩

/-! ### hasPrefixB1 (35) -/
theorem prefix_eq (s p : List UInt8) : ((s.take p.length) == p) = p.isPrefixOf s := by
  rw [Bool.eq_iff_iff, List.isPrefixOf_iff_prefix, beq_iff_eq, List.prefix_iff_eq_take]
  exact ⟨fun h => h.symm, fun h => h.symm⟩

theorem hasPrefix_walk (s p : ByteArray) (w : World) (_hs : s.size ≤ maxLen) (_hp : p.size ≤ maxLen) :
    Calls Try.prog 35 #[.string s, .string p] w fun e w' => e = .returned (.bool (Lib.hasPrefix (by' s) (by' p))) ∧ w = w' := by
  unfold maxLen at _hs _hp
  by_cases h : p.size ≤ s.size
  · have he : Hid (((s.extract 0 p.size).toList == p.toList) = Lib.hasPrefix (by' s) (by' p)) := by
      unfold Hid Lib.hasPrefix
      rw [tl, tl, ← prefix_eq (by' s) (by' p)]
      unfold by'
      rw [Lib.extract_data, List.drop_zero, Nat.sub_zero, Lib.size_eq]
    go_enter Try.func35, Try.ntmps35
    go_wp2
    go_ret
    exact ⟨ret_bool he.out, rfl⟩
  · have he : Hid (false = Lib.hasPrefix (by' s) (by' p)) := by
      unfold Hid Lib.hasPrefix
      symm
      rw [Bool.eq_false_iff]
      intro h2
      have h3 := (List.isPrefixOf_iff_prefix.1 h2).length_le
      unfold by' at h3
      rw [← Lib.size_eq, ← Lib.size_eq] at h3
      omega
    go_enter Try.func35, Try.ntmps35
    go_wp2
    go_ret
    exact ⟨ret_bool he.out, rfl⟩

/-! ### anyBranchB1 (37) -/
set_option maxHeartbeats 400000 in
theorem anyBranch_walk (ao : Option Addr) (c : Nat) (l : List R) (w : World) (hl : l.length ≤ 1048576) (hsz : ∀ k, k < l.length → (nm l k).size ≤ maxLen) (hr : RefsAt w ao l) :
    Calls Try.prog 37 #[.slice ao l.length c] w fun e w' => e = .returned (.bool (anyBr l)) ∧ w = w' := by
  have HS := hide hsz
  clear hsz
  go_enter Try.func37, Try.ntmps37
  go_wp2
  go_loop [3] (fun i => ∃ k : Nat, k ≤ l.length ∧ i = .int .i64 k ∧ Hid (∀ j, j < k → isBr (nm l j) = false)) (fun i => l.length - (intOf i).toNat)
  case atStart => exact ⟨0, Nat.zero_le _, rfl, fun j hj => by omega⟩
  case round =>
    obtain ⟨k, hk, rfl, HF⟩ := hrel
    by_cases hlt : k < l.length
    · rcases hr with rfl | ⟨b, off, rfl, _, hc⟩
      · simp at hlt
      · have h1 := (hc k hlt).1
        have h2 := (hc k hlt).2
        clear hc
        have hP := hasPrefix_walk (nm l k) preB w (unhide HS k hlt) (by decide)
        change Calls Try.prog 35 #[.string (nm l k), .string ⟨#[114, 101, 102, 115, 47, 104, 101, 97, 100, 115, 47]⟩] w (fun e w' => e = .returned (.bool (isBr (nm l k))) ∧ w = w') at hP
        cases he : isBr (nm l k)
        · rw [he] at hP
          have Hn : Hid (∀ j, j < k + 1 → isBr (nm l j) = false) := by
            intro j hj
            by_cases e : j = k
            · rw [e]; exact he
            · exact HF.out j (by omega)
          have HP := hide hP
          clear he hP
          go_wp2_with fail
          refine (unhide HP).mono ?_
          rintro e w' ⟨rfl, rfl⟩
          go_wp2
          go_round
          case rel => exact ⟨k + 1, by omega, by go_num, Hn⟩
          case measure => simp [intOf]; omega
        · rw [he] at hP
          have Hn := hide (any_true (fun r => isBr r.1) l k hlt he)
          have HP := hide hP
          clear he hP
          go_wp2_with fail
          refine (unhide HP).mono ?_
          rintro e w' ⟨rfl, rfl⟩
          go_wp2
          go_ret
          exact ⟨ret_bool Hn.out.symm, rfl⟩
    · have Hn := hide (any_false (fun r => isBr r.1) l (fun j hj => HF.out j (by omega)))
      go_wp2
      go_ret
      exact ⟨ret_bool Hn.out.symm, rfl⟩

/-! ### sortedB1 (11) -/
set_option maxHeartbeats 1000000 in
theorem sorted_walk (ao : Option Addr) (c : Nat) (l : List R) (w : World) (hl : l.length ≤ 1048576) (hr : RefsAt w ao l) :
    Calls Try.prog 11 #[.slice ao l.length c] w fun e w' => e = .returned (.bool (ascB l)) ∧ ∃ n, w' = w.drewN n := by
  go_enter Try.func11, Try.ntmps11
  go_wp2
  go_loopw [3] (fun i wr => ∃ k : Nat, k ≤ l.length ∧ i = .int .i64 (k + 1 : Nat) ∧ Hid (∀ j, j < k → j + 1 < l.length → Op.bytesLess (by' (nm l j)) (by' (nm l (j + 1))) = true) ∧ ∃ n, wr = w.drewN n) (fun i _ => l.length + 1 - (intOf i).toNat)
  case atStart => exact ⟨0, Nat.zero_le _, rfl, fun j hj => by omega, 0, rfl⟩
  case round =>
    obtain ⟨k, hk, rfl, HF, n, rfl⟩ := hrel
    by_cases hlt : k + 1 < l.length
    · rcases hr with rfl | ⟨b, off, rfl, _, hc⟩
      · simp at hlt
      · have h1 := (hc k (by omega)).1
        have h2 := (hc (k + 1) hlt).1
        clear hc
        have hi1 : ((k + 1 : Nat) : Int) - 1 = (k : Int) := by omega
        have hk1 : (k : Int) < (l.length : Int) := by omega
        have hk2 : ((k + 1 : Nat) : Int) < (l.length : Int) := by omega
        cases he : Op.bytesLess (by' (nm l k)) (by' (nm l (k + 1)))
        · have hb : Op.bytesLess (nm l k).toList (nm l (k + 1)).toList = false := by rw [less_eq]; exact he
          have Hn := hide (ascB_no l k hlt he)
          clear he
          go_wp2
          go_quiet (fail)
          go_wp2
          go_ret
          exact ⟨ret_bool Hn.out.symm, ⟨n + nq, by simp⟩⟩
        · have hb : Op.bytesLess (nm l k).toList (nm l (k + 1)).toList = true := by rw [less_eq]; exact he
          have Hn : Hid (∀ j, j < k + 1 → j + 1 < l.length → Op.bytesLess (by' (nm l j)) (by' (nm l (j + 1))) = true) := by
            intro j hj h
            by_cases e : j = k
            · rw [e]; exact he
            · exact HF.out j (by omega) h
          clear he
          go_wp2
          go_quiet (fail)
          go_wp2
          go_roundw
          case rel => exact ⟨k + 1, by omega, by go_num, Hn, ⟨n + nq, by simp⟩⟩
          case measure => simp [intOf]; omega
    · have Hn := hide ((ascB_iff l).2 (fun j hj => HF.out j (by omega) hj))
      go_wp2
      go_ret
      exact ⟨ret_bool Hn.out.symm, ⟨_, rfl⟩⟩

/-! ### equalRefsB1 (15), of equal refs -/
set_option maxHeartbeats 1000000 in
theorem equal_walk (ao ao2 : Option Addr) (c c2 : Nat) (l : List R) (w : World) (hl : l.length ≤ 1048576) (hr : RefsAt w ao l) (hr2 : RefsAt w ao2 l) :
    Calls Try.prog 15 #[.slice ao l.length c, .slice ao2 l.length c2] w fun e w' => e = .returned (.bool true) ∧ ∃ n, w' = w.drewN n := by
  have hne : ((l.length : Int) != (l.length : Int)) = false := by simp
  go_enter Try.func15, Try.ntmps15
  go_wp2
  go_loopw [5] (fun i wr => ∃ k : Nat, k ≤ l.length ∧ i = .int .i64 k ∧ ∃ n, wr = w.drewN n) (fun i _ => l.length - (intOf i).toNat)
  case atStart => exact ⟨0, Nat.zero_le _, rfl, 0, rfl⟩
  case round =>
    obtain ⟨k, hk, rfl, n, rfl⟩ := hrel
    by_cases hlt : k < l.length
    · rcases hr with rfl | ⟨b, off, rfl, _, hc⟩
      · simp at hlt
      · rcases hr2 with rfl | ⟨b2, off2, rfl, _, hc2⟩
        · simp at hlt
        · have h1 := (hc k hlt).1
          have h2 := (hc k hlt).2
          have h3 := (hc2 k hlt).1
          have h4 := (hc2 k hlt).2
          clear hc hc2
          have hk1 : (k : Int) < (l.length : Int) := by omega
          have hb1 : ((nm l k).toList != (nm l k).toList) = false := by simp
          have hb2 : ((Plain.id l k).toList != (Plain.id l k).toList) = false := by simp
          go_wp2
          go_quiet (fail)
          go_wp2
          go_roundw
          case rel => exact ⟨k + 1, by omega, by go_num, ⟨n + nq, by simp⟩⟩
          case measure => simp [intOf]; omega
    · go_wp2
      go_ret
      exact ⟨rfl, ⟨_, rfl⟩⟩

/-! ### the bounds: zzBytes_FnPickHeadMatchesSpec (21) -/
/-- Every name and id is short. -/
def Short (l : List R) (n : Nat) : Prop := ∀ k, k < n → (nm l k).size ≤ 1048576 ∧ (Plain.id l k).size ≤ 1048576

theorem Short.step {l : List R} {k : Nat} (h : Short l k) (h1 : (nm l k).size ≤ 1048576) (h2 : (Plain.id l k).size ≤ 1048576) : Short l (k + 1) := by
  intro j hj
  by_cases e : j = k
  · rw [e]; exact ⟨h1, h2⟩
  · exact h j (by omega)

set_option maxHeartbeats 2000000 in
theorem bytes21 (s t : ByteArray) (ao : Option Addr) (c : Nat) (l : List R) (w : World) (hs : s.size ≤ maxLen) (ht : t.size ≤ maxLen) (hl : l.length ≤ maxLen) (hsz : ∀ k, k < l.length → (nm l k).size ≤ maxLen ∧ (Plain.id l k).size ≤ maxLen) (hr : RefsAt w ao l) :
    Calls Try.prog 21 #[.string s, .string t, .slice ao l.length c] w fun e w' => (e = .returned (.bool false) ∨ (e = .returned (.bool true) ∧ s.size ≤ 1048576 ∧ t.size ≤ 1048576 ∧ l.length ≤ 1048576 ∧ Hid (Short l l.length))) ∧ w = w' := by
  unfold maxLen at hs ht hl hsz
  have HS := hide hsz
  clear hsz
  by_cases h1 : s.size ≤ 1048576
  · by_cases h2 : t.size ≤ 1048576 ∧ s.size + t.size ≤ 1048576
    · obtain ⟨h2, h3⟩ := h2
      by_cases h4 : l.length ≤ 1048576 ∧ s.size + t.size + l.length ≤ 1048576
      · obtain ⟨h4, h5⟩ := h4
        go_enter Try.func21, Try.ntmps21
        go_wp2
        go_loop [7, 8] (fun z i => ∃ k N : Nat, k ≤ l.length ∧ N ≤ 1048576 ∧ z = .int .i64 N ∧ i = .int .i64 k ∧ Hid (Short l k)) (fun _ i => l.length - (intOf i).toNat)
        case atStart => exact ⟨0, s.size + t.size + l.length, Nat.zero_le _, h5, by go_num, rfl, fun j hj => by omega⟩
        case round =>
          obtain ⟨k, N, hk, hN, rfl, rfl, HF⟩ := hrel
          by_cases hlt : k < l.length
          · rcases hr with rfl | ⟨b, off, rfl, _, hc⟩
            · simp at hlt
            · have c1 := (hc k hlt).1
              have c2 := (hc k hlt).2
              have hz := unhide HS k hlt
              obtain ⟨z1, z2⟩ := hz
              clear hc
              by_cases g1 : (nm l k).size ≤ 1048576 ∧ N + (nm l k).size ≤ 1048576
              · obtain ⟨g1, g2⟩ := g1
                by_cases g3 : (Plain.id l k).size ≤ 1048576 ∧ N + (nm l k).size + (Plain.id l k).size ≤ 1048576
                · obtain ⟨g3, g4⟩ := g3
                  have Hn := hide (Short.step (unhide HF) g1 g3)
                  go_wp2
                  go_round
                  case rel => exact ⟨k + 1, N + (nm l k).size + (Plain.id l k).size, by omega, g4, by go_num, by go_num, Hn⟩
                  case measure => simp [intOf]; omega
                · go_wp2
                  all_goals (go_ret; exact ⟨.inl rfl, rfl⟩)
              · go_wp2
                all_goals (go_ret; exact ⟨.inl rfl, rfl⟩)
          · have hke : k = l.length := by omega
            have Hn : Hid (Short l l.length) := by rw [← hke]; exact HF
            clear hke
            go_wp2
            go_ret
            first | exact ⟨.inr ⟨rfl, h1, h2, h4, Hn⟩, rfl⟩ | exact ⟨.inr rfl, rfl⟩
      · go_enter Try.func21, Try.ntmps21
        go_wp2
        all_goals (go_ret; exact ⟨.inl rfl, rfl⟩)
    · go_enter Try.func21, Try.ntmps21
      go_wp2
      all_goals (go_ret; exact ⟨.inl rfl, rfl⟩)
  · go_enter Try.func21, Try.ntmps21
    go_wp2
    go_ret
    exact ⟨.inl rfl, rfl⟩

/-! ### overB1 (10) -/
set_option maxHeartbeats 4000000 in
theorem over10 (s t u v : ByteArray) (ao ao2 : Option Addr) (c c2 : Nat) (l l2 : List R) (w : World) (hs : s.size ≤ 1048576) (ht : t.size ≤ 1048576) (hu : u.size ≤ 1048576) (hv : v.size ≤ 1048576) (hl : l.length ≤ 1048576) (hl2 : l2.length ≤ 1048576)
    (hsz : Short l l.length) (hsz2 : Short l2 l2.length) (hr : RefsAt w ao l) (hr2 : RefsAt w ao2 l2) :
    Calls Try.prog 10 #[.string s, .string t, .string u, .string v, .slice ao l.length c, .slice ao2 l2.length c2] w fun e w' => (e = .returned (.bool true) ∨ (e = .returned (.bool false) ∧ l.length ≤ 32768 ∧ l2.length ≤ 32768)) ∧ w = w' := by
  have HS := hide hsz
  have HS2 := hide hsz2
  clear hsz hsz2
  by_cases h1 : l.length ≤ 32768 ∧ l2.length ≤ 32768 ∧ s.size + t.size + u.size + v.size + 32 * l.length + 32 * l2.length ≤ 1048576
  · obtain ⟨h1, h2, h3⟩ := h1
    go_enter Try.func10, Try.ntmps10
    go_wp2
    go_loop [13, 14] (fun z i => ∃ k N : Nat, k ≤ l.length ∧ N ≤ 1048576 ∧ z = .int .i64 N ∧ i = .int .i64 k) (fun _ i => l.length - (intOf i).toNat)
    case atStart => exact ⟨0, s.size + t.size + u.size + v.size + 32 * l.length + 32 * l2.length, Nat.zero_le _, h3, by go_num, rfl⟩
    case round =>
      obtain ⟨k, N, hk, hN, rfl, rfl⟩ := hrel
      by_cases hlt : k < l.length
      · rcases hr with rfl | ⟨b, off, rfl, _, hc⟩
        · simp at hlt
        · have c1 := (hc k hlt).1
          have c2 := (hc k hlt).2
          obtain ⟨z1, z2⟩ := unhide HS k hlt
          clear hc
          by_cases g1 : N + (nm l k).size ≤ 1048576
          · by_cases g3 : N + (nm l k).size + (Plain.id l k).size ≤ 1048576
            · go_wp2
              go_round
              case rel => exact ⟨k + 1, N + (nm l k).size + (Plain.id l k).size, by omega, g3, by go_num, by go_num⟩
              case measure => simp [intOf]; omega
            · go_wp2
              all_goals (go_ret; exact ⟨.inl rfl, rfl⟩)
          · go_wp2
            all_goals (go_ret; exact ⟨.inl rfl, rfl⟩)
      · go_wp2
        go_loop [13, 15] (fun z i => ∃ k N : Nat, k ≤ l2.length ∧ N ≤ 1048576 ∧ z = .int .i64 N ∧ i = .int .i64 k) (fun _ i => l2.length - (intOf i).toNat)
        case atStart => exact ⟨0, N, Nat.zero_le _, hN, rfl, rfl⟩
        case round =>
          obtain ⟨k2, N2, hk2, hN2, rfl, rfl⟩ := hrel
          by_cases hlt2 : k2 < l2.length
          · rcases hr2 with rfl | ⟨b, off, rfl, _, hc⟩
            · simp at hlt2
            · have c1 := (hc k2 hlt2).1
              have c2 := (hc k2 hlt2).2
              obtain ⟨z1, z2⟩ := unhide HS2 k2 hlt2
              clear hc
              by_cases g1 : N2 + (nm l2 k2).size ≤ 1048576
              · by_cases g3 : N2 + (nm l2 k2).size + (Plain.id l2 k2).size ≤ 1048576
                · go_wp2
                  go_round
                  case rel => exact ⟨k2 + 1, N2 + (nm l2 k2).size + (Plain.id l2 k2).size, by omega, g3, by go_num, by go_num⟩
                  case measure => simp [intOf]; omega
                · go_wp2
                  all_goals (go_ret; exact ⟨.inl rfl, rfl⟩)
              · go_wp2
                all_goals (go_ret; exact ⟨.inl rfl, rfl⟩)
          · go_wp2
            go_ret
            first | exact ⟨.inr ⟨rfl, h1, h2⟩, rfl⟩ | exact ⟨.inr rfl, rfl⟩
  · go_enter Try.func10, Try.ntmps10
    go_wp2
    all_goals (go_ret; exact ⟨.inl rfl, rfl⟩)

/-! ### headModelB1 (23), over ascending names -/
set_option maxHeartbeats 4000000 in
theorem headModel_walk (hd : ByteArray) (ao : Option Addr) (c : Nat) (l : List R) (w : World) (hA : Asc l) (hl : l.length ≤ 1048576) (hsz : ∀ k, k < l.length → (nm l k).size ≤ maxLen) (hr : RefsAt w ao l) :
    Calls Try.prog 23 #[.string hd, .slice ao l.length c] w fun e w' => e = .returned (.string (pick hd l)) ∧ w = w' := by
  have HS := hide hsz
  have HA := hide hA
  have n1 := hasName_walk ao c l hd w hl hr
  have n2 := hasName_walk ao c l mainB w hl hr
  have N1 := hide n1
  have N2 : Hid (Calls Try.prog 34 #[.slice ao l.length c, .string ⟨#[114, 101, 102, 115, 47, 104, 101, 97, 100, 115, 47, 109, 97, 105, 110]⟩] w fun e w' => e = .returned (.bool (hasName l mainB)) ∧ w = w') := n2
  clear hsz hA n1 n2
  cases e1 : hasName l hd
  · cases e2 : hasName l mainB
    · have HP : Hid (pick hd l = firstBr l) := by unfold Hid pick; rw [e1, e2]; rfl
      rw [e1] at N1
      rw [e2] at N2
      clear e1 e2
      go_enter Try.func23, Try.ntmps23
      go_wp2_with fail
      refine (unhide N1).mono ?_
      rintro e w' ⟨rfl, rfl⟩
      go_wp2_with fail
      refine (unhide N2).mono ?_
      rintro e w' ⟨rfl, rfl⟩
      go_wp2
      go_loop [5, 6, 7] (fun bs fd i => ∃ k : Nat, k ≤ l.length ∧ i = .int .i64 k ∧ ((bs = .string ⟨#[]⟩ ∧ fd = .bool false ∧ Hid (∀ j, j < k → isBr (nm l j) = false)) ∨ (∃ m, m < k ∧ bs = .string (nm l m) ∧ fd = .bool true ∧ Hid (firstBr l = nm l m)))) (fun _ _ i => l.length - (intOf i).toNat)
      case atStart => exact ⟨0, Nat.zero_le _, rfl, .inl ⟨rfl, rfl, fun j hj => by omega⟩⟩
      case round =>
        obtain ⟨k, hk, rfl, hcase⟩ := hrel
        by_cases hlt : k < l.length
        · rcases hr with rfl | ⟨b, off, rfl, _, hc⟩
          · simp at hlt
          · have h1 := (hc k hlt).1
            have h2 := (hc k hlt).2
            clear hc
            have hP := hasPrefix_walk (nm l k) preB w (unhide HS k hlt) (by decide)
            change Calls Try.prog 35 #[.string (nm l k), .string ⟨#[114, 101, 102, 115, 47, 104, 101, 97, 100, 115, 47]⟩] w (fun e w' => e = .returned (.bool (isBr (nm l k))) ∧ w = w') at hP
            rcases hcase with ⟨rfl, rfl, HF⟩ | ⟨m, hm, rfl, rfl, HF⟩
            · cases he : isBr (nm l k)
              · rw [he] at hP
                have Hn : Hid (∀ j, j < k + 1 → isBr (nm l j) = false) := by
                  intro j hj
                  by_cases e : j = k
                  · rw [e]; exact he
                  · exact HF.out j (by omega)
                have HP2 := hide hP
                clear he hP
                go_wp2_with fail
                refine (unhide HP2).mono ?_
                rintro e w' ⟨rfl, rfl⟩
                go_wp2
                go_round
                case rel => exact ⟨k + 1, by omega, by go_num, .inl ⟨rfl, rfl, Hn⟩⟩
                case measure => simp [intOf]; omega
              · rw [he] at hP
                have Hn := hide (firstBr_at l k hlt (unhide HF) he)
                have HP2 := hide hP
                clear he hP
                go_wp2_with fail
                refine (unhide HP2).mono ?_
                rintro e w' ⟨rfl, rfl⟩
                go_wp2
                go_round
                case rel => exact ⟨k + 1, by omega, by go_num, .inr ⟨k, by omega, rfl, rfl, Hn⟩⟩
                case measure => simp [intOf]; omega
            · have hb : Op.bytesLess (nm l k).toList (nm l m).toList = false := by
                rw [less_eq]
                exact bl_asymm _ _ ((unhide HA).lt m k hm hlt)
              have HP2 := hide hP
              clear hP
              go_wp2_with fail
              refine (unhide HP2).mono ?_
              rintro e w' ⟨rfl, rfl⟩
              cases isBr (nm l k)
              all_goals
                go_wp2
                go_round
                case rel => exact ⟨k + 1, by omega, by go_num, .inr ⟨m, by omega, rfl, rfl, HF⟩⟩
                case measure => simp [intOf]; omega
        · rcases hcase with ⟨rfl, rfl, HF⟩ | ⟨m, hm, rfl, rfl, HF⟩
          · have Hn := hide ((unhide HP).trans (firstBr_none l (fun j hj => unhide HF j (by omega))))
            go_wp2
            go_ret
            exact ⟨ret_str Hn.out.symm, rfl⟩
          · have Hn := hide ((unhide HP).trans (unhide HF))
            go_wp2
            go_ret
            exact ⟨ret_str Hn.out.symm, rfl⟩
    · have HP : Hid (pick hd l = mainB) := by unfold Hid pick; rw [e1, e2]; rfl
      rw [e1] at N1
      rw [e2] at N2
      clear e1 e2
      go_enter Try.func23, Try.ntmps23
      go_wp2_with fail
      refine (unhide N1).mono ?_
      rintro e w' ⟨rfl, rfl⟩
      go_wp2_with fail
      refine (unhide N2).mono ?_
      rintro e w' ⟨rfl, rfl⟩
      go_wp2
      go_ret
      exact ⟨ret_str HP.out.symm, rfl⟩
  · have HP : Hid (pick hd l = hd) := by unfold Hid pick; rw [e1]; rfl
    rw [e1] at N1
    clear e1 N2
    go_enter Try.func23, Try.ntmps23
    go_wp2_with fail
    refine (unhide N1).mono ?_
    rintro e w' ⟨rfl, rfl⟩
    go_wp2
    go_ret
    exact ⟨ret_str HP.out.symm, rfl⟩

end Go.Proofs.Qxb6602077a
