/-
  WALKS of the seat b6602077a: the binary search by name.
-/
import Derived.Test.Qxb6602077aRead
import Derived.Deep.LoopGhost
namespace Go.Proofs.Qxb6602077a
open Go.RowKit Plain

theorem closure43 (a b x : ByteArray) (w : World) :
    Calls Try.prog 43 #[.agg #[.string a, .string b], .string x] w fun e w' => e = .returned (.int .i64 (Lib.compareBytes (by' a) (by' x))) ∧ Below w.heap.size w w' := by
  go_enter Try.func43, Try.ntmps43
  go_wp2_with (go_at_call 44; refine (Try.strings_Compare a x _).mono ?_; rintro e w' ⟨rfl, rfl⟩)
  go_ret
  exact ⟨rfl, (Below.refl _ _).alloc (Nat.le_refl _) _⟩

set_option maxHeartbeats 4000000 in
set_option maxRecDepth 1000000 in
theorem search42 (ao : Option Addr) (c : Nat) (l : List R) (x : ByteArray) (w : World) (hA : Asc l) (hl : l.length ≤ 1048576) (hr : RefsAt w ao l) :
    Calls Try.prog 42 #[.slice ao l.length c, .string x, .func (.func 43) #[] #[]] w fun e w' => e = .returned (.tuple #[.int .i64 (pos l x), .bool (hasName l x)]) ∧ Below w.heap.size w w' := by
  have HA := hide hA
  have HR := hide hr
  clear hA hr
  go_enter Try.func42, Try.ntmps42
  go_wp2
  go_loopw [9, 10] (fun s9 s10 wr => ∃ lo hi : Nat, s9 = .int .i64 lo ∧ s10 = .int .i64 hi ∧ lo ≤ hi ∧ hi ≤ l.length ∧ Hid (Below w.heap.size w wr) ∧ Hid ((∀ t, t < lo → Op.bytesLess (by' (nm l t)) (by' x) = true) ∧ (∀ t, hi ≤ t → t < l.length → Op.bytesLess (by' (nm l t)) (by' x) = false))) (fun s9 s10 _ => (intOf s10).toNat - (intOf s9).toNat)
  case atStart => exact ⟨0, l.length, rfl, rfl, Nat.zero_le _, Nat.le_refl _, Below.refl _ _, fun t ht => by omega, fun t h1 h2 => by omega⟩
  case round =>
    obtain ⟨lo, hi, rfl, rfl, hlh, hin, HW, HI⟩ := hrel
    have hr2 := (unhide HR).below (unhide HW)
    by_cases hlt : lo < hi
    · rcases hr2 with rfl | ⟨b, off, rfl, _, hc⟩
      · simp at hin; omega
      · have hm : (lo + hi) / 2 < l.length := by omega
        have h1 := (hc ((lo + hi) / 2) hm).1
        have h2 := (hc ((lo + hi) / 2) hm).2
        clear hc
        have hcl := closure43 (nm l ((lo + hi) / 2)) (Plain.id l ((lo + hi) / 2)) x wr
        have hneg := cmp_neg (by' (nm l ((lo + hi) / 2))) (by' x)
        generalize hy : Lib.compareBytes (by' (nm l ((lo + hi) / 2))) (by' x) = y at hcl hneg
        clear hy
        have HC := hide hcl
        clear hcl
        cases he : Op.bytesLess (by' (nm l ((lo + hi) / 2))) (by' x)
        · have hy0 : ¬ y < 0 := by rw [hneg, he]; simp
          have Hn : Hid ((∀ t, t < lo → Op.bytesLess (by' (nm l t)) (by' x) = true) ∧ (∀ t, (lo + hi) / 2 ≤ t → t < l.length → Op.bytesLess (by' (nm l t)) (by' x) = false)) := by
            refine ⟨(unhide HI).1, fun t h3 h4 => ?_⟩
            by_cases e : t = (lo + hi) / 2
            · rw [e]; exact he
            · cases hb : Op.bytesLess (by' (nm l t)) (by' x)
              · rfl
              · rw [bl_trans _ _ _ ((unhide HA).lt _ t (by omega) h4) hb] at he
                cases he
          clear he hneg
          go_wp2_with fail
          refine (unhide HC).mono ?_
          rintro e w1 ⟨rfl, hb1⟩
          have Hb1 := hide ((unhide HW).trans (hb1.mono (unhide HW).size))
          clear hb1
          go_wp2
          go_roundw
          case rel => exact ⟨lo, (lo + hi) / 2, rfl, by go_num, by omega, by omega, Hb1, Hn⟩
          case measure => simp [intOf]; omega
        · have hy0 : y < 0 := by rw [hneg, he]
          have Hn : Hid ((∀ t, t < (lo + hi) / 2 + 1 → Op.bytesLess (by' (nm l t)) (by' x) = true) ∧ (∀ t, hi ≤ t → t < l.length → Op.bytesLess (by' (nm l t)) (by' x) = false)) := by
            refine ⟨fun t h3 => ?_, (unhide HI).2⟩
            by_cases e : t = (lo + hi) / 2
            · rw [e]; exact he
            · exact bl_trans _ _ _ ((unhide HA).lt t _ (by omega) hm) he
          clear he hneg
          go_wp2_with fail
          refine (unhide HC).mono ?_
          rintro e w1 ⟨rfl, hb1⟩
          have Hb1 := hide ((unhide HW).trans (hb1.mono (unhide HW).size))
          clear hb1
          go_wp2
          go_roundw
          case rel => exact ⟨(lo + hi) / 2 + 1, hi, by go_num, rfl, by omega, by omega, Hb1, Hn⟩
          case measure => simp [intOf]; omega
    · obtain rfl : hi = lo := by omega
      have Hp := hide (pos_eq l x hi hin (unhide HI).1 (unhide HI).2)
      have Hf := hide ((unhide HA).foundB x)
      rw [unhide Hp] at Hf
      by_cases hn : hi < l.length
      · rcases hr2 with rfl | ⟨b, off, rfl, _, hc⟩
        · simp at hn
        · have h1 := (hc hi hn).1
          have h2 := (hc hi hn).2
          clear hc
          have hcl := closure43 (nm l hi) (Plain.id l hi) x wr
          have hz := cmp_zero (by' (nm l hi)) (by' x)
          generalize hy : Lib.compareBytes (by' (nm l hi)) (by' x) = y at hcl hz
          clear hy
          have HC := hide hcl
          have Hz : Hid (hasName l x = (y == 0)) := by
            unfold Hid
            rw [unhide Hf, Bool.eq_iff_iff]
            simp [hn, hz]
          clear hcl hz
          go_wp2_with fail
          refine (unhide HC).mono ?_
          rintro e w1 ⟨rfl, hb1⟩
          have Hb1 := hide ((unhide HW).trans (hb1.mono (unhide HW).size))
          clear hb1
          go_wp2
          go_ret2
          exact ⟨by rw [unhide Hp, unhide Hz]; rfl, unhide Hb1⟩
      · have Hz : Hid (hasName l x = false) := by
          unfold Hid
          rw [unhide Hf]
          simp [hn]
        clear hr2
        go_wp2
        go_ret2
        exact ⟨by rw [unhide Hp, unhide Hz]; rfl, unhide HW⟩

/-! ### the state in memory -/
/-- The cells of refs in a row. -/
def flat (l : List R) : List Value := l.flatMap fun r => [.string r.1, .string r.2]

theorem flat_length : ∀ l : List R, (flat l).length = l.length * 2
  | [] => rfl
  | r :: l => by
    have := flat_length l
    simp only [flat, List.flatMap_cons, List.length_append, List.length_cons, List.length_nil] at this ⊢
    omega

theorem flat_get : ∀ (l : List R) (k : Nat), k < l.length → (flat l)[k * 2]? = some (.string (nm l k)) ∧ (flat l)[k * 2 + 1]? = some (.string (Plain.id l k))
  | [], k, h => by simp at h
  | r :: l, 0, _ => by simp [flat, nm, Plain.id, rf]
  | r :: l, k + 1, h => by
    have ih := flat_get l k (by simpa using h)
    have e1 : (k + 1) * 2 = k * 2 + 2 := by omega
    have e2 : (k + 1) * 2 + 1 = k * 2 + 1 + 2 := by omega
    rw [e1]
    simpa [flat, nm, Plain.id, rf] using ih

theorem below_grownBy {w w' : World} (h : Below w.heap.size w w') : w.grownBy w' none := ⟨h.os, h.tape, h.output, h.size, fun k hk _ => h.block k hk⟩

theorem own_refs {w : World} {B : Nat} {e : TypeId} {v : Value} {l : List R} (h : w.ownsRow B e 2 v l.length (flat l)) : ∃ ao c, v = .slice ao l.length c ∧ RefsAt w ao l := by
  rcases h.2 with ⟨rfl, hn⟩ | ⟨g, cap, cur, rfl, hb, hg, hnc, hm, hs, ht⟩
  · exact ⟨none, 0, by rw [hn], .inl (List.eq_nil_of_length_eq_zero hn)⟩
  · refine ⟨_, _, rfl, .inr ⟨g, 0, rfl, (Array.getElem?_eq_some_iff.1 hg).1, fun k hk => ?_⟩⟩
    have h1 := h.cellAt (k * 2) (by omega)
    have h2 := h.cellAt (k * 2 + 1) (by omega)
    obtain ⟨f1, f2⟩ := flat_get l k hk
    rw [f1] at h1
    rw [f2] at h2
    simp only [Nat.zero_add]
    exact ⟨h1, h2⟩

/-- A state lies in block sb: its format, its head, its refs in a row of its own. -/
def StateAt (B sb : Nat) (fmt hd : ByteArray) (l : List R) (w : World) : Prop :=
  B ≤ sb ∧ ∃ v p u, w.heap[sb]? = some (.cells #[.string fmt, .string hd, v, p, u] 48 (0, 0)) ∧ w.ownsRow B 51 2 v l.length (flat l)

theorem StateAt.lt {B sb : Nat} {fmt hd : ByteArray} {l : List R} {w : World} (h : StateAt B sb fmt hd l w) : sb < w.heap.size := by
  obtain ⟨_, v, p, u, h1, _⟩ := h
  exact (Array.getElem?_eq_some_iff.1 h1).1

theorem StateAt.below {B sb : Nat} {fmt hd : ByteArray} {l : List R} {w w' : World} (h : StateAt B sb fmt hd l w) (hb : Below w.heap.size w w') : StateAt B sb fmt hd l w' := by
  have hlt := h.lt
  obtain ⟨h0, v, p, u, h1, h2⟩ := h
  exact ⟨h0, v, p, u, (hb.block sb hlt).trans h1, h2.kept (below_grownBy hb) (by cases v.ownBlock <;> simp)⟩

/-- What a walk reads of a state. -/
theorem StateAt.cells {B sb : Nat} {fmt hd : ByteArray} {l : List R} {w : World} (h : StateAt B sb fmt hd l w) :
    ∃ ao c, RefsAt w ao l ∧ w.cell? ⟨sb, 0, none⟩ = some (.string fmt) ∧ w.cell? ⟨sb, 1, none⟩ = some (.string hd) ∧ w.cell? ⟨sb, 2, none⟩ = some (.slice ao l.length c) ∧ w.frozen? ⟨sb, 1, none⟩ = false := by
  obtain ⟨h0, v, p, u, h1, h2⟩ := h
  obtain ⟨ao, c, rfl, hr⟩ := own_refs h2
  exact ⟨ao, c, hr, by simp [World.cell?, h1], by simp [World.cell?, h1], by simp [World.cell?, h1], by simp [World.frozen?, h1]⟩

/-- A store into the head. -/
theorem StateAt.setHead {B sb : Nat} {fmt hd : ByteArray} {l : List R} {w : World} (h : StateAt B sb fmt hd l w) (x : ByteArray) : StateAt B sb fmt x l (w.setCell ⟨sb, 1, none⟩ (.string x)) ∧ Below B w (w.setCell ⟨sb, 1, none⟩ (.string x)) := by
  obtain ⟨h0, v, p, u, h1, h2⟩ := h
  refine ⟨⟨h0, v, p, u, ?_, ?_⟩, (Below.refl _ _).setCell h0 _⟩
  · simp [World.setCell, Array.getElem?_modify, h1]
  · refine h2.kept (row := some sb) ⟨rfl, rfl, rfl, by simp [World.setCell], fun k _ hk => Below.heap_setCell _ _ _ _ (fun e => hk (by simp [e]))⟩ ?_
    right
    rcases h2.2 with ⟨rfl, _⟩ | ⟨g, cap, cur, rfl, _, hg, _⟩
    · simp [Value.ownBlock]
    · intro e
      simp only [Value.ownBlock, Option.some.injEq] at e
      rw [e, h1] at hg
      simp at hg

/-! ### the getters -/
theorem head18 {B sb : Nat} {fmt hd : ByteArray} {l : List R} {w : World} (h : StateAt B sb fmt hd l w) :
    Calls Try.prog 18 #[.pointer (some ⟨sb, 0, none⟩)] w fun e w' => e = .returned (.string hd) ∧ w = w' := by
  obtain ⟨ao, c, _, c0, c1, c2, _⟩ := h.cells
  go_enter Try.func18, Try.ntmps18
  go_wp2
  go_ret
  exact ⟨rfl, rfl⟩

theorem format19 {B sb : Nat} {fmt hd : ByteArray} {l : List R} {w : World} (h : StateAt B sb fmt hd l w) :
    Calls Try.prog 19 #[.pointer (some ⟨sb, 0, none⟩)] w fun e w' => e = .returned (.string fmt) ∧ w = w' := by
  obtain ⟨ao, c, _, c0, c1, c2, _⟩ := h.cells
  go_enter Try.func19, Try.ntmps19
  go_wp2
  go_ret
  exact ⟨rfl, rfl⟩

theorem count31 {B sb : Nat} {fmt hd : ByteArray} {l : List R} {w : World} (h : StateAt B sb fmt hd l w) :
    Calls Try.prog 31 #[.pointer (some ⟨sb, 0, none⟩)] w fun e w' => e = .returned (.int .i64 l.length) ∧ w = w' := by
  obtain ⟨ao, c, _, c0, c1, c2, _⟩ := h.cells
  go_enter Try.func31, Try.ntmps31
  go_wp2
  go_ret
  exact ⟨rfl, rfl⟩

/-! ### find (38), ref (36) -/
theorem find38 {B sb : Nat} {fmt hd : ByteArray} {l : List R} {w : World} (h : StateAt B sb fmt hd l w) (x : ByteArray) (hA : Asc l) (hl : l.length ≤ 1048576) :
    Calls Try.prog 38 #[.pointer (some ⟨sb, 0, none⟩), .string x] w fun e w' => e = .returned (.tuple #[.int .i64 (pos l x), .bool (hasName l x)]) ∧ Below w.heap.size w w' := by
  obtain ⟨ao, c, hr, c0, c1, c2, _⟩ := h.cells
  have HS := hide (search42 ao c l x w hA hl hr)
  clear hr hA
  go_enter Try.func38, Try.ntmps38
  go_wp2_with fail
  refine (unhide HS).mono ?_
  rintro e w1 ⟨rfl, hb1⟩
  go_wp2
  go_ret2
  exact ⟨rfl, hb1⟩

/-- ref's answer. -/
def refId (l : List R) (x : ByteArray) : ByteArray := if hasName l x then Plain.id l (pos l x) else ⟨#[]⟩

set_option maxHeartbeats 1000000 in
theorem ref36 {B sb : Nat} {fmt hd : ByteArray} {l : List R} {w : World} (h : StateAt B sb fmt hd l w) (x : ByteArray) (hA : Asc l) (hl : l.length ≤ 1048576) :
    Calls Try.prog 36 #[.pointer (some ⟨sb, 0, none⟩), .string x] w fun e w' => e = .returned (.tuple #[.string (refId l x), .bool (hasName l x)]) ∧ Below w.heap.size w w' := by
  have HF := hide (find38 h x hA hl)
  have hfo := (hA.found x).1
  have HS := hide h
  clear h hA
  cases e1 : hasName l x
  · have HP : Hid (refId l x = ⟨#[]⟩) := by unfold Hid refId; rw [e1]; rfl
    rw [e1] at HF
    clear e1 hfo
    go_enter Try.func36, Try.ntmps36
    go_wp2_with fail
    refine (unhide HF).mono ?_
    rintro e w1 ⟨rfl, hb1⟩
    go_wp2
    go_ret2
    exact ⟨by rw [unhide HP]; rfl, hb1⟩
  · have HP : Hid (refId l x = Plain.id l (pos l x)) := by unfold Hid refId; rw [e1]; rfl
    obtain ⟨hlt, _⟩ := hfo e1
    rw [e1] at HF
    clear e1 hfo
    generalize pos l x = k at *
    go_enter Try.func36, Try.ntmps36
    go_wp2_with fail
    refine (unhide HF).mono ?_
    rintro e w1 ⟨rfl, hb1⟩
    obtain ⟨ao, c, hr, c0, c1, c2, _⟩ := ((unhide HS).below hb1).cells
    rcases hr with rfl | ⟨b, off, rfl, _, hc⟩
    · simp at hlt
    · have h1 := (hc k hlt).1
      have h2 := (hc k hlt).2
      clear hc
      have Hb1 := hide hb1
      clear hb1
      go_wp2
      go_ret2
      exact ⟨by rw [unhide HP]; rfl, unhide Hb1⟩

theorem refAt32 {B sb : Nat} {fmt hd : ByteArray} {l : List R} {w : World} (h : StateAt B sb fmt hd l w) (k : Nat) (hlt : k < l.length) (hl : l.length ≤ 1048576) :
    Calls Try.prog 32 #[.pointer (some ⟨sb, 0, none⟩), .int .i64 k] w fun e w' => e = .returned (.tuple #[.string (nm l k), .string (Plain.id l k)]) ∧ ∃ n, w' = w.drewN n := by
  obtain ⟨ao, c, hr, c0, c1, c2, _⟩ := h.cells
  rcases hr with rfl | ⟨b, off, rfl, _, hc⟩
  · simp at hlt
  · have h1 := (hc k hlt).1
    have h2 := (hc k hlt).2
    clear hc
    have hk1 : (k : Int) < (l.length : Int) := by omega
    go_enter Try.func32, Try.ntmps32
    go_wp2
    go_quiet (fail)
    go_wp2
    go_ret2
    exact ⟨rfl, ⟨nq, rfl⟩⟩

end Go.Proofs.Qxb6602077a
