/-
  WALKS of the seat b6602077a: (*state).set (30), ZZSet (14), ZZLookup (28).
-/
import Derived.Test.Qxb6602077aInsert
namespace Go.Proofs.Qxb6602077a
open Go.RowKit Plain

/-- The refs behind set(x, d). -/
def setL (l : List R) (x d : ByteArray) : List R :=
  if hasName l x then (if (by' d).isEmpty then l.take (pos l x) ++ l.drop (pos l x + 1) else l.take (pos l x) ++ [(x, d)] ++ l.drop (pos l x + 1))
  else (if (by' d).isEmpty then l else l.take (pos l x) ++ [(x, d)] ++ l.drop (pos l x))

theorem state_store {B sb : Nat} {fmt hd : ByteArray} {v v' p u : Value} {l' : List R} {w : World} (hB : B ≤ sb) (h : w.heap[sb]? = some (.cells #[.string fmt, .string hd, v, p, u] 48 (0, 0))) (hown : w.ownsRow B 51 2 v' l'.length (flat l')) :
    StateAt B sb fmt hd l' (w.setCell ⟨sb, 2, none⟩ v') ∧ Below B w (w.setCell ⟨sb, 2, none⟩ v') := by
  refine ⟨⟨hB, v', p, u, setCell_block_same h v', ?_⟩, (Below.refl _ _).setCell hB _⟩
  refine hown.kept (row := some sb) ⟨rfl, rfl, rfl, by simp, fun k _ hk => Below.heap_setCell _ _ _ _ (fun e => hk (by simp [e]))⟩ ?_
  right
  rcases hown.2 with ⟨rfl, _⟩ | ⟨g, cap, cur, rfl, _, hg, _⟩
  · simp [Value.ownBlock]
  · intro e
    simp only [Value.ownBlock, Option.some.injEq] at e
    rw [e, h] at hg
    simp at hg

theorem own_ne {B sb : Nat} {cs : Array Value} {v : Value} {n : Nat} {xs : List Value} {w : World} (h : w.heap[sb]? = some (.cells cs 48 (0, 0))) (hown : w.ownsRow B 51 2 v n xs) : v.ownBlock ≠ some sb := by
  rcases hown.2 with ⟨rfl, _⟩ | ⟨g, cap, cur, rfl, _, hg, _⟩
  · simp [Value.ownBlock]
  · intro e
    simp only [Value.ownBlock, Option.some.injEq] at e
    rw [e, h] at hg
    simp at hg

theorem flat_setId (l : List R) (k : Nat) (hk : k < l.length) (d : ByteArray) : (flat l).set (k * 2 + 1) (.string d) = flat (l.take k ++ [(nm l k, d)] ++ l.drop (k + 1)) := by
  have e : l = l.take k ++ [rf l k] ++ l.drop (k + 1) := by
    rw [← take_step l k hk, List.take_append_drop]
  have e2 : flat l = flat (l.take k) ++ ([.string (nm l k), .string (Plain.id l k)] ++ flat (l.drop (k + 1))) := by
    rw [show flat l = flat (l.take k ++ [rf l k] ++ l.drop (k + 1)) from by rw [← e], flat_append, flat_append, List.append_assoc]
    rfl
  have hlen : (flat (l.take k)).length = k * 2 := by rw [flat_length, List.length_take]; omega
  rw [e2, List.set_append_right _ _ (by rw [hlen]; omega), hlen, flat_append, flat_append, List.append_assoc]
  have e3 : k * 2 + 1 - k * 2 = 1 := by omega
  rw [e3]
  rfl

set_option maxHeartbeats 4000000 in
theorem set30 {B sb : Nat} {fmt hd : ByteArray} {l : List R} {w : World} (h : StateAt B sb fmt hd l w) (x d : ByteArray) (hA : Asc l) (hl : l.length ≤ 1048576) (hB : B ≤ w.heap.size) :
    Calls Try.prog 30 #[.pointer (some ⟨sb, 0, none⟩), .string x, .string d] w fun e w' => e = .returned (.tuple #[]) ∧ StateAt B sb fmt hd (setL l x d) w' ∧ Below B w w' := by
  have HF := hide (find38 h x hA hl)
  have hfo := (hA.found x).1
  have HS := hide h
  have HA := hide hA
  have hple := pos_le l x
  clear h hA
  cases e1 : hasName l x
  · -- x is no name
    rw [e1] at HF
    cases e2 : (by' d).isEmpty
    · -- insert
      have HP : Hid (setL l x d = l.take (pos l x) ++ [(x, d)] ++ l.drop (pos l x)) := by unfold Hid setL; rw [e1, e2]; rfl
      have hde : d.toList.isEmpty = false := by rw [tl]; exact e2
      clear e1 e2 hfo
      generalize pos l x = k at *
      go_enter Try.func30, Try.ntmps30
      go_wp2_with fail
      refine (unhide HF).mono ?_
      rintro e w1 ⟨rfl, hb1⟩
      have st1 := (unhide HS).below hb1
      obtain ⟨hsb, v, p, u, hbk, hown⟩ := st1
      have hz1 := hb1.size
      have hlt : sb < w1.heap.size := (Array.getElem?_eq_some_iff.1 hbk).1
      have hown2 := hown.alloc (.cells #[.string x, .string d] 51)
      have hvb : v.ownBlock ≠ some w1.heap.size := by
        intro e
        have := (hown.lt _ e).2
        omega
      have HI := hide (insert40 (vb := w1.heap.size) (i := k) (x := x) (d := d) hown2 hl hple (heap_alloc_new w1 _) hvb (by simp; omega))
      obtain ⟨ao, c, rfl, hr⟩ := own_refs hown
      have c2 : w1.cell? ⟨sb, 2, none⟩ = some (.slice ao l.length c) := by rw [cell_row hbk]; rfl
      have HO := hide (And.intro hbk hown)
      have Hb1 := hide (hb1.mono hB)
      clear hb1 hbk hown hr hown2 hvb HF
      go_wp2_with fail
      refine (unhide HI).mono ?_
      rintro e w2 ⟨v', rfl, hown3, hgr⟩
      have hbk2 : w2.heap[sb]? = _ := (hgr.block sb (by simp; omega) (own_ne (unhide HO).1 (unhide HO).2).symm).trans ((Below.heap_alloc w1 _ sb hlt).trans (unhide HO).1)
      have hl2 : (l.take k ++ [(x, d)] ++ l.drop k).length = l.length + 1 := by simp; omega
      rw [← hl2] at hown3
      have H2 := hide (state_store hsb hbk2 hown3)
      obtain ⟨ao2, cc2, rfl, _⟩ := own_refs hown3
      have cS : w2.cell? ⟨sb, 2, none⟩ = some (.slice ao l.length c) := by rw [cell_row hbk2]; rfl
      have fS : w2.frozen? ⟨sb, 2, none⟩ = false := by simp [World.frozen?, hbk2]
      have Hb2 := hide (Below.grown ((unhide Hb1).alloc (o := .cells #[.string x, .string d] 51) (by omega)) hgr (by simp; omega) (fun j hj => ((unhide HO).2.lt j hj).1))
      clear hown3 hgr hbk2 HI hl2
      generalize (l.take k ++ [(x, d)] ++ l.drop k).length = n2 at *
      go_wp2
      go_end0
      exact ⟨rfl, by rw [unhide HP]; exact (unhide H2).1, (unhide Hb2).trans (unhide H2).2⟩
    · -- nothing
      have HP : Hid (setL l x d = l) := by unfold Hid setL; rw [e1, e2]; rfl
      have hde : d.toList.isEmpty = true := by rw [tl]; exact e2
      clear e1 e2 hfo
      generalize pos l x = k at *
      go_enter Try.func30, Try.ntmps30
      go_wp2_with fail
      refine (unhide HF).mono ?_
      rintro e w1 ⟨rfl, hb1⟩
      have st1 := hide ((unhide HS).below hb1)
      have Hb1 := hide (hb1.mono hB)
      clear hb1 HF
      go_wp2
      go_end0
      exact ⟨rfl, by rw [unhide HP]; exact unhide st1, unhide Hb1⟩
  · -- x is a name
    obtain ⟨hlt0, hnm⟩ := hfo e1
    rw [e1] at HF
    have hx : nm l (pos l x) = x := by_inj hnm
    have HX := hide hx
    clear hx hnm hfo
    cases e2 : (by' d).isEmpty
    · -- the id is written
      have HP : Hid (setL l x d = l.take (pos l x) ++ [(nm l (pos l x), d)] ++ l.drop (pos l x + 1)) := by unfold Hid setL; rw [e1, e2, unhide HX]; rfl
      have hde : d.toList.isEmpty = false := by rw [tl]; exact e2
      clear e1 e2 HX
      generalize pos l x = k at *
      go_enter Try.func30, Try.ntmps30
      go_wp2_with fail
      refine (unhide HF).mono ?_
      rintro e w1 ⟨rfl, hb1⟩
      have st1 := (unhide HS).below hb1
      obtain ⟨hsb, v, p, u, hbk, hown⟩ := st1
      have hz1 := hb1.size
      rcases hown.2 with ⟨rfl, h0⟩ | ⟨g, cap, cur, rfl, hBg, hg, hnc, hcm, hcs, htake⟩
      · omega
      have c2 : w1.cell? ⟨sb, 2, none⟩ = some (.slice (some ⟨g, 0, none⟩) l.length cap) := by rw [cell_row hbk]; rfl
      have hst := hown.stored (k * 2 + 1) (.string d)
      rw [flat_setId l k hlt0 d] at hst
      have hl2 : (l.take k ++ [(nm l k, d)] ++ l.drop (k + 1)).length = l.length := by simp; omega
      have hgs : sb ≠ g := by
        intro e
        rw [← e, hbk] at hg
        simp at hg
      have H2 : Hid (StateAt B sb fmt hd (l.take k ++ [(nm l k, d)] ++ l.drop (k + 1)) (w1.setCell ⟨g, k * 2 + 1, none⟩ (.string d))) :=
        ⟨hsb, _, p, u, (Below.heap_setCell _ _ _ _ hgs).trans hbk, by rw [hl2]; exact hst.1⟩
      have Hb2 := hide (Below.grown (hb1.mono hB) hst.2 (by omega) (fun j hj => by cases hj; exact hBg))
      have cI : w1.cell? ⟨g, k * 2 + 1, none⟩ = some (.string (Plain.id l k)) := (hown.cellAt _ (by omega)).trans (flat_get l k hlt0).2
      have fI := hown.frozenAt (k * 2 + 1)
      have hk1 : (k : Int) < (l.length : Int) := by omega
      clear hb1 hbk hown hst hg htake hcs HF
      go_wp2
      go_end0
      exact ⟨rfl, by rw [unhide HP]; exact unhide H2, unhide Hb2⟩
    · -- taken away
      have HP : Hid (setL l x d = l.take (pos l x) ++ l.drop (pos l x + 1)) := by unfold Hid setL; rw [e1, e2]; rfl
      have hde : d.toList.isEmpty = true := by rw [tl]; exact e2
      clear e1 e2 HX
      generalize pos l x = k at *
      go_enter Try.func30, Try.ntmps30
      go_wp2_with fail
      refine (unhide HF).mono ?_
      rintro e w1 ⟨rfl, hb1⟩
      have st1 := (unhide HS).below hb1
      obtain ⟨hsb, v, p, u, hbk, hown⟩ := st1
      have hz1 := hb1.size
      rcases hown.2 with ⟨rfl, h0⟩ | ⟨g, cap, cur, rfl, hBg, hg, hnc, hcm, hcs, htake⟩
      · omega
      have c2 : w1.cell? ⟨sb, 2, none⟩ = some (.slice (some ⟨g, 0, none⟩) l.length cap) := by rw [cell_row hbk]; rfl
      have hD := delete39 B g l.length cap k (k + 1) cur w1 hg hcs hnc hcm (by omega) (by omega) (by omega) (by rw [htake]; exact flat_one l) hBg
      have e1 : cur.toList.take (k * 2) = flat (l.take k) := by
        rw [← flat_take l k (by omega), ← htake, List.take_take]
        congr 1
        omega
      rw [htake, e1, flat_drop l (k + 1) (by omega), ← flat_append] at hD
      have hl2 : (l.take k ++ l.drop (k + 1)).length = k + (l.length - (k + 1)) := by simp; omega
      have hc1 : ((k + 1 : Nat) : Int) = (k : Int) + 1 := by omega
      rw [hc1, ← hl2] at hD
      have HD := hide hD
      have hgs : sb ≠ g := by
        intro e
        rw [← e, hbk] at hg
        simp at hg
      have HBK := hide hbk
      have hlt : sb < w1.heap.size := (Array.getElem?_eq_some_iff.1 hbk).1
      have Hb1 := hide (hb1.mono hB)
      have hk1 : (k : Int) + 1 ≤ 9223372036854775807 := by omega
      clear hb1 hbk hown hg htake hcs HF hD e1 hl2 hc1
      go_wp2_with fail
      refine (unhide HD).mono ?_
      rintro e w2 ⟨rfl, hown3, hgr⟩
      have hbk2 : w2.heap[sb]? = _ := (hgr.block sb hlt (by simpa using hgs)).trans (unhide HBK)
      have H2 := hide (state_store hsb hbk2 hown3)
      have cS : w2.cell? ⟨sb, 2, none⟩ = some (.slice (some ⟨g, 0, none⟩) l.length cap) := by rw [cell_row hbk2]; rfl
      have fS : w2.frozen? ⟨sb, 2, none⟩ = false := by simp [World.frozen?, hbk2]
      have Hb2 := hide (Below.grown (unhide Hb1) hgr (by omega) (fun j hj => by cases hj; exact hBg))
      clear hown3 hgr hbk2 HD
      generalize (l.take k ++ l.drop (k + 1)).length = n2 at *
      go_wp2
      go_end0
      exact ⟨rfl, by rw [unhide HP]; exact (unhide H2).1, (unhide Hb2).trans (unhide H2).2⟩

theorem ZZSet14 {B sb : Nat} {fmt hd : ByteArray} {l : List R} {w : World} (h : StateAt B sb fmt hd l w) (x d : ByteArray) (hA : Asc l) (hl : l.length ≤ 1048576) (hB : B ≤ w.heap.size) :
    Calls Try.prog 14 #[.pointer (some ⟨sb, 0, none⟩), .string x, .string d] w fun e w' => e = .returned (.tuple #[]) ∧ StateAt B sb fmt hd (setL l x d) w' ∧ Below B w w' := by
  have HP := hide (set30 h x d hA hl hB)
  clear h hA
  go_enter Try.func14, Try.ntmps14
  go_wp2_with fail
  refine (unhide HP).mono ?_
  rintro e w1 ⟨rfl, h1, hb1⟩
  have H1 := hide (And.intro h1 hb1)
  clear h1 hb1
  go_wp2
  go_end0
  exact ⟨rfl, unhide H1⟩

theorem ZZLookup28 {B sb : Nat} {fmt hd : ByteArray} {l : List R} {w : World} (h : StateAt B sb fmt hd l w) (x : ByteArray) (hA : Asc l) (hl : l.length ≤ 1048576) :
    Calls Try.prog 28 #[.pointer (some ⟨sb, 0, none⟩), .string x] w fun e w' => e = .returned (.tuple #[.string (refId l x), .bool (hasName l x)]) ∧ Below w.heap.size w w' := by
  have HP := hide (ref36 h x hA hl)
  clear h hA
  go_enter Try.func28, Try.ntmps28
  go_wp2_with fail
  refine (unhide HP).mono ?_
  rintro e w1 ⟨rfl, hb1⟩
  go_wp2
  go_ret2
  exact ⟨rfl, hb1⟩

end Go.Proofs.Qxb6602077a
