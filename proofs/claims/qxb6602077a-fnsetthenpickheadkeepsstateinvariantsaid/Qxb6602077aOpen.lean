/-
  The seat b6602077a: a '[]Ref' argument opened: what the walks ask of it.
-/
import Derived.Test.Qxb6602077aRead
import Derived.ProofKit
import Derived.Deep.SlicePairs
namespace Go.Proofs.Qxb6602077a
open Go.ChangeShapes Go.WideShapes Go.ChangeAt Go.RowKit Go.Deep Plain

def str : Value → ByteArray
  | .string s => s
  | _ => .empty

theorem open_refs {H : Type} {enc : TypeId × Value → H} {W : World} {fuel : Nat} {ao : Option Addr} {len cap : Nat} {x : DataW H × List MemPlace}
    (h : DataW.trod enc Try.prog W 0 (fun _ => true) true fuel 22 [.slice ao len cap] = some x) :
    ∃ l : List R, l.length = len ∧ RefsOld W.heap.size W ao l ∧ len ≤ maxLen ∧ ∀ k, k < l.length → (nm l k).size ≤ maxLen ∧ (Plain.id l k).size ≤ maxLen := by
  rcases open_slice_pairs Try.underlying22 Try.underlying39 (by kernel_rfl) rfl rfl (by kernel_rfl) (by kernel_rfl) h with ⟨hc, _⟩ | ⟨a, len', cap', m, n, V0, V1, D0, D1, P0, P1, hc, _, hl, hm, hmm, _, hall⟩
  · simp at hc
    obtain ⟨rfl, rfl, rfl⟩ := hc
    exact ⟨[], rfl, .inl rfl, Nat.zero_le _, fun k hk => by simp at hk⟩
  · simp at hc
    obtain ⟨rfl, rfl, rfl⟩ := hc
    simp only [if_true] at hmm
    subst hmm
    have hnm : ∀ k, k < len → nm ((List.range len).map fun i => (str (V0 i), str (V1 i))) k = str (V0 k) := fun k hk => by
      rw [nm, rf_eq _ k (by simpa using hk)]
      simp
    have hid : ∀ k, k < len → Plain.id ((List.range len).map fun i => (str (V0 i), str (V1 i))) k = str (V1 k) := fun k hk => by
      rw [Plain.id, rf_eq _ k (by simpa using hk)]
      simp
    have hs : ∀ k, k < len → W.cell? (a.add (k * 2)) = some (.string (str (V0 k))) ∧ W.cell? (a.add (k * 2 + 1)) = some (.string (str (V1 k))) ∧ (str (V0 k)).size ≤ maxLen ∧ (str (V1 k)).size ≤ maxLen := by
      intro k hk
      obtain ⟨e0, e1, t0, t1⟩ := hall k (by omega)
      obtain ⟨s0, h0, _, z0⟩ := DataW.trod_string Try.underlying9 t0
      obtain ⟨s1, h1, _, z1⟩ := DataW.trod_string Try.underlying9 t1
      simp only [List.cons.injEq, and_true] at h0 h1
      rw [h0] at e0 ⊢
      rw [h1] at e1 ⊢
      exact ⟨e0, e1, z0, z1⟩
    refine ⟨(List.range len).map fun i => (str (V0 i), str (V1 i)), by simp, ?_, by omega, fun k hk => ?_⟩
    · by_cases hz : len = 0
      · left
        subst hz
        rfl
      · right
        obtain ⟨b, off, spot⟩ := a
        have hspot : spot = none := by
          have := World.cell?_spot (hs 0 (by omega)).1
          simpa [Addr.add] using this
        subst hspot
        refine ⟨b, off, rfl, ?_, fun k hk => ?_⟩
        · have := World.block_lt_of_cell? _ _ (hs 0 (by omega)).1
          simpa [Addr.add] using this
        · have hk' : k < len := by simpa using hk
          rw [hnm k hk', hid k hk']
          obtain ⟨e0, e1, _, _⟩ := hs k hk'
          rw [← add_plain, Nat.add_assoc, ← add_plain]
          exact ⟨e0, e1⟩
    · have hk' : k < len := by simpa using hk
      rw [hnm k hk', hid k hk']
      exact ⟨(hs k hk').2.2.1, (hs k hk').2.2.2⟩

end Go.Proofs.Qxb6602077a
