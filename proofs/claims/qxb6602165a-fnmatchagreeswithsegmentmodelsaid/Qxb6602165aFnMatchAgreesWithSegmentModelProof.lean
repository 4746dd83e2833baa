/-
  THE PROOF OF 'Rows.FnMatchAgreesWithSegmentModelSaid': the walk of the law itself, and the row's step (after the guide's shell; the world behind the call is told by 'Below').
-/
import Derived.Test.Qxb6602165aRows
import Derived.Test.Qxb6602165aModel
import Derived.WalkKit
import Derived.ProofKit
import Derived.OpenShut
import Derived.ChangeOld
import Derived.Below
import Derived.Deep.Slices
namespace Go.Proofs.Qxb6602165a.fnMatchAgreesWithSegmentModel
open Go.ChangeShapes Go.WideShapes Go.ChangeAt Go.RowKit Go.Deep Plain

theorem own : ownKnob Try.prog.godebug = none := by kernel_rfl
theorem laidOut : laidOutB Try.prog = true := by kernel_rfl

set_option maxHeartbeats 4000000 in
theorem walk (p : Nat → Nat) (nm : Nat → ByteArray) (n K : Nat) (ao ao2 : Option Addr) (c c2 : Nat) (w : World) (hn : n ≤ maxLen) (hK : K ≤ maxLen) (hby : ∀ k, p k ≤ 255) (hz : ∀ k, k < K → (nm k).size ≤ maxLen)
    (hnil : ao = none → n = 0 ∧ c = 0) (hnil2 : ao2 = none → K = 0 ∧ c2 = 0) (hr : Row w.heap.size w ao n (pv p)) (hr2 : Row w.heap.size w ao2 K (nv nm)) :
    Calls Try.prog 3 #[.slice ao n c, .slice ao2 K c2] w fun e w' => e = .returned (.bool true) ∧ Below w.heap.size w w' := by
  have H8 := hide (bytes8 (pv p) nm n K ao ao2 c c2 w hn hK hz hr hr2)
  have HZ := hide hz
  have HR := hide (And.intro hr hr2)
  have HN := hide (And.intro hnil hnil2)
  unfold maxLen at hn hK
  clear hz hr hr2 hnil hnil2
  go_enter Try.func3, Try.ntmps3
  go_wp2_with fail
  refine (unhide H8).mono ?_
  rintro e w0 ⟨he, rfl⟩
  rcases he with rfl | rfl
  · go_wp2
    go_ret
    exact ⟨rfl, Below.refl _ _⟩
  clear H8
  by_cases h1 : n ≤ 4096
  · by_cases h2 : K ≤ 4096
    · have H9 := hide (namesFit9 nm n K ao2 c2 w h1 h2 (unhide HZ) (unhide HR).2)
      clear HZ
      go_wp2_with fail
      refine (unhide H9).mono ?_
      rintro e w0 ⟨he, rfl⟩
      rcases he with rfl | ⟨rfl, HF⟩
      · go_wp2
        go_ret
        exact ⟨rfl, Below.refl _ _⟩
      clear H9
      have HP : Hid (Prg p n) := ⟨hby, h1⟩
      have H10 := hide (wellFormed10 p n (unhide HP) ao c w (unhide HR).1)
      go_wp2_with fail
      refine (unhide H10).mono ?_
      rintro e w0 ⟨he, rfl⟩
      rcases he with rfl | ⟨rfl, HWF⟩
      · go_wp2
        go_ret
        exact ⟨rfl, Below.refl _ _⟩
      clear H10
      obtain ⟨M, S, mm, hpath⟩ := wf_all (unhide HWF)
      have HPa := hide hpath
      clear hpath HWF
      have H11 := hide (cloneBytes11 p n ao c w (Nat.le_refl _) h1 (unhide HN).1 (unhide HR).1)
      go_wp2_with fail
      refine (unhide H11).mono ?_
      rintro e w1 ⟨ao', c', rfl, hrow1, hb1⟩
      have H12 := hide (cloneStrings12 nm K ao2 c2 w1 (Nat.le_refl _) h2 (unhide HN).2 (((unhide HR).2.below hb1).mono hb1.size))
      have HB1 := hide hb1
      have HR1 := hide hrow1
      clear hb1 hrow1 H11
      go_wp2_with fail
      refine (unhide H12).mono ?_
      rintro e w2 ⟨ao2', c2', rfl, hrow2, hb2⟩
      have hz2 := hb2.size
      have hz1 := (unhide HB1).size
      have hp2 := ((unhide HR1).below hb2).mono hz2
      have HB2 := hide ((unhide HB1).trans (hb2.mono hz1))
      have H13 := hide (match13 p n (unhide HP) ao' ao2' c' c2' M S mm nm K w2 (Nat.le_refl _) hp2 hrow2 (unhide HPa) h2 (unhide HF))
      have HA2 := hide (And.intro hp2 hrow2)
      clear hp2 hrow2 hb2 H12 HB1 HR1
      go_wp2_with fail
      refine (unhide H13).mono ?_
      rintro e w3 ⟨rfl, hb3⟩
      have H14 := hide (modelMatch14 p n (unhide HP) ao' ao2' c' c2' M S mm nm K w3 (B := w2.heap.size) hb3.size ((unhide HA2).1.below hb3) ((unhide HA2).2.below hb3) (unhide HPa) h2 (fun k hk => (unhide HF k hk).1))
      have HB3 := hide ((unhide HB2).trans (hb3.mono (Nat.le_trans hz1 hz2)))
      have hz3 := hb3.size
      clear hb3 H13 HB2
      generalize pathAcc p n M S mm nm K = r at *
      go_wp2_with fail
      refine (unhide H14).mono ?_
      rintro e w4 ⟨rfl, hb4⟩
      have HB4 := hide ((unhide HB3).trans (hb4.mono (Nat.le_trans hz1 (Nat.le_trans hz2 hz3))))
      clear hb4 H14
      have hrr : (r == r) = true := by simp
      go_wp2
      go_ret
      first | exact ⟨rfl, unhide HB4⟩ | exact ⟨by simp, unhide HB4⟩
    · go_wp2
      go_ret
      exact ⟨rfl, Below.refl _ _⟩
  · go_wp2
    go_ret
    exact ⟨rfl, Below.refl _ _⟩

def num : Value → Nat
  | .int _ n => n.toNat
  | _ => 0
def str : Value → ByteArray
  | .string s => s
  | _ => .empty

theorem open_row {W : World} {a : Addr} {len : Nat} {f : Nat → Value} (h : ∀ k, k < len → W.cell? (a.add k) = some (f k)) : Row W.heap.size W (some a) len f := by
  by_cases hz : len = 0
  · exact .inl hz
  · right
    obtain ⟨b, off, spot⟩ := a
    have h0 := h 0 (by omega)
    have hspot : spot = none := by
      have := World.cell?_spot h0
      simpa [Addr.add] using this
    subst hspot
    refine ⟨b, off, rfl, ?_, fun k hk => ?_⟩
    · have := World.block_lt_of_cell? _ _ h0
      simpa [Addr.add] using this
    · have := h k hk
      rwa [Addr.add_lit] at this

theorem open_bytes {H : Type} {enc : TypeId × Value → H} {W : World} {fuel : Nat} {ao : Option Addr} {len cap : Nat} {x : DataW H × List MemPlace}
    (h : DataW.trod enc Try.prog W 0 (fun _ => true) true fuel 22 [.slice ao len cap] = some x) :
    ∃ p : Nat → Nat, (∀ k, p k ≤ 255) ∧ Row W.heap.size W ao len (pv p) ∧ len ≤ maxLen ∧ (ao = none → len = 0 ∧ cap = 0) := by
  rcases open_slice1 Try.underlying22 (by kernel_rfl) h with ⟨hc, _⟩ | ⟨a, len', cap', m, n, V, D, Pl, hc, _, hl, hm, hmm, _, hall⟩
  · simp at hc
    obtain ⟨rfl, rfl, rfl⟩ := hc
    exact ⟨fun _ => 0, fun _ => Nat.zero_le _, .inl rfl, Nat.zero_le _, fun _ => ⟨rfl, rfl⟩⟩
  · simp at hc
    obtain ⟨rfl, rfl, rfl⟩ := hc
    simp only [if_true] at hmm
    subst hmm
    have hs : ∀ k, k < len → W.cell? (a.add k) = some (.int .u8 (num (V k) : Int)) ∧ num (V k) ≤ 255 := by
      intro k hk
      obtain ⟨e0, t0⟩ := hall k (by omega)
      obtain ⟨z, h0, _, wf⟩ := DataW.trod_int Try.underlying5 t0
      simp only [List.cons.injEq, and_true] at h0
      have hb := bounds_u8 wf
      rw [h0] at e0 ⊢
      simp only [num]
      rw [Int.toNat_of_nonneg hb.1]
      exact ⟨e0, by omega⟩
    refine ⟨fun k => if k < len then num (V k) else 0, fun k => ?_, open_row fun k hk => ?_, by omega, fun h => by cases h⟩
    · show (if k < len then num (V k) else 0) ≤ 255
      by_cases hk : k < len
      · rw [if_pos hk]; exact (hs k hk).2
      · rw [if_neg hk]; omega
    · show _ = some (Value.int .u8 ((if k < len then num (V k) else 0 : Nat) : Int))
      rw [if_pos hk]
      exact (hs k hk).1

theorem open_names {H : Type} {enc : TypeId × Value → H} {W : World} {fuel : Nat} {ao : Option Addr} {len cap : Nat} {x : DataW H × List MemPlace}
    (h : DataW.trod enc Try.prog W 0 (fun _ => true) true fuel 23 [.slice ao len cap] = some x) :
    ∃ nm : Nat → ByteArray, (∀ k, k < len → (nm k).size ≤ maxLen) ∧ Row W.heap.size W ao len (nv nm) ∧ len ≤ maxLen ∧ (ao = none → len = 0 ∧ cap = 0) := by
  rcases open_slice1 Try.underlying23 (by kernel_rfl) h with ⟨hc, _⟩ | ⟨a, len', cap', m, n, V, D, Pl, hc, _, hl, hm, hmm, _, hall⟩
  · simp at hc
    obtain ⟨rfl, rfl, rfl⟩ := hc
    exact ⟨fun _ => .empty, fun k hk => by omega, .inl rfl, Nat.zero_le _, fun _ => ⟨rfl, rfl⟩⟩
  · simp at hc
    obtain ⟨rfl, rfl, rfl⟩ := hc
    simp only [if_true] at hmm
    subst hmm
    have hs : ∀ k, k < len → W.cell? (a.add k) = some (.string (str (V k))) ∧ (str (V k)).size ≤ maxLen := by
      intro k hk
      obtain ⟨e0, t0⟩ := hall k (by omega)
      obtain ⟨s0, h0, _, z0⟩ := DataW.trod_string Try.underlying9 t0
      simp only [List.cons.injEq, and_true] at h0
      rw [h0] at e0 ⊢
      exact ⟨e0, z0⟩
    exact ⟨fun k => str (V k), fun k hk => (hs k hk).2, open_row fun k hk => (hs k hk).1, by omega, fun h => by cases h⟩

set_option maxRecDepth 100000 in
theorem lifted (os : Os) (started : os.Started) (H : Type) (enc : TypeId × Value → H) :
    ReturnsInHanded {} Try.checked os 3 .any (Rows.fnMatchAgreesWithSegmentModelSpec.pre6 enc Try.prog Try.f3 Rows.fnMatchAgreesWithSegmentModelRow.domain false) (Rows.fnMatchAgreesWithSegmentModelSpec.post enc Try.prog Try.f3 false true false false) := by
  refine returnsInHanded_of_change (C := Try.checked) own started (by kernel_rfl) Try.func3
    (ChangeSpec.witness6 (enc := enc) (C := Try.checked) false ⟨#[], #[.slice none 0 0, .slice none 0 0], []⟩ 8 (by kernel_rfl) (by kernel_rfl) (by kernel_rfl) (by kernel_rfl)) ?_
  intro W base args ds gs before hval0 hW hcnd _
  have hval : ∀ (j : Nat) t v, Try.f3.params[j]? = some t → args[j]? = some v → Value.okWide Try.prog W .any base t v := hval0
  have hW' := hW
  obtain ⟨p, q, hA0, hV, rfl, hfz, hnd⟩ := hW
  have hA : DataW.TrodAll enc Try.prog W 0 (fun _ => true) true Try.f3.params.toList args.toList ds p := hA0
  rw [Try.params3] at hA hval
  obtain ⟨v0, vs0, d0, ds0, p0, q0, hargs, rfl, rfl, h0, r0⟩ := trodAll_cons hA
  obtain ⟨v1, vs1, d1, ds1, p1, q1, rfl, rfl, rfl, h1, r1⟩ := trodAll_cons r0
  obtain ⟨rfl, rfl, rfl⟩ := trodAll_nil r1
  obtain rfl : args = #[v0, v1] := by cases args; simp_all
  obtain ⟨rfl, rfl⟩ := trodVars_none hV
  obtain ⟨a0, len0, cap0, rfl⟩ := okWide_slice Try.underlying22 (hval 0 22 v0 rfl rfl)
  obtain ⟨a1, len1, cap1, rfl⟩ := okWide_slice Try.underlying23 (hval 1 23 v1 rfl rfl)
  have k0 := h0
  have k1 := h1
  have lt0 : ∀ x ∈ p0, x.block < W.heap.size := by obtain ⟨m, hm⟩ := k0; exact DataW.trod_lt m _ _ _ hm
  have lt1 : ∀ x ∈ p1, x.block < W.heap.size := by obtain ⟨m, hm⟩ := k1; exact DataW.trod_lt m _ _ _ hm
  obtain ⟨pf, hby, hr0, n0, z0⟩ : ∃ p : Nat → Nat, (∀ k, p k ≤ 255) ∧ Row W.heap.size W a0 len0 (pv p) ∧ len0 ≤ maxLen ∧ (a0 = none → len0 = 0 ∧ cap0 = 0) := by
    obtain ⟨fuel, hf⟩ := h0
    exact open_bytes hf
  obtain ⟨nm, hsz, hr1, n1, z1⟩ : ∃ nm : Nat → ByteArray, (∀ k, k < len1 → (nm k).size ≤ maxLen) ∧ Row W.heap.size W a1 len1 (nv nm) ∧ len1 ≤ maxLen ∧ (a1 = none → len1 = 0 ∧ cap1 = 0) := by
    obtain ⟨fuel, hf⟩ := h1
    exact open_names hf
  clear hA0 hval0
  refine (walk pf nm len0 len1 a0 a1 cap0 cap1 W n0 n1 hby hsz z0 z1 hr0 hr1).mono fun e W' ⟨he, bel⟩ => ?_
  subst he
  exact ⟨_, rfl, _, _, _, [], _, [], hW', trodAll_mk1 (shut_bool Try.underlying4 _), (trodAll_cons_mk (Below.trod laidOut (by kernel_rfl) (of_decide_eq_true (by kernel_rfl)) k0 bel lt0) (trodAll_cons_mk (Below.trod laidOut (by kernel_rfl) (of_decide_eq_true (by kernel_rfl)) k1 bel lt1) trodAll_mk0)), rfl, bel.frame _, fun h => by cases h⟩

theorem over : Rows.fnMatchAgreesWithSegmentModelRow.holds Try.pinned (OpenSpec.ofChange Rows.fnMatchAgreesWithSegmentModelSpec) :=
  OpenClaim.holds_of_wide 3 Try.f3 rfl rfl rfl rfl rfl rfl rfl ⟨rfl, rfl, rfl, rfl, rfl⟩ rfl rfl rfl rfl rfl (by kernel_rfl) Try.func3 (by kernel_rfl)
    (of_decide_eq_true (by kernel_rfl)) (by unfold Func.isWrapper; first | (rw [if_pos (by decide +kernel)]; kernel_rfl) | (rw [if_neg (by decide +kernel)]; exact ⟨rfl, rfl⟩))
    (fun os started H enc _ => lifted os started H enc)

/-- THE STATEMENT -/
theorem proved : Rows.FnMatchAgreesWithSegmentModelSaid := over
#print axioms proved
end Go.Proofs.Qxb6602165a.fnMatchAgreesWithSegmentModel
