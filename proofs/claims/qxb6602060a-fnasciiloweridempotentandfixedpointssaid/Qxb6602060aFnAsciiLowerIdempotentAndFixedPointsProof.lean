/-
  THE PROOF OF 'Rows.FnAsciiLowerIdempotentAndFixedPointsSaid': the walk of the law itself, and the row's step (after the guide's shell; the world behind the call is told by 'Below').
-/
import Derived.Test.Qxb6602060aRows
import Derived.Test.Qxb6602060aLower
import Derived.WalkKit
import Derived.ProofKit
import Derived.OpenShut
import Derived.ShutString
import Derived.ChangeOld
import Derived.Below
import Derived.Deep.QuietTactic
import Derived.BigQuiet
namespace Go.Proofs.Qxb6602060a.fnAsciiLowerIdempotentAndFixedPoints
open Go.ChangeShapes Go.WideShapes Go.ChangeAt Go.RowKit
open Go.ChangeMaps (open_string shut_string)

theorem own : ownKnob Try.prog.godebug = none := by kernel_rfl

theorem eq_low (s : ByteArray) : (((Plain.low s).toList == s.toList) == !(Plain.hasCap s)) = true := by
  have h := Plain.low_eq_iff s
  rw [← Lib.toList_data, ← Lib.toList_data] at h
  cases hc : Plain.hasCap s
  · have h1 := h.2 hc
    simp [h1]
  · have h1 : ¬ (Plain.low s).toList = s.toList := fun e => by rw [h.1 e] at hc; cases hc
    simp [h1]

set_option maxHeartbeats 1000000 in
set_option maxRecDepth 100000 in
theorem main (s : ByteArray) (w : World) (hs : s.size ≤ 1048576) :
    Calls Try.prog 5 #[.string s] w fun e w' => e = .returned (.bool true) ∧ Below w.heap.size w w' := by
  have hL1 := ZZasciiLower s w hs
  have hL2 := fun w => ZZasciiLower (Plain.low s) w (by rw [Plain.low_size]; exact hs)
  rw [Plain.low_low] at hL2
  have hC := fun w => hasCapital s w (by unfold maxLen; omega)
  have hE := eq_low s
  generalize Plain.low s = g at *
  generalize Plain.hasCap s = C at *
  generalize hB : (g.toList == s.toList) = B at hE
  have hgg : (g.toList == g.toList) = true := by simp
  have H1 := hide hL1
  have H2 := hide hL2
  have HC := hide hC
  clear hL1 hL2 hC
  go_enter Try.func5, Try.ntmps5
  go_wp2_with fail
  refine (bytes11_yes s _ hs).mono ?_
  rintro e w1 ⟨rfl, rfl⟩
  go_wp2_with fail
  refine (unhide H1).mono ?_
  rintro e w1 ⟨rfl, hb1⟩
  go_wp2_with fail
  refine (unhide H2 _).mono ?_
  rintro e w2 ⟨rfl, hb2⟩
  have Hb := hide (hb1.trans (hb2.mono hb1.size))
  clear hb1 hb2
  go_wp2_with fail
  refine (unhide HC _).mono ?_
  rintro e w3 ⟨rfl, rfl⟩
  go_wp2
  go_ret
  exact ⟨rfl, unhide Hb⟩

theorem walk (s : ByteArray) (w : World) (_hm : s.size ≤ maxLen) :
    Calls Try.prog 5 #[.string s] w fun e w' => e = .returned (.bool true) ∧ Below w.heap.size w w' := by
  by_cases hs : s.size ≤ 1048576
  · exact main s w hs
  · go_enter Try.func5, Try.ntmps5
    go_wp2_with (go_at_call 11; refine (bytes11_no s _ (by omega)).mono ?_; rintro e w1 ⟨rfl, rfl⟩)
    go_ret
    exact ⟨rfl, Below.refl _ _⟩


set_option maxRecDepth 100000 in
theorem lifted (os : Os) (started : os.Started) (H : Type) (enc : TypeId × Value → H) :
    ReturnsInHanded {} Try.checked os 5 .any (Rows.fnAsciiLowerIdempotentAndFixedPointsSpec.pre6 enc Try.prog Try.f5 Rows.fnAsciiLowerIdempotentAndFixedPointsRow.domain false) (Rows.fnAsciiLowerIdempotentAndFixedPointsSpec.post enc Try.prog Try.f5 false true false false) := by
  refine returnsInHanded_of_change (C := Try.checked) own started (by kernel_rfl) Try.func5
    (ChangeSpec.witness6 (enc := enc) (C := Try.checked) false ⟨#[], #[.string ByteArray.empty], []⟩ 8 (by kernel_rfl) (by kernel_rfl) (by kernel_rfl) (by kernel_rfl)) ?_
  intro W base args ds gs before hval0 hW hcnd _
  have hval : ∀ (j : Nat) t v, Try.f5.params[j]? = some t → args[j]? = some v → Value.okWide Try.prog W .any base t v := hval0
  have hW' := hW
  obtain ⟨p, q, hA0, hV, rfl, hfz, hnd⟩ := hW
  have hA : DataW.TrodAll enc Try.prog W 0 (fun _ => true) true Try.f5.params.toList args.toList ds p := hA0
  rw [Try.params5] at hA hval
  obtain ⟨v0, vs0, d0, ds0, p0, q0, hargs, rfl, rfl, h0, r0⟩ := trodAll_cons hA
  obtain ⟨rfl, rfl, rfl⟩ := trodAll_nil r0
  obtain rfl : args = #[v0] := by cases args; simp_all
  obtain ⟨rfl, rfl⟩ := trodVars_none hV
  obtain ⟨a0, rfl, rfl, rfl, w0⟩ := open_string Try.underlying9 (hval 0 9 v0 rfl rfl) h0
  clear hA0 hval0
  refine (walk a0 W w0).mono fun e W' ⟨he, bel⟩ => ?_
  subst he
  exact ⟨_, rfl, _, _, _, [], _, [], hW', trodAll_mk1 (shut_bool Try.underlying4 _), (trodAll_cons_mk (shut_string Try.underlying9 w0) trodAll_mk0), rfl, bel.frame _, fun h => by cases h⟩

theorem over : Rows.fnAsciiLowerIdempotentAndFixedPointsRow.holds Try.pinned (OpenSpec.ofChange Rows.fnAsciiLowerIdempotentAndFixedPointsSpec) :=
  OpenClaim.holds_of_wide 5 Try.f5 rfl rfl rfl rfl rfl rfl rfl ⟨rfl, rfl, rfl, rfl, rfl⟩ rfl rfl rfl rfl rfl (by kernel_rfl) Try.func5 (by kernel_rfl)
    (of_decide_eq_true (by kernel_rfl)) (by unfold Func.isWrapper; first | (rw [if_pos (by decide +kernel)]; kernel_rfl) | (rw [if_neg (by decide +kernel)]; exact ⟨rfl, rfl⟩))
    (fun os started H enc _ => lifted os started H enc)

/-- THE STATEMENT -/
theorem proved : Rows.FnAsciiLowerIdempotentAndFixedPointsSaid := over
#print axioms proved
end Go.Proofs.Qxb6602060a.fnAsciiLowerIdempotentAndFixedPoints
