/-
  THE PROOF OF 'Rows.FnAsciiLowerEqualExactlyWhenFoldEqualSaid': the walk of the law itself, and the row's step (after the guide's shell; the world behind the call is told by 'Below').
-/
import Derived.Test.Qxb6602060aRows
import Derived.Test.Qxb6602060aLower
import Derived.WalkKit
import Derived.ProofKit
import Derived.OpenShut
import Derived.ShutString
import Derived.ChangeOld
import Derived.Below
import Derived.Deep.QuietTactic
import Derived.BigQuiet
namespace Go.Proofs.Qxb6602060a.fnAsciiLowerEqualExactlyWhenFoldEqual
open Go.ChangeShapes Go.WideShapes Go.ChangeAt Go.RowKit
open Go.ChangeMaps (open_string shut_string)

theorem own : ownKnob Try.prog.godebug = none := by kernel_rfl

theorem beq_low (s t : ByteArray) : decide (Plain.low s = Plain.low t) = ((Plain.low s).toList == (Plain.low t).toList) := by
  rw [Bool.eq_iff_iff]
  simp only [decide_eq_true_eq, beq_iff_eq]
  constructor
  · intro h; rw [h]
  · intro h
    have h1 : (Plain.low s).data.toList = (Plain.low t).data.toList := by
      rw [← Lib.toList_data, ← Lib.toList_data]; exact h
    rw [← Lib.mk_data (Plain.low s), ← Lib.mk_data (Plain.low t), h1]

set_option maxHeartbeats 1000000 in
set_option maxRecDepth 100000 in
theorem main (s t : ByteArray) (w : World) (hs : s.size ≤ 524288) (ht : t.size ≤ 524288) :
    Calls Try.prog 4 #[.string s, .string t] w fun e w' => e = .returned (.bool true) ∧ Below w.heap.size w w' := by
  have hL1 := ZZasciiLower s w (by omega)
  have hL2 := fun w => ZZasciiLower t w (by omega)
  have hF := fun w => foldEqual s t w (by unfold maxLen; omega) (by unfold maxLen; omega)
  rw [beq_low] at hF
  generalize Plain.low s = g1 at *
  generalize Plain.low t = g2 at *
  generalize hB : (g1.toList == g2.toList) = B at hF
  have hBB : (B == B) = true := by simp
  have H1 := hide hL1
  have H2 := hide hL2
  have HF := hide hF
  clear hL1 hL2 hF
  go_enter Try.func4, Try.ntmps4
  go_wp2_with fail
  refine (bytes9_any s t _ (by unfold maxLen; omega) (by unfold maxLen; omega)).mono ?_
  rintro e w1 ⟨⟨b, rfl⟩, rfl⟩
  cases b
  · go_wp2
    go_ret
    exact ⟨rfl, Below.refl _ _⟩
  · go_wp2_with fail
    refine (unhide H1).mono ?_
    rintro e w1 ⟨rfl, hb1⟩
    go_wp2_with fail
    refine (unhide H2 _).mono ?_
    rintro e w2 ⟨rfl, hb2⟩
    have Hb := hide (hb1.trans (hb2.mono hb1.size))
    clear hb1 hb2
    go_wp2_with fail
    refine (unhide HF _).mono ?_
    rintro e w3 ⟨rfl, hw⟩
    rw [← hw]
    clear hw
    go_wp2
    go_ret
    exact ⟨rfl, unhide Hb⟩

theorem walk (s t : ByteArray) (w : World) (hm : s.size ≤ maxLen) (hn : t.size ≤ maxLen) :
    Calls Try.prog 4 #[.string s, .string t] w fun e w' => e = .returned (.bool true) ∧ Below w.heap.size w w' := by
  by_cases hs : s.size ≤ 524288
  · by_cases ht : t.size ≤ 524288
    · exact main s t w hs ht
    · go_enter Try.func4, Try.ntmps4
      go_wp2_with fail
      refine (bytes9_any s t _ hm hn).mono ?_
      rintro e w1 ⟨⟨b, rfl⟩, rfl⟩
      cases b <;> (go_wp2; go_ret; exact ⟨rfl, Below.refl _ _⟩)
  · go_enter Try.func4, Try.ntmps4
    go_wp2_with fail
    refine (bytes9_any s t _ hm hn).mono ?_
    rintro e w1 ⟨⟨b, rfl⟩, rfl⟩
    cases b <;> (go_wp2; go_ret; exact ⟨rfl, Below.refl _ _⟩)


set_option maxRecDepth 100000 in
theorem lifted (os : Os) (started : os.Started) (H : Type) (enc : TypeId × Value → H) :
    ReturnsInHanded {} Try.checked os 4 .any (Rows.fnAsciiLowerEqualExactlyWhenFoldEqualSpec.pre6 enc Try.prog Try.f4 Rows.fnAsciiLowerEqualExactlyWhenFoldEqualRow.domain false) (Rows.fnAsciiLowerEqualExactlyWhenFoldEqualSpec.post enc Try.prog Try.f4 false true false false) := by
  refine returnsInHanded_of_change (C := Try.checked) own started (by kernel_rfl) Try.func4
    (ChangeSpec.witness6 (enc := enc) (C := Try.checked) false ⟨#[], #[.string ByteArray.empty, .string ByteArray.empty], []⟩ 8 (by kernel_rfl) (by kernel_rfl) (by kernel_rfl) (by kernel_rfl)) ?_
  intro W base args ds gs before hval0 hW hcnd _
  have hval : ∀ (j : Nat) t v, Try.f4.params[j]? = some t → args[j]? = some v → Value.okWide Try.prog W .any base t v := hval0
  have hW' := hW
  obtain ⟨p, q, hA0, hV, rfl, hfz, hnd⟩ := hW
  have hA : DataW.TrodAll enc Try.prog W 0 (fun _ => true) true Try.f4.params.toList args.toList ds p := hA0
  rw [Try.params4] at hA hval
  obtain ⟨v0, vs0, d0, ds0, p0, q0, hargs, rfl, rfl, h0, r0⟩ := trodAll_cons hA
  obtain ⟨v1, vs1, d1, ds1, p1, q1, rfl, rfl, rfl, h1, r1⟩ := trodAll_cons r0
  obtain ⟨rfl, rfl, rfl⟩ := trodAll_nil r1
  obtain rfl : args = #[v0, v1] := by cases args; simp_all
  obtain ⟨rfl, rfl⟩ := trodVars_none hV
  obtain ⟨a0, rfl, rfl, rfl, w0⟩ := open_string Try.underlying9 (hval 0 9 v0 rfl rfl) h0
  obtain ⟨a1, rfl, rfl, rfl, w1⟩ := open_string Try.underlying9 (hval 1 9 v1 rfl rfl) h1
  clear hA0 hval0
  refine (walk a0 a1 W w0 w1).mono fun e W' ⟨he, bel⟩ => ?_
  subst he
  exact ⟨_, rfl, _, _, _, [], _, [], hW', trodAll_mk1 (shut_bool Try.underlying4 _), (trodAll_cons_mk (shut_string Try.underlying9 w0) (trodAll_cons_mk (shut_string Try.underlying9 w1) trodAll_mk0)), rfl, bel.frame _, fun h => by cases h⟩

theorem over : Rows.fnAsciiLowerEqualExactlyWhenFoldEqualRow.holds Try.pinned (OpenSpec.ofChange Rows.fnAsciiLowerEqualExactlyWhenFoldEqualSpec) :=
  OpenClaim.holds_of_wide 4 Try.f4 rfl rfl rfl rfl rfl rfl rfl ⟨rfl, rfl, rfl, rfl, rfl⟩ rfl rfl rfl rfl rfl (by kernel_rfl) Try.func4 (by kernel_rfl)
    (of_decide_eq_true (by kernel_rfl)) (by unfold Func.isWrapper; first | (rw [if_pos (by decide +kernel)]; kernel_rfl) | (rw [if_neg (by decide +kernel)]; exact ⟨rfl, rfl⟩))
    (fun os started H enc _ => lifted os started H enc)

/-- THE STATEMENT -/
theorem proved : Rows.FnAsciiLowerEqualExactlyWhenFoldEqualSaid := over
#print axioms proved
end Go.Proofs.Qxb6602060a.fnAsciiLowerEqualExactlyWhenFoldEqual
