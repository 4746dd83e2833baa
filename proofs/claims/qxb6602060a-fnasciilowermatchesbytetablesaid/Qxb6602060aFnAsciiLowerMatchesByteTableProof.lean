/-
  THE PROOF OF 'Rows.FnAsciiLowerMatchesByteTableSaid': the walk of the law itself, and the row's step (after the guide's shell; the world behind the call is told by 'Below').
-/
import Derived.Test.Qxb6602060aRows
import Derived.Test.Qxb6602060aLower
import Derived.WalkKit
import Derived.ProofKit
import Derived.OpenShut
import Derived.ShutString
import Derived.ChangeOld
import Derived.Below
import Derived.Deep.QuietTactic
import Derived.BigQuiet
namespace Go.Proofs.Qxb6602060a.fnAsciiLowerMatchesByteTable
open Go.ChangeShapes Go.WideShapes Go.ChangeAt Go.RowKit
open Go.ChangeMaps (open_string shut_string)

theorem own : ownKnob Try.prog.godebug = none := by kernel_rfl

theorem low_at (s : ByteArray) (k : Nat) (h : k < s.size) (h' : k < (Plain.low s).size) : ((Plain.low s)[k]'h') = Lib.lowerB (s[k]'h) := by
  have e1 := getS (Plain.low s) k h'
  rw [Plain.low_list, List.getElem?_map, getS s k h] at e1
  simp only [Option.map_some, Option.some.injEq] at e1
  exact e1.symm

set_option maxHeartbeats 1000000 in
set_option maxRecDepth 100000 in
theorem main (s : ByteArray) (w : World) (hs : s.size ≤ 1048576) :
    Calls Try.prog 3 #[.string s] w fun e w' => e = .returned (.bool true) ∧ Below w.heap.size w w' := by
  have hsz := Plain.low_size s
  have hat := low_at s
  have hL := ZZasciiLower s w hs
  generalize Plain.low s = g at *
  have hne : ((g.size : Int) != (s.size : Int)) = false := by simp [hsz]
  have hgs : s.size ≤ g.size := by omega
  have HA := hide hat
  clear hsz hat
  go_enter Try.func3, Try.ntmps3
  go_wp2_with (first | (go_at_call 6; refine (bytes6_yes s _ hs).mono ?_; rintro e w1 ⟨rfl, rfl⟩) | (go_at_call 7; refine hL.mono ?_; rintro e w1 ⟨rfl, hb1⟩))
  go_loopw [4] (fun v wr => ∃ k : Nat, k ≤ s.size ∧ v = .int .i64 k ∧ Hid (Below w.heap.size w wr)) (fun v _ => s.size - (intOf v).toNat)
  case atStart => exact ⟨0, Nat.zero_le _, rfl, hb1⟩
  case round =>
    obtain ⟨k, hk, rfl, HW⟩ := hrel
    by_cases hlt : k < s.size
    · have hlg : k < g.size := by omega
      have hki : (k : Int) < (g.size : Int) := by omega
      have hki2 : (k : Int) < (s.size : Int) := by omega
      have hv : ((g[k]'hlg).toNat : Int) = ((Lib.lowerB (s[k]'hlt)).toNat : Int) := by rw [(unhide HA) k hlt hlg]
      go_wp2
      go_quiet ((go_at_call 8; exact Calls.quiet_of_same (lowerByte _ _)))
      have Hw2 := hide (below_drewN' (unhide HW) nq)
      go_wp2
      go_roundw
      case rel => exact ⟨k + 1, by omega, by go_num, Hw2⟩
      case measure => simp [intOf]; omega
    · go_wp2
      go_ret
      exact ⟨rfl, unhide HW⟩

theorem walk (s : ByteArray) (w : World) (_hm : s.size ≤ maxLen) :
    Calls Try.prog 3 #[.string s] w fun e w' => e = .returned (.bool true) ∧ Below w.heap.size w w' := by
  by_cases hs : s.size ≤ 1048576
  · exact main s w hs
  · go_enter Try.func3, Try.ntmps3
    go_wp2_with (go_at_call 6; refine (bytes6_no s _ (by omega)).mono ?_; rintro e w1 ⟨rfl, rfl⟩)
    go_ret
    exact ⟨rfl, Below.refl _ _⟩


set_option maxRecDepth 100000 in
theorem lifted (os : Os) (started : os.Started) (H : Type) (enc : TypeId × Value → H) :
    ReturnsInHanded {} Try.checked os 3 .any (Rows.fnAsciiLowerMatchesByteTableSpec.pre6 enc Try.prog Try.f3 Rows.fnAsciiLowerMatchesByteTableRow.domain false) (Rows.fnAsciiLowerMatchesByteTableSpec.post enc Try.prog Try.f3 false true false false) := by
  refine returnsInHanded_of_change (C := Try.checked) own started (by kernel_rfl) Try.func3
    (ChangeSpec.witness6 (enc := enc) (C := Try.checked) false ⟨#[], #[.string ByteArray.empty], []⟩ 8 (by kernel_rfl) (by kernel_rfl) (by kernel_rfl) (by kernel_rfl)) ?_
  intro W base args ds gs before hval0 hW hcnd _
  have hval : ∀ (j : Nat) t v, Try.f3.params[j]? = some t → args[j]? = some v → Value.okWide Try.prog W .any base t v := hval0
  have hW' := hW
  obtain ⟨p, q, hA0, hV, rfl, hfz, hnd⟩ := hW
  have hA : DataW.TrodAll enc Try.prog W 0 (fun _ => true) true Try.f3.params.toList args.toList ds p := hA0
  rw [Try.params3] at hA hval
  obtain ⟨v0, vs0, d0, ds0, p0, q0, hargs, rfl, rfl, h0, r0⟩ := trodAll_cons hA
  obtain ⟨rfl, rfl, rfl⟩ := trodAll_nil r0
  obtain rfl : args = #[v0] := by cases args; simp_all
  obtain ⟨rfl, rfl⟩ := trodVars_none hV
  obtain ⟨a0, rfl, rfl, rfl, w0⟩ := open_string Try.underlying9 (hval 0 9 v0 rfl rfl) h0
  clear hA0 hval0
  refine (walk a0 W w0).mono fun e W' ⟨he, bel⟩ => ?_
  subst he
  exact ⟨_, rfl, _, _, _, [], _, [], hW', trodAll_mk1 (shut_bool Try.underlying4 _), (trodAll_cons_mk (shut_string Try.underlying9 w0) trodAll_mk0), rfl, bel.frame _, fun h => by cases h⟩

theorem over : Rows.fnAsciiLowerMatchesByteTableRow.holds Try.pinned (OpenSpec.ofChange Rows.fnAsciiLowerMatchesByteTableSpec) :=
  OpenClaim.holds_of_wide 3 Try.f3 rfl rfl rfl rfl rfl rfl rfl ⟨rfl, rfl, rfl, rfl, rfl⟩ rfl rfl rfl rfl rfl (by kernel_rfl) Try.func3 (by kernel_rfl)
    (of_decide_eq_true (by kernel_rfl)) (by unfold Func.isWrapper; first | (rw [if_pos (by decide +kernel)]; kernel_rfl) | (rw [if_neg (by decide +kernel)]; exact ⟨rfl, rfl⟩))
    (fun os started H enc _ => lifted os started H enc)

/-- THE STATEMENT -/
theorem proved : Rows.FnAsciiLowerMatchesByteTableSaid := over
#print axioms proved
end Go.Proofs.Qxb6602060a.fnAsciiLowerMatchesByteTable
