/-
  THE PROOF OF 'Rows.FnIsUUIDAcceptsEveryFormattedSaid': the row's step (after the guide's shell; the world behind the call is told by 'Below').
-/
import Derived.Test.Qxb6602109aRows
import Derived.Test.Qxb6602109aMain
import Derived.WalkKit
import Derived.ProofKit
import Derived.OpenShut
import Derived.ChangeOld
import Derived.Below
namespace Go.Proofs.Qxb6602109a.fnIsUUIDAcceptsEveryFormatted
open Go.ChangeShapes Go.WideShapes Go.ChangeAt Go.RowKit

theorem own : ownKnob Try.prog.godebug = none := by kernel_rfl
theorem laidOut : laidOutB Try.prog = true := by kernel_rfl

def num : Value → Nat
  | .int _ n => n.toNat
  | _ => 0

theorem open_six {H : Type} {enc : TypeId × Value → H} {W : World} {v : Value} {d : DataW H} {ps : List MemPlace} {r : Reach} {b0 : Nat}
    (hval : Value.okWide Try.prog W r b0 23 v) (h : DataW.Trod enc Try.prog W 0 (fun _ => true) true 23 v d ps) :
    ∃ cs x, v = .agg cs ∧ Six cs x := by
  have e23 : Try.prog.cellsOf 23 = 16 := by kernel_rfl
  have e5 : Try.prog.cellsOf 5 = 1 := by kernel_rfl
  unfold Value.okWide at hval
  rw [Try.underlying23] at hval
  obtain ⟨cs, rfl, hs, _⟩ := hval
  obtain ⟨fuel, hf⟩ := h
  obtain ⟨xs, m, rfl, -, -, hx, hall⟩ := DataW.trod_array Try.underlying23 hf
  rw [e23] at hs
  refine ⟨cs, fun j => num (cs.getD j (.bool false)), rfl, hs, fun j hj => ?_⟩
  have := hall j hj
  rw [List.getElem?_eq_getElem (by omega)] at this
  obtain ⟨n, hn, -, wf⟩ := DataW.trod_int Try.underlying5 this
  have hb := bounds_u8 wf
  rw [e5] at hn
  have hj' : j < cs.size := by omega
  have hc : cs[j]? = some (.int .u8 n) := by
    have h2 : (cs.toList.drop j)[0]? = some (.int .u8 n) := by
      have h3 : ((cs.toList.drop (j * 1)).take 1)[0]? = some (Value.int .u8 n) := by
        have : (Value.agg cs).cells = cs := rfl
        rw [this] at hn
        rw [hn]
        rfl
      simpa using h3
    simpa using h2
  have hg : cs.getD j (.bool false) = .int .u8 n := by
    simp [Array.getD, hj']
    rw [Array.getElem?_eq_getElem hj'] at hc
    exact Option.some.inj hc
  show cs[j]? = some (.int .u8 ((num (cs.getD j (.bool false)) : Nat) : Int)) ∧ num (cs.getD j (.bool false)) < 256
  rw [hg]
  simp only [num]
  rw [Int.toNat_of_nonneg hb.1]
  exact ⟨hc, by omega⟩

set_option maxRecDepth 100000 in
theorem lifted (os : Os) (started : os.Started) (H : Type) (enc : TypeId × Value → H) :
    ReturnsInHanded {} Try.checked os 4 .any (Rows.fnIsUUIDAcceptsEveryFormattedSpec.pre6 enc Try.prog Try.f4 Rows.fnIsUUIDAcceptsEveryFormattedRow.domain false) (Rows.fnIsUUIDAcceptsEveryFormattedSpec.post enc Try.prog Try.f4 false true false false) := by
  refine returnsInHanded_of_change (C := Try.checked) own started (by kernel_rfl) Try.func4
    (ChangeSpec.witness6 (enc := enc) (C := Try.checked) false ⟨#[], #[.agg #[.int .u8 0, .int .u8 0, .int .u8 0, .int .u8 0, .int .u8 0, .int .u8 0, .int .u8 0, .int .u8 0, .int .u8 0, .int .u8 0, .int .u8 0, .int .u8 0, .int .u8 0, .int .u8 0, .int .u8 0, .int .u8 0], .bool false, .int .u8 0, .int .i64 0], []⟩ 8 (by kernel_rfl) (by kernel_rfl) (by kernel_rfl) (by kernel_rfl)) ?_
  intro W base args ds gs before hval0 hW hcnd _
  have hval : ∀ (j : Nat) t v, Try.f4.params[j]? = some t → args[j]? = some v → Value.okWide Try.prog W .any base t v := hval0
  have hW' := hW
  obtain ⟨p, q, hA0, hV, rfl, hfz, hnd⟩ := hW
  have hA : DataW.TrodAll enc Try.prog W 0 (fun _ => true) true Try.f4.params.toList args.toList ds p := hA0
  rw [Try.params4] at hA hval
  obtain ⟨v0, vs0, d0, ds0, p0, q0, hargs, rfl, rfl, h0, r0⟩ := trodAll_cons hA
  obtain ⟨v1, vs1, d1, ds1, p1, q1, rfl, rfl, rfl, h1, r1⟩ := trodAll_cons r0
  obtain ⟨v2, vs2, d2, ds2, p2, q2, rfl, rfl, rfl, h2, r2⟩ := trodAll_cons r1
  obtain ⟨v3, vs3, d3, ds3, p3, q3, rfl, rfl, rfl, h3, r3⟩ := trodAll_cons r2
  obtain ⟨rfl, rfl, rfl⟩ := trodAll_nil r3
  obtain rfl : args = #[v0, v1, v2, v3] := by cases args; simp_all
  obtain ⟨rfl, rfl⟩ := trodVars_none hV
  obtain ⟨a1, rfl, rfl, rfl⟩ := open_bool Try.underlying4 (hval 1 4 v1 rfl rfl) h1
  obtain ⟨a2, rfl, rfl, rfl, w2⟩ := open_int Try.underlying5 (hval 2 5 v2 rfl rfl) h2
  obtain ⟨a3, rfl, rfl, rfl, w3⟩ := open_int Try.underlying3 (hval 3 3 v3 rfl rfl) h3
  obtain ⟨cs, x, rfl, h6⟩ := open_six (hval 0 23 v0 rfl rfl) h0
  have lt0 : ∀ x ∈ p0, x.block < W.heap.size := by obtain ⟨m, hm⟩ := h0; exact DataW.trod_lt m _ _ _ hm
  clear hA0 hval0
  refine (walk cs x a1 a2 a3 W h6 (bounds_u8 w2)).mono fun e W' ⟨he, bel⟩ => ?_
  subst he
  exact ⟨_, rfl, _, _, _, [], _, [], hW', trodAll_mk1 (shut_bool Try.underlying4 _), (trodAll_cons_mk (Below.trod laidOut (by kernel_rfl) (of_decide_eq_true (by kernel_rfl)) h0 bel lt0) (trodAll_cons_mk (shut_bool Try.underlying4 _) (trodAll_cons_mk (shut_int Try.underlying5 w2) (trodAll_cons_mk (shut_int Try.underlying3 w3) trodAll_mk0)))), rfl, bel.frame _, fun h => by cases h⟩

theorem over : Rows.fnIsUUIDAcceptsEveryFormattedRow.holds Try.pinned (OpenSpec.ofChange Rows.fnIsUUIDAcceptsEveryFormattedSpec) :=
  OpenClaim.holds_of_wide 4 Try.f4 rfl rfl rfl rfl rfl rfl rfl ⟨rfl, rfl, rfl, rfl, rfl⟩ rfl rfl rfl rfl rfl (by kernel_rfl) Try.func4 (by kernel_rfl)
    (of_decide_eq_true (by kernel_rfl)) (by unfold Func.isWrapper; first | (rw [if_pos (by decide +kernel)]; kernel_rfl) | (rw [if_neg (by decide +kernel)]; exact ⟨rfl, rfl⟩))
    (fun os started H enc _ => lifted os started H enc)

/-- THE STATEMENT -/
theorem proved : Rows.FnIsUUIDAcceptsEveryFormattedSaid := over
#print axioms proved
end Go.Proofs.Qxb6602109a.fnIsUUIDAcceptsEveryFormatted
