/-
  THE PROOF OF 'Rows.FnSetMatchesMergeModelSaid': the walk of the law itself, and the row's step (after the guide's shell; the world behind the call is told by 'Below').
-/
import Derived.Test.Qxb6602077aRows
import Derived.Test.Qxb6602077aGuards
import Derived.Test.Qxb6602077aOpen
import Derived.WalkKit
import Derived.ProofKit
import Derived.OpenShut
import Derived.ShutString
import Derived.ChangeOld
import Derived.Below
namespace Go.Proofs.Qxb6602077a.fnSetMatchesMergeModel
open Go.ChangeShapes Go.WideShapes Go.ChangeAt Go.RowKit Plain
open Go.ChangeMaps (open_string shut_string)

theorem own : ownKnob Try.prog.godebug = none := by kernel_rfl
theorem laidOut : laidOutB Try.prog = true := by kernel_rfl

set_option maxHeartbeats 8000000 in
theorem walk (fm hd : ByteArray) (ao : Option Addr) (c : Nat) (l : List R) (x d : ByteArray) (w : World) (hf : fm.size ≤ maxLen) (hh : hd.size ≤ maxLen) (hn : l.length ≤ maxLen) (hsz : ∀ k, k < l.length → (nm l k).size ≤ maxLen ∧ (Plain.id l k).size ≤ maxLen) (hr : RefsOld w.heap.size w ao l) (hx : x.size ≤ maxLen) (hd' : d.size ≤ maxLen) :
    Calls Try.prog 3 #[.string fm, .string hd, .slice ao l.length c, .string x, .string d] w fun e w' => e = .returned (.bool true) ∧ Below w.heap.size w w' := by
  have hat := hr.at (Nat.le_refl _)
  have HR := hide hr
  have HB := hide (bytes9 fm hd x d ao c l w hf hh hx hd' hn hsz hat)
  have HAT := hide hat
  clear hat hr hsz
  go_enter Try.func3, Try.ntmps3
  go_wp2_with fail
  refine (unhide HB).mono ?_
  rintro e w0 ⟨he, rfl⟩
  rcases he with rfl | ⟨rfl, HS⟩
  · go_wp2
    go_ret
    exact ⟨rfl, Below.refl _ _⟩
  obtain ⟨h1, h2, hx2, hd2, h3, hsh⟩ := unhide HS
  have HO := hide (over10 fm hd x d ao none c 0 l [] w h1 h2 hx2 hd2 h3 (by decide) hsh (fun k hk => absurd hk (by simp)) (unhide HAT) (.inl rfl))
  clear HB HS hsh
  go_wp2_with fail
  refine (unhide HO).mono ?_
  rintro e w0 ⟨he, rfl⟩
  rcases he with rfl | ⟨rfl, h4, _⟩
  · go_wp2
    go_ret
    exact ⟨rfl, Below.refl _ _⟩
  have HSO := hide (sorted_walk ao c l w h3 (unhide HAT))
  clear HO
  go_wp2_with fail
  refine (unhide HSO).mono ?_
  rintro e w0 ⟨rfl, n, rfl⟩
  cases hasc : ascB l
  · go_wp2
    go_ret
    exact ⟨rfl, below_drewN (Below.refl _ _) n⟩
  have HA := hide ((ascB_iff l).1 hasc)
  clear hasc HSO
  have hb0 := below_drewN (Below.refl w.heap.size w) n
  have HT := hide (toProject13 ao c l (w.drewN n) h4 ((unhide HAT).below hb0))
  have H0 := hide hb0
  clear hb0
  go_wp2_with fail
  refine (unhide HT).mono ?_
  rintro e w1 ⟨v, rfl, hown, hb1⟩
  obtain ⟨ao1, c1, rfl, hr1⟩ := own_refs hown
  have hb1' : Below w.heap.size w w1 := (unhide H0).trans hb1
  have hz1 : w.heap.size ≤ w1.heap.size := hb1'.size
  have HM := hide (makeState12 fm hd ao1 c1 l w1 h4 hr1)
  have H1 := hide hb1'
  clear hb1 hb1' hown hr1 HT H0
  go_wp2_with fail
  refine (unhide HM).mono ?_
  rintro e w2 ⟨rfl, hst, hb2⟩
  have hb2' : Below w.heap.size w w2 := (unhide H1).trans (hb2.mono hz1)
  have hst2 := hst.mono hz1
  have hz2 : w.heap.size ≤ w2.heap.size := hb2'.size
  have HP := hide (ZZSet14 hst2 x d (unhide HA) h3 hz2)
  have H2 := hide hb2'
  clear hb2 hb2' hst hst2 HM H1
  go_wp2_with fail
  refine (unhide HP).mono ?_
  rintro e w3 ⟨rfl, hst3, hb3⟩
  have hb3' : Below w.heap.size w w3 := (unhide H2).trans hb3
  have H3 := hide hb3'
  have hat3 := ((unhide HR).below hb3').at hb3'.size
  have HMS := hide (merge_set x d l (unhide HA))
  have hsl := set_length l x d
  generalize hL : setL l x d = L at *
  have HRd := hide (readRefs16 hst3 (by omega))
  have HS3 := hide hst3
  have HAT3 := hide hat3
  clear hb3 hb3' hst3 hat3 HP H2 hL
  go_wp2_with fail
  refine (unhide HRd).mono ?_
  rintro e w4 ⟨v4, rfl, hown4, hb4⟩
  obtain ⟨ao4, c4, rfl, hr4⟩ := own_refs hown4
  have hat4 := (unhide HAT3).below hb4
  have hz3 := (unhide H3).size
  have H4 := hide ((unhide H3).trans (hb4.mono hz3))
  have HS4 := hide ((unhide HS3).below hb4)
  have hmod := setModel17 ao c l x d w4 h3 hat4
  rw [unhide HMS] at hmod
  have HMo := hide hmod
  have HR4 := hide hr4
  clear hown4 hb4 hr4 hat4 HRd HS3 hmod
  go_wp2_with fail
  refine (unhide HMo).mono ?_
  rintro e w5 ⟨v5, rfl, hown5, hb5⟩
  obtain ⟨ao5, c5, rfl, hr5⟩ := own_refs hown5
  have hz4 := (unhide H4).size
  have H5 := hide ((unhide H4).trans (hb5.mono hz4))
  have HS5 := hide ((unhide HS4).below hb5)
  have HE := hide (equal_walk ao4 ao5 c4 c5 L w5 (by omega) ((unhide HR4).below hb5) hr5)
  clear hown5 hb5 hr5 HMo HS4 H4
  go_wp2_with fail
  refine (unhide HE).mono ?_
  rintro e w6 ⟨rfl, n6, rfl⟩
  have hb6 := below_drewN (Below.refl w5.heap.size w5) n6
  have hst6 := (unhide HS5).below hb6
  have HHd := hide (head18 hst6)
  have HF := hide (format19 hst6)
  have H6 := hide ((unhide H5).trans (hb6.mono (unhide H5).size))
  have hfeq : (fm.toList == fm.toList) = true := by simp
  have hheq : (hd.toList == hd.toList) = true := by simp
  clear hb6 hst6 HE
  go_wp2_with fail
  refine (unhide HHd).mono ?_
  rintro e w7 ⟨rfl, rfl⟩
  go_wp2_with fail
  refine (unhide HF).mono ?_
  rintro e w7 ⟨rfl, rfl⟩
  go_wp2
  go_ret
  exact ⟨rfl, unhide H6⟩


set_option maxRecDepth 100000 in
theorem lifted (os : Os) (started : os.Started) (H : Type) (enc : TypeId × Value → H) :
    ReturnsInHanded {} Try.checked os 3 .any (Rows.fnSetMatchesMergeModelSpec.pre6 enc Try.prog Try.f3 Rows.fnSetMatchesMergeModelRow.domain false) (Rows.fnSetMatchesMergeModelSpec.post enc Try.prog Try.f3 false true false false) := by
  refine returnsInHanded_of_change (C := Try.checked) own started (by kernel_rfl) Try.func3
    (ChangeSpec.witness6 (enc := enc) (C := Try.checked) false ⟨#[], #[.string ByteArray.empty, .string ByteArray.empty, .slice none 0 0, .string ByteArray.empty, .string ByteArray.empty], []⟩ 8 (by kernel_rfl) (by kernel_rfl) (by kernel_rfl) (by kernel_rfl)) ?_
  intro W base args ds gs before hval0 hW hcnd _
  have hval : ∀ (j : Nat) t v, Try.f3.params[j]? = some t → args[j]? = some v → Value.okWide Try.prog W .any base t v := hval0
  have hW' := hW
  obtain ⟨p, q, hA0, hV, rfl, hfz, hnd⟩ := hW
  have hA : DataW.TrodAll enc Try.prog W 0 (fun _ => true) true Try.f3.params.toList args.toList ds p := hA0
  rw [Try.params3] at hA hval
  obtain ⟨v0, vs0, d0, ds0, p0, q0, hargs, rfl, rfl, h0, r0⟩ := trodAll_cons hA
  obtain ⟨v1, vs1, d1, ds1, p1, q1, rfl, rfl, rfl, h1, r1⟩ := trodAll_cons r0
  obtain ⟨v2, vs2, d2, ds2, p2, q2, rfl, rfl, rfl, h2, r2⟩ := trodAll_cons r1
  obtain ⟨v3, vs3, d3, ds3, p3, q3, rfl, rfl, rfl, h3, r3⟩ := trodAll_cons r2
  obtain ⟨v4, vs4, d4, ds4, p4, q4, rfl, rfl, rfl, h4, r4⟩ := trodAll_cons r3
  obtain ⟨rfl, rfl, rfl⟩ := trodAll_nil r4
  obtain rfl : args = #[v0, v1, v2, v3, v4] := by cases args; simp_all
  obtain ⟨rfl, rfl⟩ := trodVars_none hV
  obtain ⟨a0, rfl, rfl, rfl, w0⟩ := open_string Try.underlying9 (hval 0 9 v0 rfl rfl) h0
  obtain ⟨a1, rfl, rfl, rfl, w1⟩ := open_string Try.underlying9 (hval 1 9 v1 rfl rfl) h1
  obtain ⟨a2, len2, cap2, rfl⟩ := okWide_slice Try.underlying22 (hval 2 22 v2 rfl rfl)
  have k2 := h2
  have lt2 : ∀ x ∈ p2, x.block < W.heap.size := by obtain ⟨m, hm⟩ := k2; exact DataW.trod_lt m _ _ _ hm
  obtain ⟨l2, e2, w2, n2, s2⟩ : ∃ l : List R, l.length = len2 ∧ RefsOld W.heap.size W a2 l ∧ len2 ≤ maxLen ∧ ∀ k, k < l.length → (nm l k).size ≤ maxLen ∧ (Plain.id l k).size ≤ maxLen := by
    obtain ⟨fuel, hf⟩ := h2
    exact open_refs hf
  subst e2
  obtain ⟨a3, rfl, rfl, rfl, w3⟩ := open_string Try.underlying9 (hval 3 9 v3 rfl rfl) h3
  obtain ⟨a4, rfl, rfl, rfl, w4⟩ := open_string Try.underlying9 (hval 4 9 v4 rfl rfl) h4
  clear hA0 hval0
  refine (walk a0 a1 a2 cap2 l2 a3 a4 W w0 w1 n2 s2 w2 w3 w4).mono fun e W' ⟨he, bel⟩ => ?_
  subst he
  exact ⟨_, rfl, _, _, _, [], _, [], hW', trodAll_mk1 (shut_bool Try.underlying4 _), (trodAll_cons_mk (shut_string Try.underlying9 w0) (trodAll_cons_mk (shut_string Try.underlying9 w1) (trodAll_cons_mk (Below.trod laidOut (by kernel_rfl) (of_decide_eq_true (by kernel_rfl)) k2 bel lt2) (trodAll_cons_mk (shut_string Try.underlying9 w3) (trodAll_cons_mk (shut_string Try.underlying9 w4) trodAll_mk0))))), rfl, bel.frame _, fun h => by cases h⟩

theorem over : Rows.fnSetMatchesMergeModelRow.holds Try.pinned (OpenSpec.ofChange Rows.fnSetMatchesMergeModelSpec) :=
  OpenClaim.holds_of_wide 3 Try.f3 rfl rfl rfl rfl rfl rfl rfl ⟨rfl, rfl, rfl, rfl, rfl⟩ rfl rfl rfl rfl rfl (by kernel_rfl) Try.func3 (by kernel_rfl)
    (of_decide_eq_true (by kernel_rfl)) (by unfold Func.isWrapper; first | (rw [if_pos (by decide +kernel)]; kernel_rfl) | (rw [if_neg (by decide +kernel)]; exact ⟨rfl, rfl⟩))
    (fun os started H enc _ => lifted os started H enc)

/-- THE STATEMENT -/
theorem proved : Rows.FnSetMatchesMergeModelSaid := over
#print axioms proved
end Go.Proofs.Qxb6602077a.fnSetMatchesMergeModel
