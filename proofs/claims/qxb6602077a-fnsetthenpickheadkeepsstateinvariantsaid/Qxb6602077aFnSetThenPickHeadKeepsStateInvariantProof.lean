/-
  THE PROOF OF 'Rows.FnSetThenPickHeadKeepsStateInvariantSaid': the walk of the law itself, and the row's step (after the guide's shell; the world behind the call is told by 'Below').
-/
import Derived.Test.Qxb6602077aRows
import Derived.Test.Qxb6602077aGuards
import Derived.Test.Qxb6602077aOpen
import Derived.Deep.RegionWith
import Derived.WalkKit
import Derived.ProofKit
import Derived.OpenShut
import Derived.ShutString
import Derived.ChangeOld
import Derived.Below
namespace Go.Proofs.Qxb6602077a.fnSetThenPickHeadKeepsStateInvariant
open Go.ChangeShapes Go.WideShapes Go.ChangeAt Go.RowKit Plain
open Go.ChangeMaps (open_string shut_string)

theorem own : ownKnob Try.prog.godebug = none := by kernel_rfl
theorem laidOut : laidOutB Try.prog = true := by kernel_rfl

set_option maxHeartbeats 8000000 in
theorem walk (fm hd : ByteArray) (ao : Option Addr) (c : Nat) (l : List R) (ao2 : Option Addr) (c2 : Nat) (l2 : List R) (w : World) (hf : fm.size ≤ maxLen) (hh : hd.size ≤ maxLen) (hn : l.length ≤ maxLen) (hsz : ∀ k, k < l.length → (nm l k).size ≤ maxLen ∧ (Plain.id l k).size ≤ maxLen) (hr : RefsOld w.heap.size w ao l)
    (hn2 : l2.length ≤ maxLen) (hsz2 : ∀ k, k < l2.length → (nm l2 k).size ≤ maxLen ∧ (Plain.id l2 k).size ≤ maxLen) (hr2 : RefsOld w.heap.size w ao2 l2) :
    Calls Try.prog 8 #[.string fm, .string hd, .slice ao l.length c, .slice ao2 l2.length c2] w fun e w' => e = .returned (.bool true) ∧ Below w.heap.size w w' := by
  have hat := hr.at (Nat.le_refl _)
  have hat2 := hr2.at (Nat.le_refl _)
  have HR2 := hide hr2
  have HB := hide (bytes26 fm hd ao ao2 c c2 l l2 w hf hh hn hn2 hsz hsz2 hat hat2)
  have HAT := hide hat
  have HAT2 := hide hat2
  clear hat hr hsz hat2 hr2 hsz2
  go_enter Try.func8, Try.ntmps8
  go_wp2_with fail
  refine (unhide HB).mono ?_
  rintro e w0 ⟨he, rfl⟩
  rcases he with rfl | ⟨rfl, HS⟩
  · go_wp2
    go_ret
    exact ⟨rfl, Below.refl _ _⟩
  obtain ⟨h1, h2, h3, h32, hsh, hsh2⟩ := unhide HS
  have HO := hide (over10 fm hd ⟨#[]⟩ ⟨#[]⟩ ao ao2 c c2 l l2 w h1 h2 (by decide) (by decide) h3 h32 hsh hsh2 (unhide HAT) (unhide HAT2))
  have HSH := hide hsh
  have HSH2 := hide hsh2
  clear HB HS hsh hsh2
  go_wp2_with fail
  refine (unhide HO).mono ?_
  rintro e w0 ⟨he, rfl⟩
  rcases he with rfl | ⟨rfl, h4, h42⟩
  · go_wp2
    go_ret
    exact ⟨rfl, Below.refl _ _⟩
  by_cases h5 : l2.length ≤ 1024
  rotate_left
  · go_wp2
    go_ret
    exact ⟨rfl, Below.refl _ _⟩
  have HSO := hide (sorted_walk ao c l w h3 (unhide HAT))
  clear HO
  go_wp2_with fail
  refine (unhide HSO).mono ?_
  rintro e w0 ⟨rfl, n, rfl⟩
  have hb0 := below_drewN (Below.refl w.heap.size w) n
  have H0 := hide hb0
  cases hasc : ascB l
  · go_wp2
    go_ret
    exact ⟨rfl, unhide H0⟩
  have HA := hide ((ascB_iff l).1 hasc)
  have HId := hide (idsSet_walk ao c l (w.drewN n) h3 ((unhide HAT).below hb0))
  clear hasc HSO
  go_wp2_with fail
  refine (unhide HId).mono ?_
  rintro e w0 ⟨rfl, rfl⟩
  cases hids : Plain.idsSet l
  · clear hb0
    go_wp2
    go_ret
    exact ⟨rfl, unhide H0⟩
  have HIds := hide hids
  have HT := hide (toProject13 ao c l (w.drewN n) h4 ((unhide HAT).below hb0))
  clear hids hb0 HId
  go_wp2_with fail
  refine (unhide HT).mono ?_
  rintro e w1 ⟨v, rfl, hown, hb1⟩
  obtain ⟨ao1, c1, rfl, hr1⟩ := own_refs hown
  have hb1' : Below w.heap.size w w1 := (unhide H0).trans hb1
  have hz1 : w.heap.size ≤ w1.heap.size := hb1'.size
  have HM := hide (makeState12 fm hd ao1 c1 l w1 h4 hr1)
  have H1 := hide hb1'
  clear hb1 hb1' hown hr1 HT H0
  go_wp2_with fail
  refine (unhide HM).mono ?_
  rintro e w2 ⟨rfl, hst, hb2⟩
  have H2 := hide ((unhide H1).trans (hb2.mono hz1))
  have HS2 := hide (hst.mono hz1)
  clear hb2 hst HM H1
  have HShort : Hid (∀ r ∈ l, r.1.size ≤ 1048576) := by
    intro r hr
    obtain ⟨j, hj, rfl⟩ := List.mem_iff_getElem.1 hr
    have := (unhide HSH j hj).1
    rwa [nm, rf_eq l j hj] at this
  go_wp2
  go_loopw [10] (fun i wr => ∃ (k : Nat) (L : List R) (H : ByteArray), k ≤ l2.length ∧ i = .int .i64 k ∧ L.length ≤ 32768 + k ∧ Hid (StateAt w.heap.size w1.heap.size fm H L wr) ∧ Hid (Asc L) ∧ Hid (Plain.idsSet L = true) ∧ Hid (∀ r ∈ L, r.1.size ≤ 1048576) ∧ Hid (Below w.heap.size w wr)) (fun i _ => l2.length - (intOf i).toNat)
  case atStart => exact ⟨0, l, hd, Nat.zero_le _, rfl, by omega, HS2, HA, HIds, HShort, H2⟩
  case round =>
    clear HS2 HA HIds HShort H2 HSH HAT HAT2
    obtain ⟨k, L, H, hk, rfl, hL, HSt, HA, HI, HSh, HW⟩ := hrel
    have hwz : w.heap.size ≤ wr.heap.size := (unhide HW).size
    by_cases hlt : k < l2.length
    · have hr3 := (unhide HR2)
      rcases hr3 with rfl | ⟨b, off, rfl, hbl, hc⟩
      · simp at hlt
      have HQ : Hid (∀ W, Below w.heap.size w W → W.cell? ⟨b, off + k * 2, none⟩ = some (.string (nm l2 k)) ∧ W.cell? ⟨b, off + k * 2 + 1, none⟩ = some (.string (Plain.id l2 k))) := fun W hW => ⟨(hW.cell (p := ⟨b, off + k * 2, none⟩) hbl).trans (hc k hlt).1, (hW.cell (p := ⟨b, off + k * 2 + 1, none⟩) hbl).trans (hc k hlt).2⟩
      have q1 := (unhide HQ _ (unhide HW)).1
      have q2 := (unhide HQ _ (unhide HW)).2
      have hzn := (unhide HSH2 k hlt).1
      have hk1 : (k : Int) < (l2.length : Int) := by omega
      clear hc
      obtain ⟨x, hx⟩ : ∃ x, x = nm l2 k := ⟨_, rfl⟩
      obtain ⟨d, hd'⟩ : ∃ d, d = Plain.id l2 k := ⟨_, rfl⟩
      rw [← hx, ← hd'] at HQ
      rw [← hx] at q1 hzn
      rw [← hd'] at q2
      clear hx hd'
      have hstd := (unhide HSt).below ((Below.refl wr.heap.size wr).drew)
      have HSet := hide (ZZSet14 hstd x d (unhide HA) (by omega) (by show w.heap.size ≤ wr.heap.size; exact hwz))
      have HA2 := hide (set_asc (unhide HA) x d)
      have HI2 := hide (set_ids (unhide HI) x d)
      have hhas := set_has (unhide HA) x d
      have href := set_ref (unhide HA) x d
      have hlen := set_length L x d
      have HSh2 : Hid (∀ r ∈ setL L x d, r.1.size ≤ 1048576) := by
        intro r hr
        rcases set_mem r hr with hr | ⟨rfl, _⟩
        · exact unhide HSh r hr
        · exact hzn
      generalize setL L x d = L2 at *
      have HHR := hide (And.intro hhas href)
      clear hstd hhas href HA HI HSh HSt
      go_wp2
      go_region_with (go_at_call 14; refine (unhide HSet).mono ?_; rintro e w3 ⟨rfl, hst3, hb3⟩)
      all_goals
        have hB3 := (unhide HW).drew.trans hb3
        have hz3 : w.heap.size ≤ w3.heap.size := hB3.size
        have p1 := (unhide HQ _ hB3).1
        have p2 := (unhide HQ _ hB3).2
        have HF3 := hide (format19 hst3)
        have hlk := ZZLookup28 hst3 x (unhide HA2) (by omega)
        rw [(unhide HHR).1, (unhide HHR).2] at hlk
        have HLk := hide hlk
        have HS3 := hide hst3
        have HB3 := hide hB3
        have hfn : (fm.toList != fm.toList) = false := by simp
        have hdn : (d.toList != d.toList) = false := by simp
        clear hst3 hb3 hB3 hlk q1 q2 HSet
        go_wp2_with fail
        refine (unhide HF3).mono ?_
        rintro e w4 ⟨rfl, rfl⟩
        go_wp2_with fail
        refine (unhide HLk).mono ?_
        rintro e w4 ⟨rfl, hb4⟩
        have hB4 := (unhide HB3).trans (hb4.mono hz3)
        have hz4 : w.heap.size ≤ w4.heap.size := hB4.size
        have r1 := (unhide HQ _ hB4).1
        have r2 := (unhide HQ _ hB4).2
        have hst4 := (unhide HS3).below hb4
        have HPk := hide (ZZPick22 hst4 (unhide HA2) (by omega) hz4)
        have HB4 := hide hB4
        have hE : d.toList.isEmpty = (by' d).isEmpty := by rw [tl]
        clear hst4 hb4 hB4 HLk HS3 HB3 HF3
        generalize (by' d).isEmpty = E at *
        cases E
        all_goals
          go_wp2_with fail
          refine (unhide HPk).mono ?_
          rintro e w5 ⟨rfl, hst5, hb5⟩
          have hB5 := (unhide HB4).trans hb5
          have hz5 : w.heap.size ≤ w5.heap.size := hB5.size
          have HF5 := hide (format19 hst5)
          have HHd := hide (head18 hst5)
          have HRd := hide (readRefs16 hst5 (by omega))
          have HS5 := hide hst5
          have HB5 := hide hB5
          have HPI := hide (pick_inv H L2)
          clear hst5 hb5 hB5 HPk HB4
          generalize pick H L2 = H2 at *
          go_wp2_with fail
          refine (unhide HF5).mono ?_
          rintro e w6 ⟨rfl, rfl⟩
          go_wp2_with fail
          refine (unhide HHd).mono ?_
          rintro e w6 ⟨rfl, rfl⟩
          go_wp2_with fail
          refine (unhide HRd).mono ?_
          rintro e w6 ⟨v6, rfl, hown6, hb6⟩
          obtain ⟨ao6, c6, rfl, hr6⟩ := own_refs hown6
          have HIn := hide (invariant29 H2 ao6 c6 L2 w6 (unhide HA2) (unhide HI2) (unhide HPI) (by omega) (fun j hj => by unfold maxLen; have h9 := unhide HSh2 _ (List.getElem_mem hj); rw [nm, rf_eq L2 j hj]; omega) hr6)
          have HB6 := hide ((unhide HB5).trans (hb6.mono hz5))
          have HS6 := hide ((unhide HS5).below hb6)
          clear hown6 hb6 hr6 HRd HHd HF5 HS5 HB5
          go_wp2_with fail
          refine (unhide HIn).mono ?_
          rintro e w7 ⟨rfl, n7, rfl⟩
          have hb7 := below_drewN (Below.refl w6.heap.size w6) n7
          have HS7 := hide ((unhide HS6).below hb7)
          have HB7 := hide ((unhide HB6).trans (hb7.mono (unhide HB6).size))
          clear hb7 HIn
          go_wp2
          go_roundw
          case rel => exact ⟨k + 1, L2, H2, by omega, by go_num, by omega, HS7, HA2, HI2, HSh2, HB7⟩
          case measure => simp [intOf]; omega
    · have HF := hide (format19 (unhide HSt))
      have hfeq : (fm.toList == fm.toList) = true := by simp
      go_wp2_with fail
      refine (unhide HF).mono ?_
      rintro e w7 ⟨rfl, rfl⟩
      go_wp2
      go_ret
      exact ⟨rfl, unhide HW⟩


set_option maxRecDepth 100000 in
theorem lifted (os : Os) (started : os.Started) (H : Type) (enc : TypeId × Value → H) :
    ReturnsInHanded {} Try.checked os 8 .any (Rows.fnSetThenPickHeadKeepsStateInvariantSpec.pre6 enc Try.prog Try.f8 Rows.fnSetThenPickHeadKeepsStateInvariantRow.domain false) (Rows.fnSetThenPickHeadKeepsStateInvariantSpec.post enc Try.prog Try.f8 false true false false) := by
  refine returnsInHanded_of_change (C := Try.checked) own started (by kernel_rfl) Try.func8
    (ChangeSpec.witness6 (enc := enc) (C := Try.checked) false ⟨#[], #[.string ByteArray.empty, .string ByteArray.empty, .slice none 0 0, .slice none 0 0], []⟩ 8 (by kernel_rfl) (by kernel_rfl) (by kernel_rfl) (by kernel_rfl)) ?_
  intro W base args ds gs before hval0 hW hcnd _
  have hval : ∀ (j : Nat) t v, Try.f8.params[j]? = some t → args[j]? = some v → Value.okWide Try.prog W .any base t v := hval0
  have hW' := hW
  obtain ⟨p, q, hA0, hV, rfl, hfz, hnd⟩ := hW
  have hA : DataW.TrodAll enc Try.prog W 0 (fun _ => true) true Try.f8.params.toList args.toList ds p := hA0
  rw [Try.params8] at hA hval
  obtain ⟨v0, vs0, d0, ds0, p0, q0, hargs, rfl, rfl, h0, r0⟩ := trodAll_cons hA
  obtain ⟨v1, vs1, d1, ds1, p1, q1, rfl, rfl, rfl, h1, r1⟩ := trodAll_cons r0
  obtain ⟨v2, vs2, d2, ds2, p2, q2, rfl, rfl, rfl, h2, r2⟩ := trodAll_cons r1
  obtain ⟨v3, vs3, d3, ds3, p3, q3, rfl, rfl, rfl, h3, r3⟩ := trodAll_cons r2
  obtain ⟨rfl, rfl, rfl⟩ := trodAll_nil r3
  obtain rfl : args = #[v0, v1, v2, v3] := by cases args; simp_all
  obtain ⟨rfl, rfl⟩ := trodVars_none hV
  obtain ⟨a0, rfl, rfl, rfl, w0⟩ := open_string Try.underlying9 (hval 0 9 v0 rfl rfl) h0
  obtain ⟨a1, rfl, rfl, rfl, w1⟩ := open_string Try.underlying9 (hval 1 9 v1 rfl rfl) h1
  obtain ⟨a2, len2, cap2, rfl⟩ := okWide_slice Try.underlying22 (hval 2 22 v2 rfl rfl)
  have k2 := h2
  have lt2 : ∀ x ∈ p2, x.block < W.heap.size := by obtain ⟨m, hm⟩ := k2; exact DataW.trod_lt m _ _ _ hm
  obtain ⟨l2, e2, w2, n2, s2⟩ : ∃ l : List R, l.length = len2 ∧ RefsOld W.heap.size W a2 l ∧ len2 ≤ maxLen ∧ ∀ k, k < l.length → (nm l k).size ≤ maxLen ∧ (Plain.id l k).size ≤ maxLen := by
    obtain ⟨fuel, hf⟩ := h2
    exact open_refs hf
  subst e2
  obtain ⟨a3, len3, cap3, rfl⟩ := okWide_slice Try.underlying22 (hval 3 22 v3 rfl rfl)
  have k3 := h3
  have lt3 : ∀ x ∈ p3, x.block < W.heap.size := by obtain ⟨m, hm⟩ := k3; exact DataW.trod_lt m _ _ _ hm
  obtain ⟨l3, e3, w3, n3, s3⟩ : ∃ l : List R, l.length = len3 ∧ RefsOld W.heap.size W a3 l ∧ len3 ≤ maxLen ∧ ∀ k, k < l.length → (nm l k).size ≤ maxLen ∧ (Plain.id l k).size ≤ maxLen := by
    obtain ⟨fuel, hf⟩ := h3
    exact open_refs hf
  subst e3
  clear hA0 hval0
  refine (walk a0 a1 a2 cap2 l2 a3 cap3 l3 W w0 w1 n2 s2 w2 n3 s3 w3).mono fun e W' ⟨he, bel⟩ => ?_
  subst he
  exact ⟨_, rfl, _, _, _, [], _, [], hW', trodAll_mk1 (shut_bool Try.underlying4 _), (trodAll_cons_mk (shut_string Try.underlying9 w0) (trodAll_cons_mk (shut_string Try.underlying9 w1) (trodAll_cons_mk (Below.trod laidOut (by kernel_rfl) (of_decide_eq_true (by kernel_rfl)) k2 bel lt2) (trodAll_cons_mk (Below.trod laidOut (by kernel_rfl) (of_decide_eq_true (by kernel_rfl)) k3 bel lt3) trodAll_mk0)))), rfl, bel.frame _, fun h => by cases h⟩

theorem over : Rows.fnSetThenPickHeadKeepsStateInvariantRow.holds Try.pinned (OpenSpec.ofChange Rows.fnSetThenPickHeadKeepsStateInvariantSpec) :=
  OpenClaim.holds_of_wide 8 Try.f8 rfl rfl rfl rfl rfl rfl rfl ⟨rfl, rfl, rfl, rfl, rfl⟩ rfl rfl rfl rfl rfl (by kernel_rfl) Try.func8 (by kernel_rfl)
    (of_decide_eq_true (by kernel_rfl)) (by unfold Func.isWrapper; first | (rw [if_pos (by decide +kernel)]; kernel_rfl) | (rw [if_neg (by decide +kernel)]; exact ⟨rfl, rfl⟩))
    (fun os started H enc _ => lifted os started H enc)

/-- THE STATEMENT -/
theorem proved : Rows.FnSetThenPickHeadKeepsStateInvariantSaid := over
#print axioms proved
end Go.Proofs.Qxb6602077a.fnSetThenPickHeadKeepsStateInvariant
