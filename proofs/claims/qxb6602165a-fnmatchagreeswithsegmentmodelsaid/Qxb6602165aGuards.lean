/-
  WALKS of the seat b6602165a: wellFormed (10), namesFit (9), zzBytes_FnMatchAgreesWithSegmentModel (8).
-/
import Derived.Test.Qxb6602165aRead
namespace Go.Proofs.Qxb6602165a
open Go.RowKit Plain

set_option maxHeartbeats 4000000 in
theorem wellFormed10 (p : Nat → Nat) (n : Nat) (hp : Prg p n) {B : Nat} (ao : Option Addr) (c : Nat) (w : World) (hr : Row B w ao n (pv p)) :
    Calls Try.prog 10 #[.slice ao n c] w fun e w' => (e = .returned (.bool false) ∨ (e = .returned (.bool true) ∧ Hid (WF p n 0 0 false))) ∧ w = w' := by
  have hn := hp.len
  have HE := hide (fun k => elemEnd26 p n hp ao c k w hr)
  have HR := hide hr
  clear hr hp
  go_enter Try.func10, Try.ntmps10
  go_wp2
  go_loop [3, 4, 5] (fun i j z => ∃ (k ss : Nat) (ps : Bool), k ≤ n ∧ ss ≤ n ∧ i = .int .i64 k ∧ j = .int .i64 ss ∧ z = .bool ps ∧ Hid (WF p n k ss ps → WF p n 0 0 false)) (fun i _ _ => n - (intOf i).toNat)
  case atStart => exact ⟨0, 0, false, Nat.zero_le _, Nat.zero_le _, rfl, rfl, rfl, fun h => h⟩
  case round =>
    obtain ⟨k, ss, ps, hk, hss, rfl, rfl, rfl, HW⟩ := hrel
    by_cases hlt : k < n
    · rcases unhide HR with h0 | ⟨b, off, rfl, _, hc⟩
      · omega
      have c0 : w.cell? ⟨b, off + k, none⟩ = some (.int .u8 (p k : Int)) := hc k hlt
      have HC := hide hc
      clear hc
      by_cases e1 : p k = 47
      · have b1 : ((p k : Int) == 47) = true := beq_yes (b := 47) e1
        have Hn : Hid (WF p n (k + 1) (k + 1) false → WF p n 0 0 false) := fun h => unhide HW (.slash hlt e1 h)
        clear e1
        go_wp2
        go_round
        case rel => exact ⟨k + 1, k + 1, false, hlt, hlt, by go_num, by go_num, rfl, Hn⟩
        case measure => simp [intOf]; omega
      · have b1 : ((p k : Int) == 47) = false := beq_no (b := 47) e1
        by_cases e2 : p k = 42
        · have b2 : ((p k : Int) == 42) = true := beq_yes (b := 42) e2
          cases ps
          · have Hn : Hid (WF p n (k + 1) ss true → WF p n 0 0 false) := fun h => unhide HW (.star hlt e2 (fun h => by cases h) h)
            clear e1 e2
            go_wp2
            go_round
            case rel => exact ⟨k + 1, ss, true, hlt, hss, by go_num, rfl, rfl, Hn⟩
            case measure => simp [intOf]; omega
          · by_cases e3 : k = ss + 1
            · have b3 : ((k : Int) != (ss : Int) + 1) = false := by rw [e3]; simp
              by_cases e4 : k + 1 < n
              · have c1 : w.cell? ⟨b, off + (k + 1), none⟩ = some (.int .u8 (p (k + 1) : Int)) := unhide HC (k + 1) e4
                by_cases e5 : p (k + 1) = 47
                · have b5 : ((p (k + 1) : Int) != 47) = false := by rw [e5]; rfl
                  have Hn : Hid (WF p n (k + 1) ss true → WF p n 0 0 false) := fun h => unhide HW (.star hlt e2 (fun _ => ⟨e3, fun _ => e5⟩) h)
                  clear e1 e2 e3 e5
                  go_wp2
                  go_round
                  case rel => exact ⟨k + 1, ss, true, hlt, hss, by go_num, rfl, rfl, Hn⟩
                  case measure => simp [intOf]; omega
                · have b5 : ((p (k + 1) : Int) != 47) = true := by rw [bne_iff_ne]; omega
                  clear e1 e2 e3 e5
                  go_wp2
                  go_ret
                  exact ⟨.inl rfl, rfl⟩
              · have Hn : Hid (WF p n (k + 1) ss true → WF p n 0 0 false) := fun h => unhide HW (.star hlt e2 (fun _ => ⟨e3, fun h => absurd h e4⟩) h)
                clear e1 e2 e3
                go_wp2
                go_round
                case rel => exact ⟨k + 1, ss, true, hlt, hss, by go_num, rfl, rfl, Hn⟩
                case measure => simp [intOf]; omega
            · have b3 : ((k : Int) != (ss : Int) + 1) = true := by rw [bne_iff_ne]; omega
              clear e1 e2 e3
              go_wp2
              go_ret
              exact ⟨.inl rfl, rfl⟩
        · have b2 : ((p k : Int) == 42) = false := beq_no (b := 42) e2
          have HE1 := hide (unhide HE k hlt)
          cases he : elemEnd p n k with
          | none =>
            rw [endI_none he] at HE1
            clear e1 e2 he
            go_wp2_with fail
            refine (unhide HE1).mono ?_
            rintro e w' ⟨rfl, rfl⟩
            go_wp2
            go_ret
            exact ⟨.inl rfl, rfl⟩
          | some t =>
            rw [endI_some he] at HE1
            have Hn : Hid (WF p n t ss false → WF p n 0 0 false) := fun h => unhide HW (.elem hlt e1 e2 he h)
            have h1 := elemEnd_gt he
            have h2 := elemEnd_le hlt he
            clear e1 e2 he
            go_wp2_with fail
            refine (unhide HE1).mono ?_
            rintro e w' ⟨rfl, rfl⟩
            go_wp2
            go_round
            case rel => exact ⟨t, ss, false, h2, hss, rfl, rfl, rfl, Hn⟩
            case measure => simp [intOf]; omega
    · have hkn : k = n := by omega
      have Hn : Hid (WF p n 0 0 false) := unhide HW (by rw [hkn]; exact .done)
      clear hkn
      go_wp2
      go_ret
      first | exact ⟨.inr ⟨rfl, Hn⟩, rfl⟩ | exact ⟨.inr rfl, rfl⟩

def nv (nm : Nat → ByteArray) (k : Nat) : Value := .string (nm k)

set_option maxHeartbeats 4000000 in
theorem bytes8 {B B' : Nat} (f : Nat → Value) (nm : Nat → ByteArray) (n K : Nat) (ao ao2 : Option Addr) (c c2 : Nat) (w : World) (hn : n ≤ maxLen) (hK : K ≤ maxLen) (hz : ∀ k, k < K → (nm k).size ≤ maxLen) (_hr : Row B w ao n f) (hr2 : Row B' w ao2 K (nv nm)) :
    Calls Try.prog 8 #[.slice ao n c, .slice ao2 K c2] w fun e w' => (e = .returned (.bool false) ∨ e = .returned (.bool true)) ∧ w = w' := by
  unfold maxLen at hn hK hz
  have HZ := hide hz
  clear hz
  by_cases h1 : n ≤ 1048576
  · by_cases h2 : K ≤ 1048576 ∧ n + K ≤ 1048576
    · obtain ⟨h2, h3⟩ := h2
      go_enter Try.func8, Try.ntmps8
      go_wp2
      go_loop [5, 6] (fun z i => ∃ k N : Nat, k ≤ K ∧ N ≤ 1048576 ∧ z = .int .i64 N ∧ i = .int .i64 k) (fun _ i => K - (intOf i).toNat)
      case atStart => exact ⟨0, n + K, Nat.zero_le _, h3, by go_num, rfl⟩
      case round =>
        obtain ⟨k, N, hk, hN, rfl, rfl⟩ := hrel
        by_cases hlt : k < K
        · rcases hr2 with h0 | ⟨b, off, rfl, _, hc⟩
          · omega
          have c1 : w.cell? ⟨b, off + k, none⟩ = some (.string (nm k)) := hc k hlt
          have hz := unhide HZ k hlt
          clear hc
          by_cases g1 : (nm k).size ≤ 1048576 ∧ N + (nm k).size ≤ 1048576
          · obtain ⟨g1, g2⟩ := g1
            go_wp2
            go_round
            case rel => exact ⟨k + 1, N + (nm k).size, by omega, g2, by go_num, by go_num⟩
            case measure => simp [intOf]; omega
          · go_wp2
            all_goals (go_ret; exact ⟨.inl rfl, rfl⟩)
        · go_wp2
          go_ret
          exact ⟨.inr rfl, rfl⟩
    · go_enter Try.func8, Try.ntmps8
      go_wp2
      all_goals (go_ret; exact ⟨.inl rfl, rfl⟩)
  · go_enter Try.func8, Try.ntmps8
    go_wp2
    all_goals (go_ret; exact ⟨.inl rfl, rfl⟩)

def NoSlash (s : ByteArray) : Prop := ∀ j (h : j < s.size), (s[j]'h).toNat ≠ 47

set_option maxHeartbeats 4000000 in
theorem namesFit9 {B : Nat} (nm : Nat → ByteArray) (n K : Nat) (ao2 : Option Addr) (c2 : Nat) (w : World) (hn : n ≤ 4096) (hK : K ≤ 4096) (hz : ∀ k, k < K → (nm k).size ≤ maxLen) (hr2 : Row B w ao2 K (nv nm)) :
    Calls Try.prog 9 #[.int .i64 n, .slice ao2 K c2] w fun e w' => (e = .returned (.bool false) ∨ (e = .returned (.bool true) ∧ Hid (∀ k, k < K → (nm k).size ≤ 1048576 ∧ NoSlash (nm k)))) ∧ w = w' := by
  unfold maxLen at hz
  have HZ := hide hz
  clear hz
  by_cases h3 : n + 16 * K ≤ 1048576
  · go_enter Try.func9, Try.ntmps9
    go_wp2
    go_loop [5, 6] (fun z i => ∃ k N : Nat, k ≤ K ∧ N ≤ 1048576 ∧ z = .int .i64 N ∧ i = .int .i64 k ∧ Hid (∀ j, j < k → (nm j).size ≤ 1048576)) (fun _ i => K - (intOf i).toNat)
    case atStart => exact ⟨0, n + 16 * K, Nat.zero_le _, h3, by go_num, rfl, fun j hj => by omega⟩
    case round =>
      obtain ⟨k, N, hk, hN, rfl, rfl, HS⟩ := hrel
      by_cases hlt : k < K
      · rcases hr2 with h0 | ⟨b, off, rfl, _, hc⟩
        · omega
        have c1 : w.cell? ⟨b, off + k, none⟩ = some (.string (nm k)) := hc k hlt
        have hz := unhide HZ k hlt
        clear hc
        by_cases g1 : (nm k).size ≤ 1048576 ∧ N + (nm k).size ≤ 1048576
        · obtain ⟨g1, g2⟩ := g1
          have Hn : Hid (∀ j, j < k + 1 → (nm j).size ≤ 1048576) := by
            intro j hj
            by_cases e : j = k
            · rw [e]; exact g1
            · exact unhide HS j (by omega)
          go_wp2
          go_round
          case rel => exact ⟨k + 1, N + (nm k).size, by omega, g2, by go_num, by go_num, Hn⟩
          case measure => simp [intOf]; omega
        · go_wp2
          all_goals (go_ret; exact ⟨.inl rfl, rfl⟩)
      · have HA : Hid (∀ j, j < K → (nm j).size ≤ 1048576) := fun j hj => unhide HS j (by omega)
        clear HS
        go_wp2
        go_loop [7] (fun i => ∃ k : Nat, k ≤ K ∧ i = .int .i64 k ∧ Hid (∀ j, j < k → NoSlash (nm j))) (fun i => K - (intOf i).toNat)
        case atStart => exact ⟨0, Nat.zero_le _, rfl, fun j hj => by omega⟩
        case round =>
          obtain ⟨k, hk, rfl, HF⟩ := hrel
          by_cases hlt : k < K
          · rcases hr2 with h0 | ⟨b, off, rfl, _, hc⟩
            · omega
            have c1 : w.cell? ⟨b, off + k, none⟩ = some (.string (nm k)) := hc k hlt
            have hz := unhide HA k hlt
            have HS := hide (hasSlash25 (nm k) w hz)
            clear hc
            go_wp2_with fail
            refine (unhide HS).mono ?_
            rintro e w' ⟨he, rfl⟩
            rcases he with rfl | ⟨rfl, HN⟩
            · go_wp2
              go_ret
              exact ⟨.inl rfl, rfl⟩
            · have Hn : Hid (∀ j, j < k + 1 → NoSlash (nm j)) := by
                intro j hj
                by_cases e : j = k
                · rw [e]; exact unhide HN
                · exact unhide HF j (by omega)
              clear HN HS
              go_wp2
              go_round
              case rel => exact ⟨k + 1, by omega, by go_num, Hn⟩
              case measure => simp [intOf]; omega
          · have Hn : Hid (∀ k, k < K → (nm k).size ≤ 1048576 ∧ NoSlash (nm k)) := fun j hj => ⟨unhide HA j hj, unhide HF j (by omega)⟩
            go_wp2
            go_ret
            first | exact ⟨.inr ⟨rfl, Hn⟩, rfl⟩ | exact ⟨.inr rfl, rfl⟩
  · go_enter Try.func9, Try.ntmps9
    go_wp2
    all_goals (go_ret; exact ⟨.inl rfl, rfl⟩)

end Go.Proofs.Qxb6602165a
