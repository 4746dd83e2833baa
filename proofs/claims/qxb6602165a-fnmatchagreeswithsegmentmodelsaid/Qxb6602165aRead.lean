/-
  WALKS of the seat b6602165a: the functions that only read: elemEnd (26), isDeep (27), isDeepSeg (18), segEnd (30), hasSlash (25).
-/
import Derived.Test.Qxb6602165aRows
import Derived.Test.Qxb6602165aPlain
import Derived.WalkKit
import Derived.WalkSpells
import Derived.WalkLawsBesides
import Derived.Laws.Rows
namespace Go.Proofs.Qxb6602165a
open Go.RowKit Plain

theorem hide {p : Prop} (h : p) : Hid p := h
theorem unhide {p : Prop} (h : Hid p) : p := h
theorem ret_bool {a b : Bool} (h : a = b) : Ending.returned (.bool a) = .returned (.bool b) := by rw [h]
theorem ret_int {a b : Int} (h : a = b) : Ending.returned (.int .i64 a) = .returned (.int .i64 b) := by rw [h]

/-- n cells lie behind ao, below the block B. -/
def Row (B : Nat) (w : World) (ao : Option Addr) (n : Nat) (f : Nat → Value) : Prop :=
  n = 0 ∨ ∃ b off, ao = some ⟨b, off, none⟩ ∧ b < B ∧ ∀ k, k < n → w.cell? ⟨b, off + k, none⟩ = some (f k)

theorem Row.below {B : Nat} {w w' : World} {ao : Option Addr} {n : Nat} {f : Nat → Value} (h : Row B w ao n f) (hb : Below B w w') : Row B w' ao n f := by
  rcases h with h | ⟨b, off, h1, h2, h3⟩
  · exact .inl h
  · refine .inr ⟨b, off, h1, h2, fun k hk => ?_⟩
    rw [hb.cell (p := ⟨b, off + k, none⟩) h2]
    exact h3 k hk
theorem Row.mono {B B' : Nat} {w : World} {ao : Option Addr} {n : Nat} {f : Nat → Value} (h : Row B w ao n f) (hB : B ≤ B') : Row B' w ao n f := by
  rcases h with h | ⟨b, off, h1, h2, h3⟩
  · exact .inl h
  · exact .inr ⟨b, off, h1, by omega, h3⟩

/-- The cells of a program. -/
def pv (p : Nat → Nat) (k : Nat) : Value := .int .u8 (p k : Int)

structure Prg (p : Nat → Nat) (n : Nat) : Prop where
  byte : ∀ k, p k ≤ 255
  len : n ≤ 4096

def endI (p : Nat → Nat) (n k : Nat) : Int := match elemEnd p n k with | some e => (e : Int) | none => -1

theorem beq_yes {a b : Nat} (h : a = b) : ((a : Int) == (b : Int)) = true := by subst h; simp
theorem beq_no {a b : Nat} (h : a ≠ b) : ((a : Int) == (b : Int)) = false := beq_eq_false_iff_ne.2 (by omega)

set_option maxHeartbeats 1000000 in
theorem elemEnd26 (p : Nat → Nat) (n : Nat) (hp : Prg p n) {B : Nat} (ao : Option Addr) (c k : Nat) (w : World) (hr : Row B w ao n (pv p)) (hk : k < n) :
    Calls Try.prog 26 #[.slice ao n c, .int .i64 k] w fun e w' => e = .returned (.int .i64 (endI p n k)) ∧ w = w' := by
  rcases hr with h0 | ⟨b, off, rfl, _, hc⟩
  · omega
  have hn := hp.len
  have c0 : w.cell? ⟨b, off + k, none⟩ = some (.int .u8 (p k : Int)) := hc k hk
  have HC := hide hc
  have q1 := hp.byte (k + 1)
  clear hc hp
  by_cases e1 : p k = 92
  · have b1 : ((p k : Int) == 92) = true := by rw [e1]; rfl
    by_cases e2 : k + 1 < n
    · have HR : Hid (endI p n k = (k : Int) + 2) := by unfold Hid endI elemEnd; rw [if_pos e1, if_pos e2]; simp
      clear e1
      go_enter Try.func26, Try.ntmps26
      go_wp2
      go_ret
      exact ⟨ret_int (unhide HR).symm, rfl⟩
    · have HR : Hid (endI p n k = -1) := by unfold Hid endI elemEnd; rw [if_pos e1, if_neg e2]
      clear e1
      go_enter Try.func26, Try.ntmps26
      go_wp2
      go_ret
      exact ⟨ret_int (unhide HR).symm, rfl⟩
  · have b1 : ((p k : Int) == 92) = false := beq_no (b := 92) e1
    by_cases e3 : p k = 91
    · have b2 : ((p k : Int) == 91) = true := by rw [e3]; rfl
      by_cases e2 : k + 1 < n
      · have c1 : w.cell? ⟨b, off + (k + 1), none⟩ = some (.int .u8 (p (k + 1) : Int)) := unhide HC (k + 1) e2
        by_cases e4 : k + 2 + 2 * p (k + 1) ≤ n
        · have HR : Hid (endI p n k = (k : Int) + 2 + 2 * p (k + 1)) := by unfold Hid endI elemEnd; rw [if_neg e1, if_pos e3, if_pos ⟨e2, e4⟩]; simp
          clear e1 e3
          go_enter Try.func26, Try.ntmps26
          go_wp2
          go_ret
          exact ⟨ret_int (unhide HR).symm, rfl⟩
        · have HR : Hid (endI p n k = -1) := by unfold Hid endI elemEnd; rw [if_neg e1, if_pos e3, if_neg (fun h => e4 h.2)]
          clear e1 e3
          go_enter Try.func26, Try.ntmps26
          go_wp2
          go_ret
          exact ⟨ret_int (unhide HR).symm, rfl⟩
      · have HR : Hid (endI p n k = -1) := by unfold Hid endI elemEnd; rw [if_neg e1, if_pos e3, if_neg (fun h => e2 h.1)]
        clear e1 e3
        go_enter Try.func26, Try.ntmps26
        go_wp2
        go_ret
        exact ⟨ret_int (unhide HR).symm, rfl⟩
    · have b2 : ((p k : Int) == 91) = false := beq_no (b := 91) e3
      have HR : Hid (endI p n k = (k : Int) + 1) := by unfold Hid endI elemEnd; rw [if_neg e1, if_neg e3]; simp
      clear e1 e3
      go_enter Try.func26, Try.ntmps26
      go_wp2
      go_ret
      exact ⟨ret_int (unhide HR).symm, rfl⟩

def deepB (p : Nat → Nat) (n k : Nat) : Bool := decide (k + 1 < n ∧ p k = 42 ∧ p (k + 1) = 42)

set_option maxHeartbeats 1000000 in
theorem isDeep27 (p : Nat → Nat) (n : Nat) (hp : Prg p n) {B : Nat} (ao : Option Addr) (c k : Nat) (w : World) (hr : Row B w ao n (pv p)) (hk : k ≤ n) :
    Calls Try.prog 27 #[.slice ao n c, .int .i64 k] w fun e w' => e = .returned (.bool (deepB p n k)) ∧ w = w' := by
  have hn := hp.len
  by_cases e1 : k + 1 < n
  · rcases hr with h0 | ⟨b, off, rfl, _, hc⟩
    · omega
    have c0 : w.cell? ⟨b, off + k, none⟩ = some (.int .u8 (p k : Int)) := hc k (by omega)
    have c1 : w.cell? ⟨b, off + (k + 1), none⟩ = some (.int .u8 (p (k + 1) : Int)) := hc (k + 1) e1
    clear hc
    by_cases e2 : p k = 42
    · have b2 : ((p k : Int) == 42) = true := beq_yes (b := 42) e2
      have HR : Hid (deepB p n k = ((p (k + 1) : Int) == 42)) := by
        unfold Hid deepB
        rw [Bool.eq_iff_iff, decide_eq_true_iff, beq_iff_eq]
        exact ⟨fun h => by have := h.2.2; omega, fun h => ⟨e1, e2, by omega⟩⟩
      clear e2
      go_enter Try.func27, Try.ntmps27
      go_wp2
      go_ret
      exact ⟨ret_bool (unhide HR).symm, rfl⟩
    · have b2 : ((p k : Int) == 42) = false := beq_no (b := 42) e2
      have HR : Hid (deepB p n k = false) := decide_eq_false (fun h => e2 h.2.1)
      clear e2
      go_enter Try.func27, Try.ntmps27
      go_wp2
      go_ret
      exact ⟨ret_bool (unhide HR).symm, rfl⟩
  · have HR : Hid (deepB p n k = false) := decide_eq_false (fun h => e1 h.1)
    clear hr
    go_enter Try.func27, Try.ntmps27
    go_wp2
    go_ret
    exact ⟨ret_bool (unhide HR).symm, rfl⟩

def deepSegB (p : Nat → Nat) (s e : Nat) : Bool := decide (e = s + 2 ∧ p s = 42 ∧ p (s + 1) = 42)

set_option maxHeartbeats 1000000 in
theorem isDeepSeg18 (p : Nat → Nat) (n : Nat) (hp : Prg p n) {B : Nat} (ao : Option Addr) (c s t : Nat) (w : World) (hr : Row B w ao n (pv p)) (hs : s ≤ n) (ht : t ≤ n) :
    Calls Try.prog 18 #[.slice ao n c, .int .i64 s, .int .i64 t] w fun e w' => e = .returned (.bool (deepSegB p s t)) ∧ w = w' := by
  have hn := hp.len
  by_cases e1 : t = s + 2
  · have b1 : ((t : Int) == (s : Int) + 2) = true := by rw [beq_iff_eq]; omega
    rcases hr with h0 | ⟨b, off, rfl, _, hc⟩
    · omega
    have c0 : w.cell? ⟨b, off + s, none⟩ = some (.int .u8 (p s : Int)) := hc s (by omega)
    have c1 : w.cell? ⟨b, off + (s + 1), none⟩ = some (.int .u8 (p (s + 1) : Int)) := hc (s + 1) (by omega)
    have hs2 : s + 2 ≤ n := by omega
    clear hc
    by_cases e2 : p s = 42
    · have b2 : ((p s : Int) == 42) = true := beq_yes (b := 42) e2
      have HR : Hid (deepSegB p s t = ((p (s + 1) : Int) == 42)) := by
        unfold Hid deepSegB
        rw [Bool.eq_iff_iff, decide_eq_true_iff, beq_iff_eq]
        exact ⟨fun h => by have := h.2.2; omega, fun h => ⟨e1, e2, by omega⟩⟩
      clear e2 e1
      go_enter Try.func18, Try.ntmps18
      go_wp2
      go_ret
      exact ⟨ret_bool (unhide HR).symm, rfl⟩
    · have b2 : ((p s : Int) == 42) = false := beq_no (b := 42) e2
      have HR : Hid (deepSegB p s t = false) := decide_eq_false (fun h => e2 h.2.1)
      clear e2 e1
      go_enter Try.func18, Try.ntmps18
      go_wp2
      go_ret
      exact ⟨ret_bool (unhide HR).symm, rfl⟩
  · have b1 : ((t : Int) == (s : Int) + 2) = false := beq_eq_false_iff_ne.2 (by omega)
    have HR : Hid (deepSegB p s t = false) := decide_eq_false (fun h => e1 h.1)
    clear e1 hr
    go_enter Try.func18, Try.ntmps18
    go_wp2
    go_ret
    exact ⟨ret_bool (unhide HR).symm, rfl⟩

theorem endI_some {p : Nat → Nat} {n k e : Nat} (h : elemEnd p n k = some e) : endI p n k = (e : Int) := by unfold endI; rw [h]
theorem endI_none {p : Nat → Nat} {n k : Nat} (h : elemEnd p n k = none) : endI p n k = -1 := by unfold endI; rw [h]

set_option maxHeartbeats 1000000 in
theorem segEnd30 (p : Nat → Nat) (n : Nat) (hp : Prg p n) {B : Nat} (ao : Option Addr) (c s m : Nat) (w : World) (hr : Row B w ao n (pv p)) (hs : Seg p n s m) :
    Calls Try.prog 30 #[.slice ao n c, .int .i64 s] w fun e w' => e = .returned (.int .i64 (it p n s m : Int)) ∧ w = w' := by
  have hn := hp.len
  have HE := hide (fun k => elemEnd26 p n hp ao c k w hr)
  have HS := hide hs
  have HR := hide hr
  clear hs hr
  go_enter Try.func30, Try.ntmps30
  go_wp2
  go_loop [5] (fun i => ∃ j k : Nat, j ≤ m ∧ k ≤ n ∧ i = .int .i64 k ∧ Hid (k = it p n s j)) (fun i => n - (intOf i).toNat)
  case atStart => exact ⟨0, s, Nat.zero_le _, (unhide HS).le 0 (Nat.zero_le _), rfl, rfl⟩
  case round =>
    obtain ⟨j, k, hj, hk, rfl, HK⟩ := hrel
    by_cases hlt : j < m
    · have h1 : k < n := by rw [unhide HK]; exact (unhide HS).lt j hlt
      have h2 : p k ≠ 47 := by rw [unhide HK]; exact (unhide HS).nsl j hlt
      have h3 := (unhide HS).ok j hlt
      rw [← unhide HK] at h3
      rcases unhide HR with h0 | ⟨b, off, rfl, _, hc⟩
      · omega
      have c0 : w.cell? ⟨b, off + k, none⟩ = some (.int .u8 (p k : Int)) := hc k h1
      have b1 : ((p k : Int) != 47) = true := by rw [bne_iff_ne]; omega
      have HE1 := hide (unhide HE k h1)
      have h4 := endI_some h3
      have h5 : it p n s (j + 1) ≤ n := (unhide HS).le _ hlt
      have h6 : k < it p n s (j + 1) := elemEnd_gt h3
      rw [h4] at HE1
      obtain ⟨k', hk'⟩ : ∃ k', k' = it p n s (j + 1) := ⟨_, rfl⟩
      rw [← hk'] at HE1 h5 h6
      have HK' := hide hk'
      clear hc h2 h3 h4 hk'
      go_wp2_with fail
      refine (unhide HE1).mono ?_
      rintro e w' ⟨rfl, rfl⟩
      go_wp2
      go_round
      case rel => exact ⟨j + 1, k', hlt, h5, rfl, HK'⟩
      case measure => simp [intOf]; omega
    · have hjm : j = m := by omega
      subst hjm
      have HQ := hide (congrArg (fun x : Nat => (x : Int)) (unhide HK))
      rcases (unhide HS).fin with f | ⟨f1, f2⟩
      · have hkn : n ≤ k := by rw [unhide HK, f]; exact Nat.le_refl _
        clear f
        go_wp2
        go_ret
        exact ⟨ret_int (unhide HQ), rfl⟩
      · rw [← unhide HK] at f1 f2
        rcases unhide HR with h0 | ⟨b, off, rfl, _, hc⟩
        · omega
        have c0 : w.cell? ⟨b, off + k, none⟩ = some (.int .u8 (p k : Int)) := hc k f1
        have b1 : ((p k : Int) != 47) = false := by rw [f2]; rfl
        clear hc f2
        go_wp2
        go_ret
        exact ⟨ret_int (unhide HQ), rfl⟩

set_option maxHeartbeats 1000000 in
theorem hasSlash25 (s : ByteArray) (w : World) (hs : s.size ≤ 1048576) :
    Calls Try.prog 25 #[.string s] w fun e w' => (e = .returned (.bool true) ∨ (e = .returned (.bool false) ∧ Hid (∀ j (h : j < s.size), (s[j]'h).toNat ≠ 47))) ∧ w = w' := by
  go_enter Try.func25, Try.ntmps25
  go_wp2
  go_loop [3] (fun i => ∃ k : Nat, k ≤ s.size ∧ i = .int .i64 k ∧ Hid (∀ j (h : j < s.size), j < k → (s[j]'h).toNat ≠ 47)) (fun i => s.size - (intOf i).toNat)
  case atStart => exact ⟨0, Nat.zero_le _, rfl, fun j h hj => by omega⟩
  case round =>
    obtain ⟨k, hk, rfl, HF⟩ := hrel
    by_cases hlt : k < s.size
    · by_cases he : (s[k]'hlt).toNat = 47
      · have b1 : (((s[k]'hlt).toNat : Int) == 47) = true := beq_yes (b := 47) he
        clear he
        go_wp2
        go_ret
        exact ⟨.inl rfl, rfl⟩
      · have b1 : (((s[k]'hlt).toNat : Int) == 47) = false := beq_no (b := 47) he
        have Hn : Hid (∀ j (h : j < s.size), j < k + 1 → (s[j]'h).toNat ≠ 47) := by
          intro j h hj
          by_cases e : j = k
          · subst e; exact he
          · exact unhide HF j h (by omega)
        clear he
        go_wp2
        go_round
        case rel => exact ⟨k + 1, by omega, by go_num, Hn⟩
        case measure => simp [intOf]; omega
    · have Hn : Hid (∀ j (h : j < s.size), (s[j]'h).toNat ≠ 47) := fun j h => unhide HF j h (by omega)
      go_wp2
      go_ret
      first | exact ⟨.inr ⟨rfl, Hn⟩, rfl⟩ | exact ⟨.inr rfl, rfl⟩

end Go.Proofs.Qxb6602165a
