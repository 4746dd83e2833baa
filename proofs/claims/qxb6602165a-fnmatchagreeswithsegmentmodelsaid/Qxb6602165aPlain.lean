/-
  The seat b6602165a, PLAIN: what a pattern accepts; the set simulation and the greedy search both answer it. No Go in sight.
-/
namespace Go.Proofs.Qxb6602165a.Plain

/-- From place j, with the things from t on still to be taken, the end can be reached, in at most so many steps. -/
def AccF (m N : Nat) (st : Nat → Bool) (mt : Nat → Nat → Bool) : Nat → Nat → Nat → Prop
  | 0, j, t => j = m ∧ t = N
  | f + 1, j, t => (j = m ∧ t = N) ∨ (j < m ∧ st j = true ∧ AccF m N st mt f (j + 1) t) ∨ (j < m ∧ st j = true ∧ t < N ∧ AccF m N st mt f j (t + 1)) ∨
      (j < m ∧ st j = false ∧ t < N ∧ mt j t = true ∧ AccF m N st mt f (j + 1) (t + 1))

/-- From place j, with the things from t on still to be taken, the end can be reached. -/
def Acc (m N : Nat) (st : Nat → Bool) (mt : Nat → Nat → Bool) (j t : Nat) : Prop := ∃ f, AccF m N st mt f j t

section
variable {m N : Nat} {st : Nat → Bool} {mt : Nat → Nat → Bool} {j t : Nat}
theorem Acc.done : Acc m N st mt m N := ⟨0, rfl, rfl⟩
theorem Acc.skip (a : j < m) (b : st j = true) (h : Acc m N st mt (j + 1) t) : Acc m N st mt j t := by
  obtain ⟨f, h⟩ := h
  exact ⟨f + 1, .inr (.inl ⟨a, b, h⟩)⟩
theorem Acc.take (a : j < m) (b : st j = true) (c : t < N) (h : Acc m N st mt j (t + 1)) : Acc m N st mt j t := by
  obtain ⟨f, h⟩ := h
  exact ⟨f + 1, .inr (.inr (.inl ⟨a, b, c, h⟩))⟩
theorem Acc.one (a : j < m) (b : st j = false) (c : t < N) (d : mt j t = true) (h : Acc m N st mt (j + 1) (t + 1)) : Acc m N st mt j t := by
  obtain ⟨f, h⟩ := h
  exact ⟨f + 1, .inr (.inr (.inr ⟨a, b, c, d, h⟩))⟩
theorem Acc.inv (h : Acc m N st mt j t) : (j = m ∧ t = N) ∨ (j < m ∧ st j = true ∧ Acc m N st mt (j + 1) t) ∨ (j < m ∧ st j = true ∧ t < N ∧ Acc m N st mt j (t + 1)) ∨
    (j < m ∧ st j = false ∧ t < N ∧ mt j t = true ∧ Acc m N st mt (j + 1) (t + 1)) := by
  obtain ⟨f, h⟩ := h
  cases f with
  | zero => exact .inl h
  | succ f =>
    rcases h with h | ⟨a, b, c⟩ | ⟨a, b, c, d⟩ | ⟨a, b, c, d, e⟩
    · exact .inl h
    · exact .inr (.inl ⟨a, b, f, c⟩)
    · exact .inr (.inr (.inl ⟨a, b, c, f, d⟩))
    · exact .inr (.inr (.inr ⟨a, b, c, d, f, e⟩))
theorem Acc.ind {P : Nat → Nat → Prop} (h : Acc m N st mt j t) (done : P m N)
    (skip : ∀ j t, j < m → st j = true → Acc m N st mt (j + 1) t → P (j + 1) t → P j t)
    (take : ∀ j t, j < m → st j = true → t < N → Acc m N st mt j (t + 1) → P j (t + 1) → P j t)
    (one : ∀ j t, j < m → st j = false → t < N → mt j t = true → Acc m N st mt (j + 1) (t + 1) → P (j + 1) (t + 1) → P j t) : P j t := by
  obtain ⟨f, h⟩ := h
  induction f generalizing j t with
  | zero =>
    obtain ⟨rfl, rfl⟩ := h
    exact done
  | succ f ih =>
    rcases h with ⟨rfl, rfl⟩ | ⟨a, b, c⟩ | ⟨a, b, c, d⟩ | ⟨a, b, c, d, e⟩
    · exact done
    · exact skip j t a b ⟨f, c⟩ (ih c)
    · exact take j t a b c ⟨f, d⟩ (ih d)
    · exact one j t a b c d ⟨f, e⟩ (ih e)
end

/-! ### the set simulation -/
def cl (st v : Nat → Bool) : Nat → Bool
  | 0 => v 0
  | j + 1 => v (j + 1) || (cl st v j && st j)

def stp (m : Nat) (st mt v : Nat → Bool) : Nat → Bool
  | 0 => decide (0 < m) && v 0 && st 0
  | i + 1 => (decide (i + 1 < m) && v (i + 1) && st (i + 1)) || (v i && !st i && mt i)

def run (m : Nat) (st : Nat → Bool) (mt : Nat → Nat → Bool) : Nat → Nat → Bool
  | 0 => cl st (fun j => j == 0)
  | t + 1 => cl st (stp m st (fun j => mt j t) (run m st mt t))

section
variable {m N : Nat} {st : Nat → Bool} {mt : Nat → Nat → Bool}

theorem Acc.le {j t : Nat} (h : Acc m N st mt j t) : j ≤ m ∧ t ≤ N := by
  refine h.ind (P := fun j t => j ≤ m ∧ t ≤ N) ⟨Nat.le_refl _, Nat.le_refl _⟩ ?_ ?_ ?_
  · intro j t a _ _ ih; exact ⟨by omega, ih.2⟩
  · intro j t a _ b _ ih; exact ⟨by omega, by omega⟩
  · intro j t a _ b _ _ ih; exact ⟨by omega, by omega⟩

theorem cl_closed (v : Nat → Bool) (j : Nat) (h : cl st v j = true) (hs : st j = true) : cl st v (j + 1) = true := by simp [cl, h, hs]
theorem run_closed (t j : Nat) (h : run m st mt t j = true) (hs : st j = true) : run m st mt t (j + 1) = true := by
  cases t with
  | zero => exact cl_closed _ j h hs
  | succ t => exact cl_closed _ j h hs
theorem cl_of (v : Nat → Bool) (j : Nat) (h : v j = true) : cl st v j = true := by
  cases j with
  | zero => exact h
  | succ j => simp [cl, h]

theorem cl_ex (v : Nat → Bool) (P : Nat → Prop) (hP : ∀ j, j < m → st j = true → P (j + 1) → P j) :
    (∃ j, j ≤ m ∧ cl st v j = true ∧ P j) ↔ ∃ j, j ≤ m ∧ v j = true ∧ P j := by
  constructor
  · rintro ⟨j, hj, h, hp⟩
    induction j with
    | zero => exact ⟨0, hj, h, hp⟩
    | succ j ih =>
      simp only [cl, Bool.or_eq_true, Bool.and_eq_true] at h
      rcases h with h | ⟨h1, h2⟩
      · exact ⟨j + 1, hj, h, hp⟩
      · exact ih (by omega) h1 (hP j (by omega) h2 hp)
  · rintro ⟨j, hj, h, hp⟩
    exact ⟨j, hj, cl_of v j h, hp⟩

theorem step_go {V : Nat → Bool} (hc : ∀ j, V j = true → st j = true → V (j + 1) = true) {t : Nat} (ht : t < N) {j u : Nat} (h : Acc m N st mt j u) (hu : u = t) (hV : V j = true) :
    ∃ i, i ≤ m ∧ stp m st (fun j => mt j t) V i = true ∧ Acc m N st mt i (t + 1) := by
  refine h.ind (P := fun j u => u = t → V j = true → ∃ i, i ≤ m ∧ stp m st (fun j => mt j t) V i = true ∧ Acc m N st mt i (t + 1)) ?_ ?_ ?_ ?_ hu hV
  · intro hu _; omega
  · intro j u a b _ ih hu hV
    exact ih hu (hc _ hV b)
  · intro j u a b c d _ hu hV
    subst hu
    refine ⟨j, by omega, ?_, d⟩
    cases j with
    | zero => simp [stp, a, hV, b]
    | succ j => simp [stp, a, hV, b]
  · intro j u a b c d e _ hu hV
    subst hu
    exact ⟨j + 1, by omega, by simp [stp, hV, b, d], e⟩

theorem step_iff {V : Nat → Bool} (hc : ∀ j, V j = true → st j = true → V (j + 1) = true) {t : Nat} (ht : t < N) :
    (∃ j, j ≤ m ∧ stp m st (fun j => mt j t) V j = true ∧ Acc m N st mt j (t + 1)) ↔ ∃ j, j ≤ m ∧ V j = true ∧ Acc m N st mt j t := by
  constructor
  · rintro ⟨j, hj, h, ha⟩
    cases j with
    | zero =>
      simp only [stp, Bool.and_eq_true, decide_eq_true_eq] at h
      exact ⟨0, hj, h.1.2, .take h.1.1 h.2 ht ha⟩
    | succ i =>
      simp only [stp, Bool.or_eq_true, Bool.and_eq_true, decide_eq_true_eq, Bool.not_eq_true'] at h
      rcases h with h | h
      · exact ⟨i + 1, hj, h.1.2, .take h.1.1 h.2 ht ha⟩
      · exact ⟨i, by omega, h.1.1, .one (by omega) h.1.2 ht h.2 ha⟩
  · rintro ⟨j, hj, h, ha⟩
    exact step_go hc ht ha rfl h

theorem run_inv (t : Nat) (ht : t ≤ N) : (∃ j, j ≤ m ∧ run m st mt t j = true ∧ Acc m N st mt j t) ↔ Acc m N st mt 0 0 := by
  induction t with
  | zero =>
    show (∃ j, j ≤ m ∧ cl st (fun j => j == 0) j = true ∧ Acc m N st mt j 0) ↔ _
    rw [cl_ex _ (fun j => Acc m N st mt j 0) (fun j a b c => .skip a b c)]
    constructor
    · rintro ⟨j, _, h, ha⟩
      have : j = 0 := by simpa using h
      rw [← this]; rw [this] at ha; rw [this]; exact ha
    · intro h
      exact ⟨0, Nat.zero_le _, rfl, h⟩
  | succ t ih =>
    show (∃ j, j ≤ m ∧ cl st (stp m st (fun j => mt j t) (run m st mt t)) j = true ∧ Acc m N st mt j (t + 1)) ↔ _
    rw [cl_ex _ (fun j => Acc m N st mt j (t + 1)) (fun j a b c => .skip a b c), step_iff (fun j => run_closed t j) (by omega), ih (by omega)]

theorem run_iff : run m st mt N m = true ↔ Acc m N st mt 0 0 := by
  rw [← run_inv N (Nat.le_refl _)]
  constructor
  · exact fun h => ⟨m, Nat.le_refl _, h, .done⟩
  · rintro ⟨j, _, h, ha⟩
    have key : ∀ {j u : Nat}, Acc m N st mt j u → u = N → run m st mt N j = true → run m st mt N m = true := by
      intro j u ha
      refine ha.ind (P := fun j u => u = N → run m st mt N j = true → run m st mt N m = true) ?_ ?_ ?_ ?_
      · exact fun _ h => h
      · exact fun j u a b _ ih hu h => ih hu (run_closed N _ h b)
      · intro j u _ _ c _ _ hu; omega
      · intro j u _ _ c _ _ _ hu; omega
    exact key ha rfl h

/-! ### the greedy search -/
theorem star_out {s u : Nat} (h : Acc m N st mt s u) (hs : st s = true) (hm : s < m) : ∃ x, u ≤ x ∧ Acc m N st mt (s + 1) x := by
  refine h.ind (P := fun s u => st s = true → s < m → ∃ x, u ≤ x ∧ Acc m N st mt (s + 1) x) ?_ ?_ ?_ ?_ hs hm
  · intro _ hm; omega
  · intro s u _ _ c _ _ _
    exact ⟨_, Nat.le_refl _, c⟩
  · intro s u _ _ _ _ ih hs hm
    obtain ⟨x, hx, ha⟩ := ih hs hm
    exact ⟨x, by omega, ha⟩
  · intro s u _ b _ _ _ _ hs _
    rw [hs] at b; cases b

theorem star_in {s u : Nat} (d : Nat) (h : Acc m N st mt s (u + d)) (hs : st s = true) (hm : s < m) : Acc m N st mt s u := by
  induction d with
  | zero => exact h
  | succ d ih =>
    have := h.le
    exact ih (.take hm hs (by omega) h)

theorem fixed_out {a u : Nat} (d : Nat) (h : Acc m N st mt a u) (hf : ∀ i, a ≤ i → i < a + d → st i = false) (hm : a + d ≤ m) : Acc m N st mt (a + d) (u + d) := by
  induction d with
  | zero => exact h
  | succ d ih =>
    have h1 := ih (fun i a b => hf i a (by omega)) (by omega)
    have hs := hf (a + d) (by omega) (by omega)
    have hlt : a + d < m := by omega
    generalize ha : a + d = x at h1 hs hlt
    generalize hu : u + d = y at h1
    have e1 : a + (d + 1) = x + 1 := by omega
    have e2 : u + (d + 1) = y + 1 := by omega
    rw [e1, e2]
    rcases h1.inv with ⟨e1, _⟩ | ⟨_, b, _⟩ | ⟨_, b, _, _⟩ | ⟨_, _, _, _, e⟩
    · omega
    · rw [hs] at b; cases b
    · rw [hs] at b; cases b
    · exact e

/-- What the search knows at (j, t): no star met; or the star at s was last given the things up to sb. -/
def Inv (m N : Nat) (st : Nat → Bool) (mt : Nat → Nat → Bool) (j t : Nat) : Option (Nat × Nat) → Prop
  | none => Acc m N st mt 0 0 ↔ Acc m N st mt j t
  | some (s, sb) => s < m ∧ st s = true ∧ s < j ∧ sb ≤ t ∧ j + sb = t + s + 1 ∧ (∀ i, s < i → i < j → st i = false) ∧ (Acc m N st mt (s + 1) sb ↔ Acc m N st mt j t) ∧ (Acc m N st mt 0 0 ↔ Acc m N st mt s sb)

theorem inv_start : Inv m N st mt 0 0 none := Iff.rfl

theorem out_at {s sb j t : Nat} (hj : j ≤ m) (h : Inv m N st mt j t (some (s, sb))) (ha : Acc m N st mt s sb) : ∃ x, t ≤ x ∧ Acc m N st mt j x := by
  obtain ⟨h1, h2, h3, h4, h5, h6, h7, h8⟩ := h
  obtain ⟨x, hx, hax⟩ := star_out ha h2 h1
  have := fixed_out (j - (s + 1)) hax (fun i a b => h6 i (by omega) (by omega)) (by omega)
  rw [show s + 1 + (j - (s + 1)) = j by omega] at this
  exact ⟨_, by omega, this⟩

theorem inv_meet {j t : Nat} {sp : Option (Nat × Nat)} (h : Inv m N st mt j t sp) (hj : j < m) (hs : st j = true) : Acc m N st mt 0 0 ↔ Acc m N st mt j t := by
  cases sp with
  | none => exact h
  | some q =>
    obtain ⟨s, sb⟩ := q
    have h0 := h
    obtain ⟨h1, h2, h3, h4, h5, h6, h7, h8⟩ := h
    rw [h8]
    constructor
    · intro ha
      obtain ⟨x, hx, hax⟩ := out_at (by omega) h0 ha
      exact star_in (x - t) (by rw [show t + (x - t) = x by omega]; exact hax) hs hj
    · intro ha
      exact .skip h1 h2 (h7.2 ha)

theorem inv_star {j t : Nat} {sp : Option (Nat × Nat)} (h : Inv m N st mt j t sp) (hj : j < m) (hs : st j = true) : Inv m N st mt (j + 1) t (some (j, t)) :=
  ⟨hj, hs, Nat.lt_succ_self _, Nat.le_refl _, by omega, fun i a b => by omega, Iff.rfl, inv_meet h hj hs⟩

theorem acc_one {j t : Nat} (hj : j < m) (hs : st j = false) (ht : t < N) (hm : mt j t = true) : Acc m N st mt j t ↔ Acc m N st mt (j + 1) (t + 1) := by
  constructor
  · intro h
    rcases h.inv with ⟨e1, _⟩ | ⟨_, b, _⟩ | ⟨_, b, _, _⟩ | ⟨_, _, _, _, e⟩
    · omega
    · rw [hs] at b; cases b
    · rw [hs] at b; cases b
    · exact e
  · exact .one hj hs ht hm

theorem inv_one {j t : Nat} {sp : Option (Nat × Nat)} (h : Inv m N st mt j t sp) (hj : j < m) (hs : st j = false) (ht : t < N) (hm : mt j t = true) : Inv m N st mt (j + 1) (t + 1) sp := by
  have key := acc_one hj hs ht hm
  cases sp with
  | none => exact Iff.trans h key
  | some q =>
    obtain ⟨s, sb⟩ := q
    obtain ⟨h1, h2, h3, h4, h5, h6, h7, h8⟩ := h
    refine ⟨h1, h2, by omega, by omega, by omega, fun i a b => ?_, h7.trans key, h8⟩
    by_cases e : i = j
    · rw [e]; exact hs
    · exact h6 i a (by omega)

theorem acc_not_one {j t : Nat} (hs : st j = false) (ht : t < N) (hm : mt j t = false) : ¬ Acc m N st mt j t := by
  intro h
  rcases h.inv with ⟨_, e1⟩ | ⟨_, b, _⟩ | ⟨_, b, _, _⟩ | ⟨_, _, _, d, _⟩
  · omega
  · rw [hs] at b; cases b
  · rw [hs] at b; cases b
  · rw [hm] at d; cases d

theorem acc_not_end {j t : Nat} (hj : m ≤ j) (ht : t < N) : ¬ Acc m N st mt j t := by
  intro h
  rcases h.inv with ⟨_, e1⟩ | ⟨a, _⟩ | ⟨a, _⟩ | ⟨a, _⟩ <;> omega

theorem inv_back {j t s sb : Nat} (h : Inv m N st mt j t (some (s, sb))) (hn : ¬ Acc m N st mt j t) (ht : t < N) : Inv m N st mt (s + 1) (sb + 1) (some (s, sb + 1)) := by
  obtain ⟨h1, h2, h3, h4, h5, h6, h7, h8⟩ := h
  refine ⟨h1, h2, by omega, by omega, by omega, fun i a b => by omega, Iff.rfl, h8.trans ⟨fun ha => ?_, fun ha => .take h1 h2 (by omega) ha⟩⟩
  rcases ha.inv with ⟨e1, _⟩ | ⟨_, _, c⟩ | ⟨_, _, _, d⟩ | ⟨_, b, _⟩
  · omega
  · exact absurd (h7.1 c) hn
  · exact d
  · rw [h2] at b; cases b

theorem inv_end {j : Nat} {sp : Option (Nat × Nat)} (hj : j ≤ m) (h : Inv m N st mt j N sp) : Acc m N st mt 0 0 ↔ Acc m N st mt j N := by
  cases sp with
  | none => exact h
  | some q =>
    obtain ⟨s, sb⟩ := q
    have h0 := h
    obtain ⟨h1, h2, h3, h4, h5, h6, h7, h8⟩ := h
    rw [h8]
    constructor
    · intro ha
      obtain ⟨x, hx, hax⟩ := out_at hj h0 ha
      have := hax.le
      have e : x = N := by omega
      rw [e] at hax
      exact hax
    · intro ha
      exact .skip h1 h2 (h7.2 ha)

theorem acc_end {j : Nat} (hj : j ≤ m) : Acc m N st mt j N ↔ ∀ i, j ≤ i → i < m → st i = true := by
  constructor
  · intro h
    have key : ∀ {j u : Nat}, Acc m N st mt j u → u = N → ∀ i, j ≤ i → i < m → st i = true := by
      intro j u ha
      refine ha.ind (P := fun j u => u = N → ∀ i, j ≤ i → i < m → st i = true) ?_ ?_ ?_ ?_
      · intro _ i a b; omega
      · intro j u a b _ ih hu i c d
        by_cases e : i = j
        · rw [e]; exact b
        · exact ih hu i (by omega) d
      · intro j u _ _ c _ _ hu; omega
      · intro j u _ _ c _ _ _ hu; omega
    exact key h rfl
  · intro h
    obtain ⟨d, hd⟩ : ∃ d, m = j + d := ⟨m - j, by omega⟩
    induction d generalizing j with
    | zero => 
      have : j = m := by omega
      rw [this]; exact .done
    | succ d ih => exact .skip (by omega) (h j (Nat.le_refl _) (by omega)) (ih (by omega) (fun i a b => h i (by omega) b) (by omega))
end

/-! ### a program's elements and segments -/
section
variable (p : Nat → Nat) (n : Nat)

def elemEnd (k : Nat) : Option Nat :=
  if p k = 92 then (if k + 1 < n then some (k + 2) else none)
  else if p k = 91 then (if k + 1 < n ∧ k + 2 + 2 * p (k + 1) ≤ n then some (k + 2 + 2 * p (k + 1)) else none)
  else some (k + 1)

def nxt (k : Nat) : Nat := (elemEnd p n k).getD (k + 1)
def it (s : Nat) : Nat → Nat
  | 0 => s
  | j + 1 => nxt p n (it s j)

/-- m elements from s on, up to a slash or the program's end. -/
structure Seg (s m : Nat) : Prop where
  lt : ∀ j, j < m → it p n s j < n
  nsl : ∀ j, j < m → p (it p n s j) ≠ 47
  ok : ∀ j, j < m → elemEnd p n (it p n s j) = some (it p n s (j + 1))
  fin : it p n s m = n ∨ (it p n s m < n ∧ p (it p n s m) = 47)

/-- What wellFormed looks at from k on, in at most so many rounds. -/
def WFF : Nat → Nat → Nat → Bool → Prop
  | 0, k, _, _ => k = n
  | f + 1, k, ss, ps => k = n ∨ (k < n ∧ p k = 47 ∧ WFF f (k + 1) (k + 1) false) ∨ (k < n ∧ p k = 42 ∧ (ps = true → k = ss + 1 ∧ (k + 1 < n → p (k + 1) = 47)) ∧ WFF f (k + 1) ss true) ∨
      ∃ e, k < n ∧ p k ≠ 47 ∧ p k ≠ 42 ∧ elemEnd p n k = some e ∧ WFF f e ss false
def WF (k ss : Nat) (ps : Bool) : Prop := ∃ f, WFF p n f k ss ps

variable {p n}

theorem WF.done {ss : Nat} {ps : Bool} : WF p n n ss ps := ⟨0, rfl⟩
theorem WF.slash {k ss : Nat} {ps : Bool} (a : k < n) (b : p k = 47) (h : WF p n (k + 1) (k + 1) false) : WF p n k ss ps := by
  obtain ⟨f, h⟩ := h
  exact ⟨f + 1, .inr (.inl ⟨a, b, h⟩)⟩
theorem WF.star {k ss : Nat} {ps : Bool} (a : k < n) (b : p k = 42) (c : ps = true → k = ss + 1 ∧ (k + 1 < n → p (k + 1) = 47)) (h : WF p n (k + 1) ss true) : WF p n k ss ps := by
  obtain ⟨f, h⟩ := h
  exact ⟨f + 1, .inr (.inr (.inl ⟨a, b, c, h⟩))⟩
theorem WF.elem {k e ss : Nat} {ps : Bool} (a : k < n) (b : p k ≠ 47) (c : p k ≠ 42) (d : elemEnd p n k = some e) (h : WF p n e ss false) : WF p n k ss ps := by
  obtain ⟨f, h⟩ := h
  exact ⟨f + 1, .inr (.inr (.inr ⟨e, a, b, c, d, h⟩))⟩

theorem elemEnd_gt {k e : Nat} (h : elemEnd p n k = some e) : k < e := by
  unfold elemEnd at h
  split at h
  · split at h
    · cases h; omega
    · cases h
  · split at h
    · split at h
      · cases h; omega
      · cases h
    · cases h; omega

theorem elemEnd_le {k e : Nat} (hk : k < n) (h : elemEnd p n k = some e) : e ≤ n := by
  unfold elemEnd at h
  split at h
  · split at h
    · cases h; omega
    · cases h
  · split at h
    · split at h
      · cases h; omega
      · cases h
    · cases h; omega

theorem nxt_gt (k : Nat) : k < nxt p n k := by
  unfold nxt
  cases h : elemEnd p n k with
  | none => exact Nat.lt_succ_self _
  | some e => exact elemEnd_gt h

theorem it_ge (s j : Nat) : s + j ≤ it p n s j := by
  induction j with
  | zero => exact Nat.le_refl _
  | succ j ih =>
    have := nxt_gt (p := p) (n := n) (it p n s j)
    show s + (j + 1) ≤ nxt p n (it p n s j)
    omega

theorem it_succ (s j : Nat) : it p n s (j + 1) = it p n (nxt p n s) j := by
  induction j with
  | zero => rfl
  | succ j ih =>
    show nxt p n (it p n s (j + 1)) = nxt p n (it p n (nxt p n s) j)
    rw [ih]

theorem Seg.le {s m : Nat} (h : Seg p n s m) (j : Nat) (hj : j ≤ m) : it p n s j ≤ n := by
  by_cases e : j = m
  · rw [e]; rcases h.fin with f | f <;> omega
  · exact Nat.le_of_lt (h.lt j (by omega))

theorem Seg.inc {s m : Nat} (_h : Seg p n s m) (j : Nat) : it p n s j < it p n s (j + 1) := nxt_gt _
theorem it_mono (s : Nat) {i j : Nat} (h : i ≤ j) : it p n s i + (j - i) ≤ it p n s j := by
  induction j with
  | zero =>
    have : i = 0 := by omega
    subst this; exact Nat.le_refl _
  | succ j ih =>
    by_cases e : i = j + 1
    · subst e; omega
    · have := ih (by omega)
      have h2 := nxt_gt (p := p) (n := n) (it p n s j)
      show _ ≤ nxt p n (it p n s j)
      omega

theorem Seg.cons {s m : Nat} (hs : s < n) (h1 : p s ≠ 47) {e : Nat} (he : elemEnd p n s = some e) (h : Seg p n e m) : Seg p n s (m + 1) := by
  have hn : nxt p n s = e := by unfold nxt; rw [he]; rfl
  have hi : ∀ j, it p n s (j + 1) = it p n e j := fun j => by rw [it_succ, hn]
  constructor
  · intro j hj
    cases j with
    | zero => exact hs
    | succ j => rw [hi]; exact h.lt j (by omega)
  · intro j hj
    cases j with
    | zero => exact h1
    | succ j => rw [hi]; exact h.nsl j (by omega)
  · intro j hj
    cases j with
    | zero => rw [hi]; exact he
    | succ j => rw [hi, hi]; exact h.ok j (by omega)
  · rw [hi]; exact h.fin

theorem it_cons {s e : Nat} (he : elemEnd p n s = some e) (j : Nat) : it p n s (j + 1) = it p n e j := by
  rw [it_succ]
  have hn : nxt p n s = e := by unfold nxt; rw [he]; rfl
  rw [hn]

theorem elemEnd_star {k : Nat} (h : p k = 42) : elemEnd p n k = some (k + 1) := by
  unfold elemEnd
  rw [if_neg (by omega), if_neg (by omega)]

theorem wf_seg {k ss : Nat} {ps : Bool} (h : WF p n k ss ps) :
    ∃ m, Seg p n k m ∧ (∀ j, j + 1 < m → p (it p n k j) = 42 → p (it p n k (j + 1)) = 42 → it p n k (j + 1) = ss + 1 ∧ j + 2 = m) ∧
      (ps = true → 0 < m → p k = 42 → k = ss + 1 ∧ m = 1) ∧ (it p n k m = n ∨ WF p n (it p n k m + 1) (it p n k m + 1) false) := by
  obtain ⟨f, h⟩ := h
  induction f generalizing k ss ps with
  | zero =>
    have hk : k = n := h
    subst hk
    exact ⟨0, ⟨fun j hj => by omega, fun j hj => by omega, fun j hj => by omega, .inl rfl⟩, fun j hj => by omega, fun _ h => by omega, .inl rfl⟩
  | succ f ih0 =>
    rcases h with hk | ⟨a, b, c⟩ | ⟨a, b, c, d⟩ | ⟨e, a, b, c, d, h⟩
    · subst hk
      exact ⟨0, ⟨fun j hj => by omega, fun j hj => by omega, fun j hj => by omega, .inl rfl⟩, fun j hj => by omega, fun _ h => by omega, .inl rfl⟩
    · exact ⟨0, ⟨fun j hj => by omega, fun j hj => by omega, fun j hj => by omega, .inr ⟨a, b⟩⟩, fun j hj => by omega, fun _ h => by omega, .inr ⟨f, c⟩⟩
    · obtain ⟨m, h1, h2, h3, h4⟩ := ih0 d
      have he := elemEnd_star (n := n) b
      have hi := it_cons he
      refine ⟨m + 1, h1.cons a (by omega) he, ?_, ?_, ?_⟩
      · intro j hj s1 s2
        cases j with
        | zero =>
          rw [hi] at s2 ⊢
          have := h3 rfl (by omega) s2
          exact ⟨this.1, by omega⟩
        | succ j =>
          rw [hi] at s1 s2 ⊢
          have := h2 j (by omega) s1 s2
          exact ⟨this.1, by omega⟩
      · intro hp _ _
        obtain ⟨q1, q2⟩ := c hp
        refine ⟨q1, ?_⟩
        by_cases hm : m = 0
        · omega
        · have x1 := h1.lt 0 (by omega)
          have x2 := h1.nsl 0 (by omega)
          exact absurd (q2 x1) x2
      · rw [hi]; exact h4
    · obtain ⟨m, h1, h2, h3, h4⟩ := ih0 h
      have hi := it_cons d
      refine ⟨m + 1, h1.cons a b d, ?_, fun _ _ x => absurd x c, ?_⟩
      · intro j hj s1 s2
        cases j with
        | zero => exact absurd s1 c
        | succ j =>
          rw [hi] at s1 s2 ⊢
          have := h2 j (by omega) s1 s2
          exact ⟨this.1, by omega⟩
      · rw [hi]; exact h4

/-- A segment as wellFormed lets it pass. -/
structure Part (s m : Nat) : Prop where
  seg : Seg p n s m
  adj : ∀ j, j + 1 < m → p (it p n s j) = 42 → p (it p n s (j + 1)) = 42 → j = 0 ∧ m = 2

theorem wf_part {k : Nat} (h : WF p n k k false) : ∃ m, Part (p := p) (n := n) k m ∧ (it p n k m = n ∨ WF p n (it p n k m + 1) (it p n k m + 1) false) := by
  obtain ⟨m, h1, h2, _, h4⟩ := wf_seg h
  refine ⟨m, ⟨h1, fun j hj s1 s2 => ?_⟩, h4⟩
  obtain ⟨q1, q2⟩ := h2 j hj s1 s2
  have := it_ge (p := p) (n := n) k (j + 1)
  exact ⟨by omega, by omega⟩

/-- The path of segments from k to the program's end. -/
structure Path (k M : Nat) (S mm : Nat → Nat) : Prop where
  zero : S 0 = k
  last : S M = n + 1
  pos : 0 < M
  part : ∀ i, i < M → Part (p := p) (n := n) (S i) (mm i)
  le : ∀ i, i < M → S i ≤ n
  next : ∀ i, i < M → S (i + 1) = it p n (S i) (mm i) + 1

theorem wf_path (d : Nat) : ∀ k, k ≤ n → n - k ≤ d → WF p n k k false → ∃ M S mm, Path (p := p) (n := n) k M S mm := by
  induction d with
  | zero =>
    intro k hk hd h
    obtain ⟨m, h1, h2⟩ := wf_part h
    have hk2 : k = n := by omega
    have hm : it p n k m = n := by
      have a := it_ge (p := p) (n := n) k m
      have b := h1.seg.le m (Nat.le_refl _)
      omega
    refine ⟨1, fun i => if i = 0 then k else n + 1, fun _ => m, rfl, rfl, Nat.one_pos, fun i hi => ?_, fun i hi => ?_, fun i hi => ?_⟩ <;> (have h0 : i = 0 := by omega) <;> subst h0
    · exact h1
    · exact hk
    · simp [hm]
  | succ d ih =>
    intro k hk hd h
    obtain ⟨m, h1, h2⟩ := wf_part h
    have hge := it_ge (p := p) (n := n) k m
    have hle := h1.seg.le m (Nat.le_refl _)
    by_cases he : it p n k m = n
    · refine ⟨1, fun i => if i = 0 then k else n + 1, fun _ => m, rfl, rfl, Nat.one_pos, fun i hi => ?_, fun i hi => ?_, fun i hi => ?_⟩ <;> (have h0 : i = 0 := by omega) <;> subst h0
      · exact h1
      · exact hk
      · simp [he]
    · rcases h2 with h2 | h2
      · exact absurd h2 he
      · obtain ⟨M, S, mm, hp⟩ := ih (it p n k m + 1) (by omega) (by omega) h2
        refine ⟨M + 1, fun i => match i with | 0 => k | i + 1 => S i, fun i => match i with | 0 => m | i + 1 => mm i, rfl, hp.last, by omega, fun i hi => ?_, fun i hi => ?_, fun i hi => ?_⟩
        · cases i with
          | zero => exact h1
          | succ i => exact hp.part i (by omega)
        · cases i with
          | zero => exact hk
          | succ i => exact hp.le i (by omega)
        · cases i with
          | zero => exact hp.zero
          | succ i => exact hp.next i (by omega)

theorem wf_all (h : WF p n 0 0 false) : ∃ M S mm, Path (p := p) (n := n) 0 M S mm := wf_path n 0 (Nat.zero_le _) (by omega) h

end
end Go.Proofs.Qxb6602165a.Plain
