namespace Go.Proofs.Qxb6602919a

/-- a lower hexadecimal digit -/
def hexN (c : Nat) : Bool := decide ((48 ≤ c ∧ c ≤ 57) ∨ (97 ≤ c ∧ c ≤ 102))
/-- what isBootID asks of the byte c at place i -/
def okAt (i c : Nat) : Prop := if i = 8 ∨ i = 13 ∨ i = 18 ∨ i = 23 then c = 45 else hexN c = true
/-- what isBootID answers -/
def isU (l : List Nat) : Prop := l.length = 36 ∧ ∀ i, i < 36 → okAt i (l.getD i 0)
def glen (g : Nat) : Nat := if g = 0 then 8 else if g = 4 then 12 else 4
/-- what the model answers from the state (g, run) on -/
def mdl : List Nat → Nat → Nat → Bool
  | [], g, run => decide (g = 4 ∧ run = 12)
  | c :: t, g, run => if c = 45 then (if g = 4 ∨ run ≠ glen g then false else mdl t (g + 1) 0) else if hexN c = true then (if glen g < run + 1 then false else mdl t g (run + 1)) else false

def start (g : Nat) : Nat := if g = 0 then 0 else 4 + 5 * g

theorem not_hex45 : hexN 45 = false := by decide

theorem mdl_iff (l : List Nat) : ∀ g run, g ≤ 4 → run ≤ glen g → (mdl l g run = true ↔ (l.length + start g + run = 36 ∧ ∀ i, i < l.length → okAt (start g + run + i) (l.getD i 0))) := by
  induction l with
  | nil =>
    intro g run hg hr
    simp only [mdl, decide_eq_true_eq, List.length_nil]
    constructor
    · rintro ⟨rfl, rfl⟩; exact ⟨by decide, fun i h => by omega⟩
    · rintro ⟨h, _⟩
      unfold glen at hr; unfold start at h
      split at h
      · split at hr <;> omega
      · split at hr
        · omega
        · split at hr <;> omega
  | cons c t ih =>
    intro g run hg hr
    simp only [mdl]
    have split0 : (∀ i, i < (c :: t).length → okAt (start g + run + i) ((c :: t).getD i 0)) ↔ okAt (start g + run) c ∧ ∀ i, i < t.length → okAt (start g + run + 1 + i) (t.getD i 0) := by
      constructor
      · intro h
        refine ⟨by simpa using h 0 (by simp), fun i hi => ?_⟩
        have := h (i + 1) (by simpa using hi)
        rw [show start g + run + (i + 1) = start g + run + 1 + i by omega] at this
        simpa using this
      · rintro ⟨h1, h2⟩ i hi
        cases i with
        | zero => simpa using h1
        | succ i =>
          have := h2 i (by simpa using hi)
          rw [show start g + run + 1 + i = start g + run + (i + 1) by omega] at this
          simpa using this
    rw [split0, List.length_cons]
    have hyp : (start g + run = 8 ∨ start g + run = 13 ∨ start g + run = 18 ∨ start g + run = 23) ↔ (g ≠ 4 ∧ run = glen g) := by
      unfold start glen at *
      split at hr
      · subst g; simp; omega
      · split at hr
        · subst g; simp; omega
        · rw [if_neg (by assumption), if_neg (by assumption), if_neg (by assumption)]; omega
    by_cases h45 : c = 45
    · subst h45
      rw [if_pos rfl]
      by_cases hb : g = 4 ∨ run ≠ glen g
      · rw [if_pos hb]
        constructor
        · intro h; cases h
        · rintro ⟨_, h1, _⟩
          unfold okAt at h1
          rw [if_neg (by rw [hyp]; omega), not_hex45] at h1
          cases h1
      · rw [if_neg hb, ih (g + 1) 0 (by omega) (Nat.zero_le _)]
        have es : start (g + 1) = start g + run + 1 := by
          have : run = glen g := by omega
          unfold start glen at *
          rw [if_neg (by omega)]
          split at this
          · subst g; rw [if_pos rfl]; omega
          · rw [if_neg (by omega)] at this; rw [if_neg (by assumption)]; omega
        rw [es]
        constructor
        · rintro ⟨h1, h2⟩
          exact ⟨by omega, by unfold okAt; rw [if_pos (hyp.2 (by omega))], h2⟩
        · rintro ⟨h1, _, h2⟩
          exact ⟨by omega, h2⟩
    · rw [if_neg h45]
      by_cases hh : hexN c = true
      · rw [if_pos hh]
        by_cases hr' : run = glen g
        · rw [if_pos (by omega)]
          constructor
          · intro h; cases h
          · rintro ⟨h1, h2, _⟩
            by_cases h4 : g = 4
            · subst h4; simp [start, glen] at h1 hr'; omega
            · unfold okAt at h2
              rw [if_pos (hyp.2 ⟨h4, hr'⟩)] at h2
              exact absurd h2 h45
        · rw [if_neg (by omega), ih g (run + 1) hg (by omega)]
          have : start g + (run + 1) = start g + run + 1 := by omega
          rw [this]
          constructor
          · rintro ⟨h1, h2⟩
            exact ⟨by omega, by unfold okAt; rw [if_neg (by rw [hyp]; omega)]; exact hh, h2⟩
          · rintro ⟨h1, _, h2⟩
            exact ⟨by omega, h2⟩
      · rw [if_neg hh]
        constructor
        · intro h; cases h
        · rintro ⟨_, h1, _⟩
          unfold okAt at h1
          split at h1
          · exact absurd h1 h45
          · exact absurd h1 hh

theorem mdl_isU (l : List Nat) : mdl l 0 0 = true ↔ isU l := by
  rw [mdl_iff l 0 0 (by omega) (by omega)]
  simp only [start, if_true, Nat.add_zero, Nat.zero_add]
  unfold isU
  constructor
  · rintro ⟨h, k⟩; exact ⟨h, fun i hi => k i (by omega)⟩
  · rintro ⟨h, k⟩; exact ⟨h, fun i hi => k i (by omega)⟩

end Go.Proofs.Qxb6602919a
