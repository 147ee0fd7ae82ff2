/-
  THE PLAIN SIDE: no Go in sight. Bytes as integers. 'mod': what zzModelV7 computes; 'valid': what Valid computes; 'mod_eq_valid': the two agree at every list of bytes.
-/
namespace Go.Proofs.Qxb6002784a.Plain

/-- The value of a lowercase hex digit; -1 of any other byte. -/
def hexv (c : Int) : Int := if 48 ≤ c ∧ c ≤ 57 then c - 48 else if 97 ≤ c ∧ c ≤ 102 then c - 97 + 10 else -1

def upd (f : Nat → Int) (i : Nat) (v : Int) : Nat → Int := fun j => if j = i then v else f j

/-- The tests behind the model's loop. -/
def fin (g : Nat) (L F : Nat → Int) : Bool :=
  decide (g = 4 ∧ L 0 = 8 ∧ L 1 = 4 ∧ L 2 = 4 ∧ L 3 = 4 ∧ L 4 = 12 ∧ F 2 = 55 ∧ hexv (F 3) / 4 = 2)

/-- The model from a state on: the bytes that are left, the group's number, the groups' lengths, their first bytes. -/
def mod : List Int → Nat → (Nat → Int) → (Nat → Int) → Bool
  | [], g, L, F => fin g L F
  | c :: t, g, L, F =>
    if c = 45 then (if 4 < g + 1 then false else mod t (g + 1) L F)
    else if hexv c < 0 then false
    else mod t g (upd L g (L g + 1)) (if L g = 0 then upd F g c else F)

/-- May byte c stand at place i? -/
def vpos (i : Nat) (c : Int) : Bool :=
  if i = 8 ∨ i = 13 ∨ i = 18 ∨ i = 23 then decide (c = 45)
  else if i = 14 then decide (c = 55)
  else if i = 19 then decide (c = 56 ∨ c = 57 ∨ c = 97 ∨ c = 98)
  else decide ((48 ≤ c ∧ c ≤ 57) ∨ (97 ≤ c ∧ c ≤ 102))

def val : Nat → List Int → Bool
  | _, [] => true
  | i, c :: t => vpos i c && val (i + 1) t

def valid (l : List Int) : Bool := decide (l.length = 36) && val 0 l

/-- How long group j is to be. -/
def want (j : Nat) : Int := if j = 0 then 8 else if j = 4 then 12 else 4

/-- Where group j begins. -/
def start (j : Nat) : Int := if j = 0 then 0 else if j = 1 then 9 else if j = 2 then 14 else if j = 3 then 19 else 24

/-- What a state must meet for the model to say yes from it. -/
theorem sane (t : List Int) : ∀ (g : Nat) (L F : Nat → Int), (∀ j, 0 ≤ L j) → mod t g L F = true →
    (∀ j, j < g → j < 5 → L j = want j) ∧ L g ≤ want g ∧ (0 < L 2 → F 2 = 55) ∧ (0 < L 3 → hexv (F 3) / 4 = 2) := by
  induction t with
  | nil =>
    intro g L F hp h
    simp only [mod, fin, decide_eq_true_eq] at h
    obtain ⟨rfl, h0, h1, h2, h3, h4, h5, h6⟩ := h
    refine ⟨fun j hj _ => ?_, by simp [want, h4], fun _ => h5, fun _ => h6⟩
    have hj' : j = 0 ∨ j = 1 ∨ j = 2 ∨ j = 3 := by omega
    rcases hj' with rfl | rfl | rfl | rfl <;> simp [want, h0, h1, h2, h3]
  | cons c t ih =>
    intro g L F hp h
    simp only [mod] at h
    by_cases hc : c = 45
    · rw [if_pos hc] at h
      by_cases hg : 4 < g + 1
      · rw [if_pos hg] at h; cases h
      · rw [if_neg hg] at h
        obtain ⟨a, _, d, e⟩ := ih (g + 1) L F hp h
        refine ⟨fun j hj h5 => a j (by omega) h5, ?_, d, e⟩
        rw [a g (by omega) (by omega)]
        exact Int.le_refl _
    · rw [if_neg hc] at h
      by_cases hx : hexv c < 0
      · rw [if_pos hx] at h; cases h
      · rw [if_neg hx] at h
        have hg0 := hp g
        obtain ⟨a, b, d, e⟩ := ih g (upd L g (L g + 1)) (if L g = 0 then upd F g c else F) (fun j => by
          unfold upd; split
          · omega
          · exact hp j) h
        refine ⟨fun j hj h5 => ?_, ?_, fun h2 => ?_, fun h3 => ?_⟩
        · have := a j hj h5
          rw [upd, if_neg (by omega)] at this
          exact this
        · simp [upd] at b; omega
        · have h2' : 0 < upd L g (L g + 1) 2 := by unfold upd; split <;> omega
          have := d h2'
          by_cases hz : L g = 0
          · rw [if_pos hz] at this
            by_cases h2g : 2 = g
            · subst h2g; omega
            · rw [upd, if_neg h2g] at this; exact this
          · rw [if_neg hz] at this; exact this
        · have h3' : 0 < upd L g (L g + 1) 3 := by unfold upd; split <;> omega
          have := e h3'
          by_cases hz : L g = 0
          · rw [if_pos hz] at this
            by_cases h3g : 3 = g
            · subst h3g; omega
            · rw [upd, if_neg h3g] at this; exact this
          · rw [if_neg hz] at this; exact this

theorem hexv_neg {c : Int} (h : ¬ hexv c < 0) : (48 ≤ c ∧ c ≤ 57) ∨ (97 ≤ c ∧ c ≤ 102) := by
  unfold hexv at h; split at h
  · left; assumption
  · split at h
    · right; assumption
    · omega

theorem hexv_four {c : Int} : hexv c / 4 = 2 ↔ (c = 56 ∨ c = 57 ∨ c = 97 ∨ c = 98) := by
  unfold hexv; split
  · omega
  · split <;> omega

/-- A byte that is neither a dash nor a hex digit stands nowhere. -/
theorem vpos_other {i : Nat} {c : Int} (h1 : c ≠ 45) (h2 : hexv c < 0) : vpos i c = false := by
  have : ¬ ((48 ≤ c ∧ c ≤ 57) ∨ (97 ≤ c ∧ c ≤ 102)) := by
    intro h; unfold hexv at h2; split at h2
    · omega
    · split at h2 <;> omega
  unfold vpos
  split
  · simp [h1]
  · split
    · simp; omega
    · split
      · simp; omega
      · simp; omega

/-- From a state that the first 'start g + L g' bytes have made, all of them in place, the model and the reader by places agree. -/
theorem agree (t : List Int) : ∀ (i g : Nat) (L F : Nat → Int), g < 5 → (∀ j, 0 ≤ L j) → (∀ j, j < g → L j = want j) → L g ≤ want g → (∀ j, g < j → L j = 0) →
    (0 < L 2 → F 2 = 55) → (0 < L 3 → hexv (F 3) / 4 = 2) → (i : Int) = start g + L g →
    mod t g L F = (decide (i + t.length = 36) && val i t) := by
  induction t with
  | nil =>
    intro i g L F hg hp hb hw ha h2 h3 hi
    have hg' : g = 0 ∨ g = 1 ∨ g = 2 ∨ g = 3 ∨ g = 4 := by omega
    rw [Bool.eq_iff_iff]
    simp only [mod, fin, val, decide_eq_true_eq, List.length_nil, Nat.add_zero, Bool.and_true]
    constructor
    · rintro ⟨rfl, _, _, _, _, h4, _, _⟩
      simp [start] at hi; omega
    · intro h36
      have hg4 : g = 4 := by
        rcases hg' with rfl | rfl | rfl | rfl | rfl <;> simp [start, want] at hi hw <;> omega
      subst hg4
      have e0 := hb 0 (by omega)
      have e1 := hb 1 (by omega)
      have e2 := hb 2 (by omega)
      have e3 := hb 3 (by omega)
      simp [want] at e0 e1 e2 e3
      simp [start] at hi
      exact ⟨rfl, e0, e1, e2, e3, by omega, h2 (by omega), h3 (by omega)⟩
  | cons c t ih =>
    intro i g L F hg hp hb hw ha h2 h3 hi
    have hg' : g = 0 ∨ g = 1 ∨ g = 2 ∨ g = 3 ∨ g = 4 := by omega
    have hlen : i + (c :: t).length = (i + 1) + t.length := by simp; omega
    rw [hlen]
    simp only [mod, val]
    by_cases hc : c = 45
    · rw [if_pos hc]
      subst hc
      by_cases hfull : L g = want g ∧ g < 4
      · obtain ⟨hf, h4⟩ := hfull
        rw [if_neg (by omega), ih (i + 1) (g + 1) L F (by omega) hp ?_ ?_ ?_ h2 h3 ?_]
        · have hv : vpos i 45 = true := by
            have : i = 8 ∨ i = 13 ∨ i = 18 ∨ i = 23 := by
              rcases hg' with rfl | rfl | rfl | rfl | rfl <;> simp [start, want] at hi hf <;> omega
            simp [vpos, this]
          rw [hv, Bool.true_and]
        · intro j hj
          by_cases hjg : j = g
          · rw [hjg]; exact hf
          · exact hb j (by omega)
        · rw [ha (g + 1) (by omega)]; unfold want; split
          · omega
          · split <;> omega
        · intro j hj; exact ha j (by omega)
        · have e := ha (g + 1) (by omega)
          rw [e]
          rcases hg' with rfl | rfl | rfl | rfl | rfl <;> simp [start, want] at hi hf ⊢ <;> omega
      · have hv : vpos i 45 = false := by
          have : ¬ (i = 8 ∨ i = 13 ∨ i = 18 ∨ i = 23) := by
            rcases hg' with rfl | rfl | rfl | rfl | rfl <;> simp [start, want] at hi hw hfull <;> have := hp 0 <;> have := hp 1 <;> have := hp 2 <;> have := hp 3 <;> have := hp 4 <;> omega
          unfold vpos; rw [if_neg this]; split
          · simp
          · split <;> simp
        rw [hv, Bool.false_and, Bool.and_false]
        by_cases h4 : 4 < g + 1
        · rw [if_pos h4]
        · rw [if_neg h4]
          cases hm : mod t (g + 1) L F with
          | false => rfl
          | true =>
            have hs := (sane t (g + 1) L F hp hm).1 g (by omega) (by omega)
            exact absurd ⟨hs, by omega⟩ hfull
    · rw [if_neg hc]
      by_cases hx : hexv c < 0
      · rw [if_pos hx, vpos_other hc hx, Bool.false_and, Bool.and_false]
      · rw [if_neg hx]
        have hh := hexv_neg hx
        have hg0 := hp g
        have hp' : ∀ j, 0 ≤ upd L g (L g + 1) j := fun j => by
          unfold upd; split
          · omega
          · exact hp j
        by_cases hroom : L g < want g
        · by_cases hv : vpos i c = true
          · rw [hv, Bool.true_and]
            refine ih (i + 1) g _ _ hg hp' ?_ ?_ ?_ ?_ ?_ ?_
            · intro j hj; rw [upd, if_neg (by omega)]; exact hb j hj
            · simp only [upd, if_pos]; omega
            · intro j hj; rw [upd, if_neg (by omega)]; exact ha j hj
            · intro hpos
              by_cases hz : L g = 0
              · rw [if_pos hz]
                by_cases h2g : 2 = g
                · subst h2g
                  simp [start] at hi
                  have : i = 14 := by omega
                  subst this
                  simp [vpos] at hv
                  simp [upd, hv]
                · rw [upd, if_neg h2g]
                  rw [upd, if_neg h2g] at hpos
                  exact h2 hpos
              · rw [if_neg hz]
                apply h2
                unfold upd at hpos; split at hpos
                · rename_i h2g; subst h2g; omega
                · exact hpos
            · intro hpos
              by_cases hz : L g = 0
              · rw [if_pos hz]
                by_cases h3g : 3 = g
                · subst h3g
                  simp [start] at hi
                  have : i = 19 := by omega
                  subst this
                  simp [vpos] at hv
                  simp only [upd, if_pos]
                  exact hexv_four.2 hv
                · rw [upd, if_neg h3g]
                  rw [upd, if_neg h3g] at hpos
                  exact h3 hpos
              · rw [if_neg hz]
                apply h3
                unfold upd at hpos; split at hpos
                · rename_i h3g; subst h3g; omega
                · exact hpos
            · simp only [upd, if_pos]; omega
          · have hv' : vpos i c = false := by simpa using hv
            rw [hv', Bool.false_and, Bool.and_false]
            cases hm : mod t g (upd L g (L g + 1)) (if L g = 0 then upd F g c else F) with
            | false => rfl
            | true =>
              obtain ⟨_, _, s2, s3⟩ := sane t g _ _ hp' hm
              exfalso
              have hnd : ¬ (i = 8 ∨ i = 13 ∨ i = 18 ∨ i = 23) := by
                rcases hg' with rfl | rfl | rfl | rfl | rfl <;> simp [start, want] at hi hroom <;> omega
              rw [vpos, if_neg hnd] at hv'
              by_cases h14 : i = 14
              · subst h14
                have : g = 2 ∧ L g = 0 := by
                  rcases hg' with rfl | rfl | rfl | rfl | rfl <;> simp [start, want] at hi hroom ⊢ <;> omega
                obtain ⟨rfl, hz⟩ := this
                have := s2 (by simp [upd]; omega)
                simp [hz, upd] at this
                simp [this] at hv'
              · rw [if_neg h14] at hv'
                by_cases h19 : i = 19
                · subst h19
                  have : g = 3 ∧ L g = 0 := by
                    rcases hg' with rfl | rfl | rfl | rfl | rfl <;> simp [start, want] at hi hroom ⊢ <;> omega
                  obtain ⟨rfl, hz⟩ := this
                  have := s3 (by simp [upd]; omega)
                  simp only [hz, upd, if_pos] at this
                  have := hexv_four.1 this
                  simp [this] at hv'
                · rw [if_neg h19] at hv'
                  simp at hv'
                  omega
        · have hf : L g = want g := by omega
          have hm : mod t g (upd L g (L g + 1)) (if L g = 0 then upd F g c else F) = false := by
            cases hm : mod t g (upd L g (L g + 1)) (if L g = 0 then upd F g c else F) with
            | false => rfl
            | true =>
              have hs := (sane t g _ _ hp' hm).2.1
              simp only [upd, if_pos] at hs
              omega
          rw [hm]
          by_cases h4 : g = 4
          · subst h4
            simp [start, want] at hi hf
            have : ¬ (i + 1 + t.length = 36) := by omega
            simp [this]
          · have hd : i = 8 ∨ i = 13 ∨ i = 18 ∨ i = 23 := by
              rcases hg' with rfl | rfl | rfl | rfl | rfl <;> simp [start, want] at hi hf h4 <;> omega
            have hv : vpos i c = false := by simp [vpos, hd, hc]
            simp [hv]

/-- THE PLAIN LAW. -/
theorem mod_eq_valid (l : List Int) : mod l 0 (fun _ => 0) (fun _ => 0) = valid l := by
  have h := agree l 0 0 (fun _ => 0) (fun _ => 0) (by omega) (fun _ => Int.le_refl _) (fun j hj => by omega) (by simp [want]) (fun _ _ => rfl) (fun h => by simp at h) (fun h => by simp at h) (by simp [start])
  rw [h, valid, Nat.zero_add]

end Go.Proofs.Qxb6002784a.Plain
