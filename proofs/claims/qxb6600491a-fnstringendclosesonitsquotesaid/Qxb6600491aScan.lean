import GoSem.Claim
set_option linter.unusedVariables false
namespace Go.Proofs.Qxb6600491a.Sc

/-- Three quotes stand at i. -/
def three (B : Nat → Nat) (n q i : Nat) : Bool := decide (i + 2 < n) && (B i == q) && (B (i + 1) == q) && (B (i + 2) == q)
/-- How many more quotes from i on, at most two. -/
def more (B : Nat → Nat) (n q i : Nat) : Nat := if i < n ∧ B i = q then (if i + 1 < n ∧ B (i + 1) = q then 2 else 1) else 0
/-- A backslash that takes the next byte with it. -/
def esc (B : Nat → Nat) (n q i : Nat) : Bool := (B i == 92) && (q == 34) && decide (i + 1 < n) && (B (i + 1) != 10)

/-- What 'stringEnd' does from i on. -/
def se (B : Nat → Nat) (n q : Nat) (multi : Bool) (i : Nat) : Option Nat :=
  if h : i < n then
    if esc B n q i then se B n q multi (i + 2)
    else if B i == 10 && !multi then none
    else if B i == q && !multi then some (i + 1)
    else if three B n q i then some (i + 3 + more B n q (i + 3))
    else se B n q multi (i + 1)
  else none

/-- What the model does from p on. -/
def me (B : Nat → Nat) (n q : Nat) (multi : Bool) (pending : Bool) (run p : Nat) : Option Nat :=
  if h : p < n then
    if pending && (B p != 10) then me B n q multi false 0 (p + 1)
    else if B p == q then
      if !multi then some (p + 1)
      else if run == 2 then some (p + 1 + more B n q (p + 1))
      else me B n q multi false (run + 1) (p + 1)
    else if B p == 10 && !multi then none
    else me B n q multi (B p == 92 && q == 34) 0 (p + 1)
  else none

section
variable {B : Nat → Nat} {n q : Nat} {multi : Bool}

theorem se_end (i : Nat) (h : ¬ i < n) : se B n q multi i = none := by rw [se, dif_neg h]
theorem se_esc {i : Nat} (h : i < n) (e : esc B n q i = true) : se B n q multi i = se B n q multi (i + 2) := by rw [se, dif_pos h, if_pos e]
theorem se_line {i : Nat} (h : i < n) (e : esc B n q i = false) (h1 : B i = 10) (h2 : multi = false) : se B n q multi i = none := by
  rw [se, dif_pos h, if_neg (by rw [e]; decide), if_pos (by simp [h1, h2])]
theorem se_quote {i : Nat} (h : i < n) (e : esc B n q i = false) (h0 : q ≠ 10) (h1 : B i = q) (h2 : multi = false) : se B n q multi i = some (i + 1) := by
  rw [se, dif_pos h, if_neg (by rw [e]; decide), if_neg (by simp [h1, h0]), if_pos (by simp [h1, h2])]
theorem se_three {i : Nat} (h : i < n) (e : esc B n q i = false) (h1 : multi = true) (h2 : three B n q i = true) : se B n q multi i = some (i + 3 + more B n q (i + 3)) := by
  rw [se, dif_pos h, if_neg (by rw [e]; decide), if_neg (by simp [h1]), if_neg (by simp [h1]), if_pos h2]
theorem se_next {i : Nat} (h : i < n) (e : esc B n q i = false) (h1 : B i = 10 → multi = true) (h2 : B i = q → multi = true) (h3 : three B n q i = false) : se B n q multi i = se B n q multi (i + 1) := by
  rw [se, dif_pos h, if_neg (by rw [e]; decide), if_neg, if_neg, if_neg (by rw [h3]; decide)]
  · simp only [Bool.and_eq_true, beq_iff_eq, Bool.not_eq_true', not_and, Bool.not_eq_false]; exact h2
  · simp only [Bool.and_eq_true, beq_iff_eq, Bool.not_eq_true', not_and, Bool.not_eq_false]; exact h1

theorem three_iff {i : Nat} : three B n q i = true ↔ i + 2 < n ∧ B i = q ∧ B (i + 1) = q ∧ B (i + 2) = q := by
  simp [three, and_assoc]
theorem three_false {i : Nat} (h : ¬ (i + 2 < n ∧ B i = q ∧ B (i + 1) = q ∧ B (i + 2) = q)) : three B n q i = false := by
  rw [Bool.eq_false_iff]
  exact fun e => h (three_iff.1 e)
theorem esc_iff {i : Nat} : esc B n q i = true ↔ B i = 92 ∧ q = 34 ∧ i + 1 < n ∧ B (i + 1) ≠ 10 := by
  simp [esc, and_assoc]
theorem esc_false {i : Nat} (h : ¬ (B i = 92 ∧ q = 34 ∧ i + 1 < n ∧ B (i + 1) ≠ 10)) : esc B n q i = false := by
  rw [Bool.eq_false_iff]
  exact fun e => h (esc_iff.1 e)

/-- A quote that begins no three is passed over in a multi-line string. -/
theorem se_skip {i : Nat} (hq : q = 34 ∨ q = 39) (h : i < n) (hB : B i = q) (hm : multi = true) (h3 : three B n q i = false) : se B n q multi i = se B n q multi (i + 1) :=
  se_next h (esc_false (by omega)) (fun _ => hm) (fun _ => hm) h3

/-- Up to two quotes that begin no three. -/
theorem se_skips (hq : q = 34 ∨ q = 39) (hm : multi = true) : ∀ (r i : Nat), i + r ≤ n → (∀ j, j < r → B (i + j) = q) → (∀ j, j < r → three B n q (i + j) = false) → se B n q multi i = se B n q multi (i + r)
  | 0, i, _, _, _ => rfl
  | r + 1, i, hn, hB, h3 => by
    have h := se_skip (B := B) (n := n) (i := i) hq (by omega) (by simpa using hB 0 (by omega)) hm (by simpa using h3 0 (by omega))
    rw [h, se_skips hq hm r (i + 1) (by omega) (fun j hj => by rw [Nat.add_assoc, Nat.add_comm 1 j]; exact hB (j + 1) (by omega)) (fun j hj => by rw [Nat.add_assoc, Nat.add_comm 1 j]; exact h3 (j + 1) (by omega))]
    rw [Nat.add_assoc, Nat.add_comm 1 r]

/-- THE TWO SCANNERS ARE ONE. (f: a bound on what is left.) -/
theorem me_se (hq : q = 34 ∨ q = 39) : ∀ (f p : Nat), n - p ≤ f → p ≤ n →
    (∀ r, r ≤ 2 → r ≤ p → (0 < r → multi = true) → (∀ j, j < r → B (p - r + j) = q) → me B n q multi false r p = se B n q multi (p - r)) ∧
    (q = 34 → 1 ≤ p → B (p - 1) = 92 → me B n q multi true 0 p = se B n q multi (p - 1)) := by
  intro f
  induction f with
  | zero =>
    intro p hf hp
    have e : p = n := by omega
    subst e
    constructor
    · intro r hr hrp hm hB
      rw [me, dif_neg (by omega)]
      by_cases hr0 : r = 0
      · subst hr0; rw [se_end _ (by omega)]
      · have hmm := hm (by omega)
        rw [se_skips hq hmm r (p - r) (by omega) hB (fun j hj => three_false (by omega)), se_end _ (by omega)]
    · intro h34 h1 hB
      rw [me, dif_neg (by omega), se_next (by omega) (esc_false (by omega)) (fun h => by omega) (fun h => by omega) (three_false (by omega)), se_end _ (by omega)]
  | succ f ih =>
    intro p hf hp
    by_cases hpn : p = n
    · subst hpn
      constructor
      · intro r hr hrp hm hB
        rw [me, dif_neg (by omega)]
        by_cases hr0 : r = 0
        · subst hr0; rw [se_end _ (by omega)]
        · have hmm := hm (by omega)
          rw [se_skips hq hmm r (p - r) (by omega) hB (fun j hj => three_false (by omega)), se_end _ (by omega)]
      · intro h34 h1 hB
        rw [me, dif_neg (by omega), se_next (by omega) (esc_false (by omega)) (fun h => by omega) (fun h => by omega) (three_false (by omega)), se_end _ (by omega)]
    · have hlt : p < n := by omega
      have ih1 := (ih (p + 1) (by omega) (by omega)).1
      have ih2 := (ih (p + 1) (by omega) (by omega)).2
      -- what follows a byte that is no quote
      have other : ∀ r, r ≤ 2 → r ≤ p → (0 < r → multi = true) → (∀ j, j < r → B (p - r + j) = q) → B p ≠ q → (B p = 10 → multi = true) → me B n q multi (B p == 92 && q == 34) 0 (p + 1) = se B n q multi (p - r) := by
        intro r hr hrp hm hB hne hline
        have hs : se B n q multi (p - r) = se B n q multi p := by
          by_cases hr0 : r = 0
          · subst hr0; rfl
          · have := se_skips (B := B) (n := n) hq (hm (by omega)) r (p - r) (by omega) hB (fun j hj => three_false (by
              intro ⟨_, h1, h2, h3⟩
              have : p = p - r + j ∨ p = p - r + j + 1 ∨ p = p - r + j + 2 := by omega
              rcases this with e | e | e
              · rw [← e] at h1; exact hne h1
              · rw [← e] at h2; exact hne h2
              · rw [← e] at h3; exact hne h3))
            rw [this]
            congr 1
            omega
        rw [hs]
        have h3 : three B n q p = false := three_false (by intro ⟨_, h, _⟩; exact hne h)
        by_cases hbs : B p = 92 ∧ q = 34
        · have e : (B p == 92 && q == 34) = true := by simp [hbs.1, hbs.2]
          rw [e, ih2 hbs.2 (by omega) (by simpa using hbs.1)]
          simp
        · have e : (B p == 92 && q == 34) = false := by
            rw [Bool.eq_false_iff]; intro h; simp at h; exact hbs h
          rw [e, ih1 0 (by omega) (by omega) (by omega) (fun j hj => by omega)]
          rw [se_next hlt (esc_false (fun h => hbs ⟨h.1, h.2.1⟩)) hline (fun h => absurd h hne) h3]
          rfl
      constructor
      · intro r hr hrp hm hB
        rw [me, dif_pos hlt, if_neg (by simp)]
        by_cases hc : B p = q
        · rw [if_pos (by simpa using hc)]
          by_cases hmm : multi = true
          · rw [if_neg (by simp [hmm])]
            by_cases h2 : r = 2
            · subst h2
              rw [if_pos (by rfl)]
              have b0 := hB 0 (by omega)
              have b1 := hB 1 (by omega)
              have t3 : three B n q (p - 2) = true := three_iff.2 ⟨by omega, b0, b1, by rw [show p - 2 + 2 = p by omega]; exact hc⟩
              rw [se_three (by omega) (esc_false (by have : B (p - 2) = q := b0; omega)) hmm t3, show p - 2 + 3 = p + 1 by omega]
            · rw [if_neg (by simpa using h2)]
              rw [ih1 (r + 1) (by omega) (by omega) (fun _ => hmm) (fun j hj => by
                by_cases e : j = r
                · subst e; rw [show p + 1 - (j + 1) + j = p by omega]; exact hc
                · rw [show p + 1 - (r + 1) + j = p - r + j by omega]; exact hB j (by omega))]
              congr 1
              omega
          · have hr0 : r = 0 := by
              rcases Nat.eq_zero_or_pos r with h | h
              · exact h
              · exact absurd (hm h) hmm
            subst hr0
            have hmf : multi = false := by simpa using hmm
            rw [if_pos (by simp [hmf])]
            exact (se_quote hlt (esc_false (by omega)) (by omega) hc hmf).symm
        · rw [if_neg (by simpa using hc)]
          by_cases hl : B p = 10 ∧ multi = false
          · rw [if_pos (by simp [hl.1, hl.2])]
            have hr0 : r = 0 := by
              rcases Nat.eq_zero_or_pos r with h | h
              · exact h
              · have := hm h; rw [hl.2] at this; cases this
            subst hr0
            exact (se_line hlt (esc_false (by omega)) hl.1 hl.2).symm
          · rw [if_neg (by simp only [Bool.and_eq_true, beq_iff_eq, Bool.not_eq_true']; exact hl)]
            exact other r hr hrp hm hB hc (fun h => by
              cases hmv : multi
              · exact absurd ⟨h, hmv⟩ hl
              · rfl)
      · intro h34 h1 hB
        rw [me, dif_pos hlt]
        by_cases hc : B p = 10
        · rw [if_neg (by simp [hc]), if_neg (by simp [hc]; omega)]
          have hs : se B n q multi (p - 1) = se B n q multi p := by
            rw [se_next (by omega) (esc_false (by intro ⟨_, _, _, h⟩; rw [show p - 1 + 1 = p by omega] at h; exact h hc)) (fun h => by omega) (fun h => by omega) (three_false (by omega))]
            congr 1
            omega
          by_cases hl : multi = false
          · rw [if_pos (by simp [hc, hl]), hs]
            exact (se_line hlt (esc_false (by omega)) hc hl).symm
          · rw [if_neg (by simp [hl]), hs]
            have := other 0 (by omega) (by omega) (by omega) (fun j hj => by omega) (by omega) (fun _ => by simpa using hl)
            simpa using this
        · rw [if_pos (by simp [hc])]
          rw [ih1 0 (by omega) (by omega) (by omega) (fun j hj => by omega)]
          rw [se_esc (i := p - 1) (by omega) (esc_iff.2 ⟨hB, h34, by omega, by rw [show p - 1 + 1 = p by omega]; exact hc⟩)]
          congr 1
          omega
end
end Go.Proofs.Qxb6600491a.Sc
