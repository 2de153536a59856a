import Derived.Test.Qxb6605261aBoth
import Derived.Test.Qxb6605261aEvalLaw
namespace Go.Proofs.Qxb6605261a.Ev
open Go.RowKit Ieee

/-- The evaluation, and where its three measures are exactly 1. -/
structure Perfect (pt pf tp : Int) (P Q f : Nat) : Prop where
  there : ∀ rec, EvalIs rec pt pf tp P Q f
  oP : (double.order P 4607182418800017408 == some .eq) = decide (tp = pf)
  oQ : (double.order Q 4607182418800017408 == some .eq) = decide (tp = pt)
  of : (double.order f 4607182418800017408 == some .eq) = (decide (tp = pf) && decide (tp = pt))

theorem perfect_zero (pt pf : Int) (h1 : 0 ≤ pf) (h2 : 0 ≤ pt) (b1 : pf < 9223372036854775808) (b2 : pt < 9223372036854775808) : ∃ P Q f, Perfect pt pf 0 P Q f := by
  by_cases hf : pf = 0
  · subst hf
    by_cases ht : pt = 0
    · subst ht
      have e : ∀ rec, EvalIs rec 0 0 0 4607182418800017408 4607182418800017408 4607182418800017408 := fun rec =>
        eval_some rec 0 0 0 _ _ 4611686018427387904 4611686018427387904 4611686018427387904 _ (none_quo 0) (none_quo 0) (by decide) (by decide) (by decide) (by decide) (by decide)
      exact ⟨_, _, _, e, by decide, by decide, by decide⟩
    · have e : ∀ rec, EvalIs rec pt 0 0 4607182418800017408 0 0 := fun rec =>
        eval_some rec pt 0 0 _ _ 4607182418800017408 4611686018427387904 0 _ (none_quo 0) (zero_quo (by omega) b2) (by decide +kernel) (by decide) (by decide) (by decide) (by decide)
      have n : decide (0 = pt) = false := decide_eq_false (fun h => ht h.symm)
      exact ⟨_, _, _, e, by decide, by rw [n]; decide +kernel, by rw [n]; decide +kernel⟩
  · have m : decide (0 = pf) = false := decide_eq_false (fun h => hf h.symm)
    by_cases ht : pt = 0
    · subst ht
      have e : ∀ rec, EvalIs rec 0 pf 0 0 4607182418800017408 0 := fun rec =>
        eval_some rec 0 pf 0 _ _ 4607182418800017408 0 0 _ (zero_quo (by omega) b1) (none_quo 0) (by decide +kernel) (by decide) (by decide) (by decide) (by decide)
      exact ⟨_, _, _, e, by rw [m]; decide +kernel, by decide, by rw [m]; decide +kernel⟩
    · have n : decide (0 = pt) = false := decide_eq_false (fun h => ht h.symm)
      have e : ∀ rec, EvalIs rec pt pf 0 0 0 0 := fun rec => eval_none rec pt pf 0 (zero_quo (by omega) b1) (zero_quo (by omega) b2)
      exact ⟨_, _, _, e, by rw [m]; decide +kernel, by rw [n]; decide +kernel, by rw [m, n]; decide +kernel⟩

theorem order_one {x v : Nat} (h : Fl.Has x false v) : (double.order x 4607182418800017408 == some .eq) = decide (v = Fl.K) := by
  rw [Fl.order_eq h Fl.has_one]
  have e1 : Fl.sg false v = (v : Int) := rfl
  have e2 : Fl.sg false Fl.K = (Fl.K : Int) := rfl
  rw [e1, e2]
  by_cases e : v = Fl.K
  · rw [decide_eq_true e, Int.compare_eq_eq.2 (by rw [e])]; rfl
  · rw [decide_eq_false e]
    rcases Nat.lt_or_ge v Fl.K with h' | h'
    · rw [Int.compare_eq_lt.2 (by omega)]; rfl
    · rw [Int.compare_eq_gt.2 (by omega)]; rfl

theorem quo_one {tp d vN vD vP : Nat} (h : tp ≤ d) (hd : d < 2 ^ 30) (eN : Fl.Exact tp vN) (eD : Fl.Exact d vD) (r : Fl.R 2 (vP * vD) (vN * Fl.K)) (e : vP = Fl.K) : tp = d := by
  have hK := Fl.K_pos
  have xN := eN (by omega)
  have xD := eD (by omega)
  subst e; subst xN; subst xD
  have r1 : Fl.R 2 (d * Fl.K * Fl.K) (tp * Fl.K * Fl.K) := by
    rw [Nat.mul_comm Fl.K (d * Fl.K)] at r; exact r
  have r2 := Fl.R_cancel hK (Fl.R_cancel hK r1)
  have l := (Fl.R_lin (by decide) r2).1
  omega

theorem f_one {tp pf pt vN vF vT vf : Nat} (h1 : tp ≤ pf) (h2 : tp ≤ pt) (b1 : pf < 2 ^ 30) (b2 : pt < 2 ^ 30) (eN : Fl.Exact tp vN) (eF : Fl.Exact pf vF) (eT : Fl.Exact pt vT)
    (r : Fl.R 10 (vf * (vF + vT)) (2 * (vN * Fl.K))) (e : vf = Fl.K) : tp = pf ∧ tp = pt := by
  have hK := Fl.K_pos
  have xN := eN (by omega)
  have xF := eF (by omega)
  have xT := eT (by omega)
  subst e; subst xN; subst xF; subst xT
  have r1 : Fl.R 10 ((pf + pt) * Fl.K * Fl.K) (2 * tp * Fl.K * Fl.K) := by
    have x1 : Fl.K * (pf * Fl.K + pt * Fl.K) = (pf + pt) * Fl.K * Fl.K := by rw [← Nat.add_mul, Nat.mul_comm]
    have x2 : 2 * (tp * Fl.K * Fl.K) = 2 * tp * Fl.K * Fl.K := by rw [Nat.mul_assoc 2 tp, Nat.mul_assoc 2]
    rw [x1, x2] at r
    exact r
  have r2 := Fl.R_cancel hK (Fl.R_cancel hK r1)
  have l := (Fl.R_lin (by decide) r2).1
  omega

theorem perfect_some (pt pf tp : Int) (h0 : 0 < tp) (h1 : tp ≤ pf) (h2 : tp ≤ pt) (b1 : pf < 1073741824) (b2 : pt < 1073741824) : ∃ P Q f, Perfect pt pf tp P Q f := by
  obtain ⟨P, Q, A2, B2, A, S, f, vN, vF, vT, vP, vQ, vf, E⟩ := Fl.ev tp.toNat pf.toNat pt.toNat (by omega) (by omega) (by omega) (by omega) (by omega)
  have qP : RatioIs tp pf P := quo_is (by omega) (by omega) E.divP
  have qQ : RatioIs tp pt Q := quo_is (by omega) (by omega) E.divQ
  have hp := Fl.K_pos
  have dv := Fl.div_self E.hN (by have := E.loN; omega)
  have one : ∀ d x vx, Fl.Has x false vx → double.div (Fl.fw tp.toNat) (Fl.fw d) = some x → tp.toNat = d → vx = Fl.K := by
    intro d x vx hx hd e
    subst e
    rw [dv] at hd
    have hd := Option.some.inj hd
    subst hd
    have o := order_one hx
    have : (double.order 4607182418800017408 4607182418800017408 == some .eq) = true := by decide
    rw [this] at o
    exact of_decide_eq_true o.symm
  refine ⟨P, Q, f, fun rec => eval_some rec pt pf tp P Q S A2 A f qP qQ E.addS E.posS E.mulA2 E.mulA E.divf, ?_, ?_, ?_⟩
  · rw [order_one E.hP]
    refine decide_eq_decide.2 ⟨fun e => ?_, fun e => one _ _ _ E.hP E.divP (by rw [e])⟩
    have := quo_one (by omega) (by omega) E.exN E.exF E.rP e
    omega
  · rw [order_one E.hQ]
    refine decide_eq_decide.2 ⟨fun e => ?_, fun e => one _ _ _ E.hQ E.divQ (by rw [e])⟩
    have := quo_one (by omega) (by omega) E.exN E.exT E.rQ e
    omega
  · by_cases e : tp = pf ∧ tp = pt
    · obtain ⟨e1, e2⟩ := e
      subst e1; subst e2
      have eP := E.divP; rw [dv] at eP; have eP := Option.some.inj eP
      have eQ := E.divQ; rw [dv] at eQ; have eQ := Option.some.inj eQ
      subst eP; subst eQ
      have x1 := E.addS
      rw [show double.add 4607182418800017408 4607182418800017408 = some 4611686018427387904 by decide] at x1
      have x1 := Option.some.inj x1; subst x1
      have x2 := E.mulA2
      rw [show double.mul 4611686018427387904 4607182418800017408 = some 4611686018427387904 by decide] at x2
      have x2 := Option.some.inj x2; subst x2
      have x3 := E.mulA
      rw [show double.mul 4611686018427387904 4607182418800017408 = some 4611686018427387904 by decide] at x3
      have x3 := Option.some.inj x3; subst x3
      have x4 := E.divf
      rw [show double.div 4611686018427387904 4611686018427387904 = some 4607182418800017408 by decide] at x4
      have x4 := Option.some.inj x4; subst x4
      simp
      decide
    · have n : vf ≠ Fl.K := by
        intro e'
        have := f_one (by omega) (by omega) (by omega) (by omega) E.exN E.exF E.exT E.rf e'
        omega
      rw [order_one E.hf, decide_eq_false n]
      rw [← Bool.decide_and, decide_eq_false e]

theorem perfect (pt pf tp : Int) (h0 : 0 ≤ tp) (h1 : tp ≤ pf) (h2 : tp ≤ pt) (b1 : pf < 1073741824) (b2 : pt < 1073741824) : ∃ P Q f, Perfect pt pf tp P Q f := by
  by_cases h : tp = 0
  · subst h; exact perfect_zero pt pf h1 h2 (by omega) (by omega)
  · exact perfect_some pt pf tp (by omega) h1 h2 b1 b2
end Go.Proofs.Qxb6605261a.Ev

namespace Go.Proofs.Qxb6605261a.Pc
open Go.Maps Go.RowKit
attribute [local go_sem] Ev.run_store_float

/-- The tail of the law, in the world behind the counting. -/
theorem perfect_tot (E : Nat → Int) (T : Nat → ByteArray) (n : Nat) (hn : n ≤ 4096) : ∃ P Q f, (∀ rec, Ev.EvalIs rec (tot (qT T) n) (tot (qE E) n) (tot (qB E T) n) P Q f) ∧
    (FloatKind.f64.format.order P 4607182418800017408 == some .eq) = !(decide (0 < tot (qM E T) n)) ∧ (FloatKind.f64.format.order Q 4607182418800017408 == some .eq) = !(decide (0 < tot (qS E T) n)) ∧
    (FloatKind.f64.format.order f 4607182418800017408 == some .eq) = (!(decide (0 < tot (qM E T) n)) && !(decide (0 < tot (qS E T) n))) := by
  have t1 := tot_small (qT T) n hn
  have t2 := tot_small (qE E) n hn
  have e1 := tot_E E T n
  have e2 := tot_T E T n
  obtain ⟨P, Q, f, h⟩ := Ev.perfect (tot (qT T) n) (tot (qE E) n) (tot (qB E T) n) (by omega) (by omega) (by omega) (by omega) (by omega)
  have d1 : decide (((tot (qB E T) n : Nat) : Int) = ((tot (qE E) n : Nat) : Int)) = !(decide (0 < tot (qM E T) n)) := by
    by_cases h0 : 0 < tot (qM E T) n
    · rw [decide_eq_true h0, decide_eq_false (by omega)]; rfl
    · rw [decide_eq_false h0, decide_eq_true (by omega)]; rfl
  have d2 : decide (((tot (qB E T) n : Nat) : Int) = ((tot (qT T) n : Nat) : Int)) = !(decide (0 < tot (qS E T) n)) := by
    by_cases h0 : 0 < tot (qS E T) n
    · rw [decide_eq_true h0, decide_eq_false (by omega)]; rfl
    · rw [decide_eq_false h0, decide_eq_true (by omega)]; rfl
  refine ⟨P, Q, f, h.there, ?_, ?_, ?_⟩
  · rw [← d1]; exact h.oP
  · rw [← d2]; exact h.oQ
  · rw [← d1, ← d2]; exact h.of

set_option maxHeartbeats 2000000 in
theorem law4 (w : World) (a0 a1 : Option Addr) (len0 cap0 len1 cap1 : Nat) (E : Nat → Int) (T : Nat → ByteArray) (hl0 : len0 ≤ maxLen) (hl1 : len1 ≤ maxLen) (h0 : IntRow w a0 len0 E) (h1 : StrRow w a1 len1 T) :
    Calls Try.prog 4 #[.slice a0 len0 cap0, .slice a1 len1 cap1] w fun ex w' => ex = .returned (.bool true) ∧ Below w.heap.size w w' := by
  go_enter Try.func4, Try.ntmps4
  go_wp2_with fail
  refine (bytes4 w a0 a1 len0 cap0 len1 cap1 T hl0 hl1 h1).mono ?_
  rintro e w' ⟨b, rfl, rfl⟩
  cases b
  · go_wp2
    go_ret
    exact ⟨rfl, Below.refl _ _⟩
  · go_wp2_with fail
    refine (fits w' a0 a1 len0 cap0 len1 cap1 T hl0 hl1 h1).mono ?_
    rintro e w1 ⟨b, rfl, rfl, hle⟩
    cases b
    · go_wp2
      go_ret
      exact ⟨rfl, Below.refl _ _⟩
    · obtain ⟨l0, l1⟩ := hle rfl
      clear hle hl0 hl1
      by_cases hlt : len1 < len0
      · have R := read2 (n := len1) h0 h1 l0 l1 (by omega) (Nat.le_refl _)
        obtain ⟨P, Q, f, hev, oP, oQ, oF⟩ := perfect_tot E T len1 l1
        go_wp2_with fail
        refine (pairs_any _ _ _ _ _ _ _ _ _ _ R).mono ?_
        rintro e w2 ⟨rfl, hb⟩
        go_wp2_with fail
        refine (Ev.zz_eval _ _ _ _ _ _ _ _ (hev _)).mono ?_
        rintro e w3 ⟨rfl, rfl⟩
        go_wp2_with fail
        refine (brute_any _ _ _ _ _ _ _ _ E T ?_).mono ?_
        · exact (R.below hb).below (((((Below.refl _ _).alloc (Nat.le_refl _) _).alloc (by simp) _).alloc (by simp; omega) _).alloc (by simp; omega) _)
        rintro e w3 ⟨rfl, m, rfl⟩
        have hB : Below w1.heap.size w1 w2 := hb
        generalize decide (0 < tot (qM E T) len1) = bM at oP oQ oF ⊢
        generalize decide (0 < tot (qS E T) len1) = bS at oP oQ oF ⊢
        clear R h0 h1 hev hb
        cases bM <;> cases bS <;> simp only [Bool.not_false, Bool.not_true, Bool.and_true, Bool.and_false] at oP oQ oF
        all_goals
          go_wp2
          go_ret
          exact ⟨rfl, below_drewN (hB.trans (((((Below.refl _ _).alloc hB.size _).alloc (by have := hB.size; simp; omega) _).alloc (by have := hB.size; simp; omega) _).alloc (by have := hB.size; simp; omega) _)) m⟩
      · have R := read2 (n := len0) h0 h1 l0 l1 (Nat.le_refl _) (by omega)
        obtain ⟨P, Q, f, hev, oP, oQ, oF⟩ := perfect_tot E T len0 l0
        go_wp2_with fail
        refine (pairs_any _ _ _ _ _ _ _ _ _ _ R).mono ?_
        rintro e w2 ⟨rfl, hb⟩
        go_wp2_with fail
        refine (Ev.zz_eval _ _ _ _ _ _ _ _ (hev _)).mono ?_
        rintro e w3 ⟨rfl, rfl⟩
        go_wp2_with fail
        refine (brute_any _ _ _ _ _ _ _ _ E T ?_).mono ?_
        · exact (R.below hb).below (((((Below.refl _ _).alloc (Nat.le_refl _) _).alloc (by simp) _).alloc (by simp; omega) _).alloc (by simp; omega) _)
        rintro e w3 ⟨rfl, m, rfl⟩
        have hB : Below w1.heap.size w1 w2 := hb
        generalize decide (0 < tot (qM E T) len0) = bM at oP oQ oF ⊢
        generalize decide (0 < tot (qS E T) len0) = bS at oP oQ oF ⊢
        clear R h0 h1 hev hb
        cases bM <;> cases bS <;> simp only [Bool.not_false, Bool.not_true, Bool.and_true, Bool.and_false] at oP oQ oF
        all_goals
          go_wp2
          go_ret
          exact ⟨rfl, below_drewN (hB.trans (((((Below.refl _ _).alloc hB.size _).alloc (by have := hB.size; simp; omega) _).alloc (by have := hB.size; simp; omega) _).alloc (by have := hB.size; simp; omega) _)) m⟩
end Go.Proofs.Qxb6605261a.Pc
