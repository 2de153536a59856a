import Derived.Test.Qxb6605261aEval
import Derived.Test.Qxb6605261aFloat2
namespace Go.Proofs.Qxb6605261a.Ev
open Go.RowKit Ieee

theorem fi_eq (a : Int) (h : 0 ≤ a) : floatOfInt .f64 a = Fl.fw a.toNat := by
  unfold floatOfInt FloatKind.nearest FloatKind.encode Fl.fw
  have e1 : decide (a < 0) = false := decide_eq_false (by omega)
  have e2 : a.natAbs = a.toNat := by omega
  rw [e1, e2]
  rfl

/-- All that the laws ask of one evaluation. -/
structure Whole (pt pf tp : Int) (P Q f : Nat) : Prop where
  there : ∀ rec, EvalIs rec pt pf tp P Q f
  back : ∀ rec, EvalIs rec pf pt tp Q P f
  rP : RatioOk P tp pf
  rQ : RatioOk Q tp pt
  rf : F1Ok f tp pf pt
  sP : (double.order P P == some .eq) = true
  sQ : (double.order Q Q == some .eq) = true
  sf : (double.order f f == some .eq) = true

theorem has_int {a : Int} (h : 0 < a) (h2 : a < 9223372036854775808) : ∃ v, Fl.Has (floatOfInt .f64 a) false v ∧ 0 < v := by
  rw [fi_eq a (by omega)]
  obtain ⟨v, hv, r, _⟩ := Fl.has_nat a.toNat (by omega)
  have b := (Fl.nat_bounds (by omega) (by omega) r).1
  have := Fl.K_pos
  exact ⟨v, hv, by omega⟩
theorem zero_quo {a : Int} (h : 0 < a) (h2 : a < 9223372036854775808) : RatioIs 0 a 0 := by
  obtain ⟨v, hv, hp⟩ := has_int h h2
  refine Or.inr ⟨by simp; omega, ?_⟩
  have e : floatOfInt .f64 0 = 0 := by decide
  rw [e]
  exact Fl.zero_div hv hp
theorem none_quo (n : Int) : RatioIs n 0 4607182418800017408 := Or.inl ⟨rfl, rfl⟩

theorem whole_zero (pt pf : Int) (h1 : 0 ≤ pf) (h2 : 0 ≤ pt) (b1 : pf < 9223372036854775808) (b2 : pt < 9223372036854775808) : ∃ P Q f, Whole pt pf 0 P Q f := by
  by_cases hf : pf = 0
  · subst hf
    by_cases ht : pt = 0
    · subst ht
      have e : ∀ rec, EvalIs rec 0 0 0 4607182418800017408 4607182418800017408 4607182418800017408 := fun rec =>
        eval_some rec 0 0 0 _ _ 4611686018427387904 4611686018427387904 4611686018427387904 _ (none_quo 0) (none_quo 0) (by decide) (by decide) (by decide) (by decide) (by decide)
      exact ⟨_, _, _, e, e, ratioOk_d0 _ _ (by decide), ratioOk_d0 _ _ (by decide), f1Ok_none _ _ (by decide), by decide, by decide, by decide⟩
    · have hz : (pt == 0) = false := by simpa using ht
      have e : ∀ rec, EvalIs rec pt 0 0 4607182418800017408 0 0 := fun rec =>
        eval_some rec pt 0 0 _ _ 4607182418800017408 4611686018427387904 0 _ (none_quo 0) (zero_quo (by omega) b2) (by decide +kernel) (by decide) (by decide) (by decide) (by decide)
      have e' : ∀ rec, EvalIs rec 0 pt 0 0 4607182418800017408 0 := fun rec =>
        eval_some rec 0 pt 0 _ _ 4607182418800017408 0 0 _ (zero_quo (by omega) b2) (none_quo 0) (by decide +kernel) (by decide) (by decide) (by decide) (by decide)
      exact ⟨_, _, _, e, e', ratioOk_d0 _ _ (by decide), ratioOk_n0 _ _ hz (by decide), f1Ok_zero _ _ _ (Or.inr hz) (by decide), by decide, by decide, by decide⟩
  · have hy : (pf == 0) = false := by simpa using hf
    by_cases ht : pt = 0
    · subst ht
      have e : ∀ rec, EvalIs rec 0 pf 0 0 4607182418800017408 0 := fun rec =>
        eval_some rec 0 pf 0 _ _ 4607182418800017408 0 0 _ (zero_quo (by omega) b1) (none_quo 0) (by decide +kernel) (by decide) (by decide) (by decide) (by decide)
      have e' : ∀ rec, EvalIs rec pf 0 0 4607182418800017408 0 0 := fun rec =>
        eval_some rec pf 0 0 _ _ 4607182418800017408 4611686018427387904 0 _ (none_quo 0) (zero_quo (by omega) b1) (by decide +kernel) (by decide) (by decide) (by decide) (by decide)
      exact ⟨_, _, _, e, e', ratioOk_n0 _ _ hy (by decide), ratioOk_d0 _ _ (by decide), f1Ok_zero _ _ _ (Or.inl hy) (by decide), by decide, by decide, by decide⟩
    · have hz : (pt == 0) = false := by simpa using ht
      have e : ∀ rec, EvalIs rec pt pf 0 0 0 0 := fun rec => eval_none rec pt pf 0 (zero_quo (by omega) b1) (zero_quo (by omega) b2)
      have e' : ∀ rec, EvalIs rec pf pt 0 0 0 0 := fun rec => eval_none rec pf pt 0 (zero_quo (by omega) b2) (zero_quo (by omega) b1)
      exact ⟨_, _, _, e, e', ratioOk_n0 _ _ hy (by decide), ratioOk_n0 _ _ hz (by decide), f1Ok_zero _ _ _ (Or.inl hy) (by decide), by decide, by decide, by decide⟩

theorem quo_is {n d : Int} {r : Nat} (hn : 0 ≤ n) (hd : 0 < d) (h : double.div (Fl.fw n.toNat) (Fl.fw d.toNat) = some r) : RatioIs n d r := by
  refine Or.inr ⟨by simp; omega, ?_⟩
  rw [fi_eq n hn, fi_eq d (by omega)]
  exact h

theorem ratio_of_close {n d : Int} {x vx vd vn : Nat} (hn0 : 0 < n) (hd0 : 0 < d) (hx : Fl.Has x false vx) (hd : Fl.Has (Fl.fw d.toNat) false vd) (hn : Fl.Has (Fl.fw n.toNat) false vn)
    (r : Fl.R 2 (vx * vd) (vn * Fl.K)) (q : double.div (Fl.fw n.toNat) (Fl.fw d.toNat) = some x)
    (lx : Fl.K ≤ 2 ^ 66 * vx) (ux : vx ≤ 8 * Fl.K) (ld : Fl.K ≤ 2 * vd) (ud : vd ≤ 2 ^ 64 * Fl.K) (ln : Fl.K ≤ 2 * vn) (un : vn ≤ 2 ^ 64 * Fl.K) : RatioOk x n d := by
  have hd' : (d == 0) = false := by simp; omega
  have hn' : (n == 0) = false := by simp; omega
  by_cases e : n = d
  · subst e
    have hp := Fl.K_pos
    have := Fl.div_self hn (by omega)
    rw [this] at q
    have q := Option.some.inj q
    subst q
    exact ratioOk_same _ _ hd' (by decide)
  · have hnd : (n == d) = false := by simpa using e
    obtain ⟨z, s, c, a, h1, h2, h3, h4, h5⟩ := Fl.ratio_close hx hd hn r lx ux ld ud ln un
    refine ratioOk_near x n d z s c a hd' hn' hnd ?_ ?_ ?_ h4 h5
    · rw [fi_eq d (by omega)]; exact h1
    · rw [fi_eq n (by omega)]; exact h2
    · rw [fi_eq n (by omega)]; exact h3

theorem whole_some (pt pf tp : Int) (h0 : 0 < tp) (h1 : tp ≤ pf) (h2 : tp ≤ pt) (b1 : pf < 9223372036854775808) (b2 : pt < 9223372036854775808) : ∃ P Q f, Whole pt pf tp P Q f := by
  obtain ⟨P, Q, A2, B2, A, S, f, vN, vF, vT, vP, vQ, vf, E⟩ := Fl.ev tp.toNat pf.toNat pt.toNat (by omega) (by omega) (by omega) (by omega) (by omega)
  have qP : RatioIs tp pf P := quo_is (by omega) (by omega) E.divP
  have qQ : RatioIs tp pt Q := quo_is (by omega) (by omega) E.divQ
  refine ⟨P, Q, f, fun rec => eval_some rec pt pf tp P Q S A2 A f qP qQ E.addS E.posS E.mulA2 E.mulA E.divf, fun rec => eval_some rec pf pt tp Q P S B2 A f qQ qP E.addS' E.posS E.mulB2 E.mulB E.divf,
    ratio_of_close h0 (by omega) E.hP E.hF E.hN E.rP E.divP E.loP E.hiP E.loF E.hiF E.loN E.hiN,
    ratio_of_close h0 (by omega) E.hQ E.hT E.hN E.rQ E.divQ E.loQ E.hiQ E.loT E.hiT E.loN E.hiN, ?_, Fl.eq_order E.hP E.hP, Fl.eq_order E.hQ E.hQ, Fl.eq_order E.hf E.hf⟩
  have ht : (tp == 0) = false := by simp; omega
  have hpf : (pf == 0) = false := by simp; omega
  by_cases e : tp = pf ∧ tp = pt
  · obtain ⟨e1, e2⟩ := e
    subst e1; subst e2
    have hp := Fl.K_pos
    have d := Fl.div_self E.hN (by have := E.loN; omega)
    have eP := E.divP; rw [d] at eP; have eP := Option.some.inj eP
    have eQ := E.divQ; rw [d] at eQ; have eQ := Option.some.inj eQ
    subst eP; subst eQ
    have x1 := E.addS
    rw [show double.add 4607182418800017408 4607182418800017408 = some 4611686018427387904 by decide] at x1
    have x1 := Option.some.inj x1; subst x1
    have x2 := E.mulA2
    rw [show double.mul 4611686018427387904 4607182418800017408 = some 4611686018427387904 by decide] at x2
    have x2 := Option.some.inj x2; subst x2
    have x3 := E.mulA
    rw [show double.mul 4611686018427387904 4607182418800017408 = some 4611686018427387904 by decide] at x3
    have x3 := Option.some.inj x3; subst x3
    have x4 := E.divf
    rw [show double.div 4611686018427387904 4611686018427387904 = some 4607182418800017408 by decide] at x4
    have x4 := Option.some.inj x4; subst x4
    exact f1Ok_same _ _ ht (by decide)
  · have hs : (tp == pf) = false ∨ (tp == pt) = false := by simp; omega
    obtain ⟨wnt, g, got, s, c, a, k1, k2, k3, k4, k5, k6, k7⟩ := Fl.f1_close E
    refine f1Ok_near f tp pf pt wnt g got s c a ht hpf hs ?_ ?_ k3 k4 k5 k6 k7
    · rw [fi_eq tp (by omega)]; exact k1
    · rw [fi_eq pf (by omega), fi_eq pt (by omega)]; exact k2

theorem whole (pt pf tp : Int) (h0 : 0 ≤ tp) (h1 : tp ≤ pf) (h2 : tp ≤ pt) (b1 : pf < 9223372036854775808) (b2 : pt < 9223372036854775808) : ∃ P Q f, Whole pt pf tp P Q f := by
  by_cases h : tp = 0
  · subst h; exact whole_zero pt pf h1 h2 b1 b2
  · exact whole_some pt pf tp (by omega) h1 h2 b1 b2
end Go.Proofs.Qxb6605261a.Ev
