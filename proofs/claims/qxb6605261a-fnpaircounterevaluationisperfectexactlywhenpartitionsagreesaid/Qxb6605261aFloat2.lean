import Derived.Test.Qxb6605261aFloat
namespace Go.Proofs.Qxb6605261a.Fl
open Ieee

/-! ### The linear form of the relation -/
theorem be_step (k : Nat) (hk : k ≤ 100) : (2 ^ 52 + 2 * k) * be ≤ al * (2 ^ 52 + 2 * (k + 1)) := by
  unfold al be
  omega
theorem be_pow (k : Nat) (hk : k ≤ 100) : be ^ k * 2 ^ 52 ≤ al ^ k * (2 ^ 52 + 2 * k) := by
  induction k with
  | zero => simp
  | succ k ih =>
    have ih := ih (by omega)
    rw [Nat.pow_succ be, Nat.pow_succ al]
    calc be ^ k * be * 2 ^ 52 = (be ^ k * 2 ^ 52) * be := by rw [Nat.mul_assoc, Nat.mul_comm be, Nat.mul_assoc]
      _ ≤ (al ^ k * (2 ^ 52 + 2 * k)) * be := Nat.mul_le_mul_right _ ih
      _ = al ^ k * ((2 ^ 52 + 2 * k) * be) := Nat.mul_assoc _ _ _
      _ ≤ al ^ k * (al * (2 ^ 52 + 2 * (k + 1))) := Nat.mul_le_mul_left _ (be_step k (by omega))
      _ = al ^ k * al * (2 ^ 52 + 2 * (k + 1)) := by rw [Nat.mul_assoc]
theorem half_lin {k a b : Nat} (hk : k ≤ 100) (h : a * al ^ k ≤ b * be ^ k) : a * 2 ^ 52 ≤ b * (2 ^ 52 + 2 * k) := by
  have hp : 0 < al ^ k := Nat.pow_pos al_pos
  refine Nat.le_of_mul_le_mul_right (c := al ^ k) ?_ hp
  calc a * 2 ^ 52 * al ^ k = (a * al ^ k) * 2 ^ 52 := by rw [Nat.mul_assoc, Nat.mul_comm (2 ^ 52), Nat.mul_assoc]
    _ ≤ (b * be ^ k) * 2 ^ 52 := Nat.mul_le_mul_right _ h
    _ = b * (be ^ k * 2 ^ 52) := Nat.mul_assoc _ _ _
    _ ≤ b * (al ^ k * (2 ^ 52 + 2 * k)) := Nat.mul_le_mul_left _ (be_pow k hk)
    _ = b * (2 ^ 52 + 2 * k) * al ^ k := by rw [Nat.mul_comm (al ^ k), Nat.mul_assoc]
theorem R_lin {k a b : Nat} (hk : k ≤ 100) (h : R k a b) : 2 ^ 52 * a ≤ (2 ^ 52 + 2 * k) * b ∧ 2 ^ 52 * b ≤ (2 ^ 52 + 2 * k) * a := by
  have h1 := half_lin hk h.1
  have h2 := half_lin hk h.2
  rw [Nat.mul_comm a, Nat.mul_comm b] at h1
  rw [Nat.mul_comm b, Nat.mul_comm a] at h2
  exact ⟨h1, h2⟩

/-! ### The operations' laws with the constants on the left ('omega' wants them there) -/
theorem midL {x : Nat} {s : Bool} {v : Nat} (h : Has x s v) (lo : K ≤ 2 ^ 160 * v) (hi : v ≤ 2 ^ 70 * K) :
    ∃ m q : Nat, double.read x = .number s m ((q : Int) - 1074) ∧ v = m * 2 ^ q ∧ m < 2 ^ 53 ∧ 2 ^ 52 ≤ m ∧ 861 < q ∧ q ≤ 1092 :=
  mid h (by rw [Nat.mul_comm]; exact lo) (by rw [Nat.mul_comm]; exact hi)
theorem has_mulL {x y : Nat} {s t : Bool} {vx vy : Nat} (hx : Has x s vx) (hy : Has y t vy)
    (lx : K ≤ 2 ^ 160 * vx) (ux : vx ≤ 2 ^ 70 * K) (ly : K ≤ 2 ^ 160 * vy) (uy : vy ≤ 2 ^ 70 * K) :
    ∃ z v, double.mul x y = some z ∧ Has z (s ^^ t) v ∧ R 1 (v * K) (vx * vy) :=
  has_mul hx hy (by rw [Nat.mul_comm]; exact lx) (by rw [Nat.mul_comm]; exact ux) (by rw [Nat.mul_comm]; exact ly) (by rw [Nat.mul_comm]; exact uy)
theorem has_divL {x y : Nat} {vx vy : Nat} (hx : Has x false vx) (hy : Has y false vy)
    (lx : K ≤ 2 ^ 160 * vx) (ux : vx ≤ 2 ^ 70 * K) (ly : K ≤ 2 ^ 160 * vy) (uy : vy ≤ 2 ^ 70 * K) :
    ∃ z v, double.div x y = some z ∧ Has z false v ∧ R 2 (v * vy) (vx * K) :=
  has_div hx hy (by rw [Nat.mul_comm]; exact lx) (by rw [Nat.mul_comm]; exact ux) (by rw [Nat.mul_comm]; exact ly) (by rw [Nat.mul_comm]; exact uy)
theorem has_addL {x y : Nat} {vx vy : Nat} (hx : Has x false vx) (hy : Has y false vy) (ux : vx ≤ 2 ^ 70 * K) (uy : vy ≤ 2 ^ 70 * K) :
    ∃ z v, double.add x y = some z ∧ Has z false v ∧ R 1 v (vx + vy) :=
  has_add hx hy (by rw [Nat.mul_comm]; exact ux) (by rw [Nat.mul_comm]; exact uy)
theorem has_subL {x y : Nat} {vx vy : Nat} (hx : Has x false vx) (hy : Has y false vy) (ux : vx ≤ 2 ^ 70 * K) (uy : vy ≤ 2 ^ 70 * K) :
    ∃ z v, double.sub x y = some z ∧ Has z (decide (vx < vy)) v ∧ R 1 v ((vx - vy) + (vy - vx)) :=
  has_sub hx hy (by rw [Nat.mul_comm]; exact ux) (by rw [Nat.mul_comm]; exact uy)

/-! ### Constants -/
theorem read_const (x m q : Nat) (hr : double.read x = .number false m ((q : Int) - 1074)) (h1 : m < 2 ^ 53) (h2 : 2 ^ 52 ≤ m) : Has x false (m * 2 ^ q) :=
  ⟨m, q, hr, rfl, h1, Or.inl h2⟩
theorem pow_deep (a b c : Nat) (h : a + b = deep + c) : 2 ^ a * 2 ^ b = K * 2 ^ c := by
  rw [K_def, ← Nat.pow_add, ← Nat.pow_add, h]
theorem pow_deep' (m a b : Nat) (h : a + b = deep) : m * 2 ^ a * 2 ^ b = m * K := by
  rw [Nat.mul_assoc, pow_deep a b 0 (by omega), Nat.pow_zero, Nat.mul_one]
theorem has_zero : Has 0 false 0 := ⟨0, 0, by decide, rfl, by decide, Or.inr rfl⟩
theorem has_one : Has 4607182418800017408 false K := by
  have h := read_const 4607182418800017408 (2 ^ 52) 1022 (by decide) (by decide) (by decide)
  rw [pow_deep 52 1022 0 (by rw [deep_eq]), Nat.pow_zero, Nat.mul_one] at h
  exact h
theorem has_two : Has 4611686018427387904 false (K * 2) := by
  have h := read_const 4611686018427387904 (2 ^ 52) 1023 (by decide) (by decide) (by decide)
  rw [pow_deep 52 1023 1 (by rw [deep_eq]), Nat.pow_one] at h
  exact h
/-- The constant 1e-12, to within its own rounding: 'v * 2^92 = m * K'. -/
theorem has_c12 : ∃ v, Has 4427486594234968593 false v ∧ 2 ^ 92 * v = 4951760157141521 * K := by
  obtain ⟨v, hv⟩ : ∃ v, Has 4427486594234968593 false v ∧ v * 2 ^ 92 = 4951760157141521 * K :=
    ⟨_, read_const 4427486594234968593 4951760157141521 982 (by decide) (by decide) (by decide), pow_deep' 4951760157141521 982 92 (by rw [deep_eq])⟩
  exact ⟨v, hv.1, (Nat.mul_comm _ _).trans hv.2⟩

/-! ### Whole numbers -/
/-- Small numbers are exact. (A name, so that no tactic takes the condition apart.) -/
def Exact (n v : Nat) : Prop := n < 2 ^ 53 → v = n * K
theorem has_nat (n : Nat) (h : n < 2 ^ 64) : ∃ v, Has (double.nearest false n 0) false v ∧ R 1 v (n * K) ∧ Exact n v := by
  have hE : n * 2 ^ deep < K * 2 ^ 240 := by
    rw [← K_def, Nat.mul_comm]
    exact Nat.mul_lt_mul_of_pos_left (by omega) K_pos
  obtain ⟨v, hz, h1, h2, h3⟩ := has_nearest false n deep hE
  have e0 : ((deep : Nat) : Int) - 1074 = 0 := by rw [deep_eq]; rfl
  rw [e0] at hz
  rw [← K_def] at h1 h2 h3
  exact ⟨v, hz, R_one h1 h2, fun hn => h3 n 0 hn (by simp)⟩

/-! ### The sign turned -/
theorem has_neg {x v : Nat} (h : Has x true v) : Has (x ^^^ 2 ^ 63) false v := by
  obtain ⟨m, q, hr, hv, hm, hm'⟩ := h
  refine ⟨m, q, ?_, hv, hm, hm'⟩
  have e1 : double.signWeight = 2 ^ 63 := rfl
  unfold Format.read at hr ⊢
  rw [e1] at hr ⊢
  have a : (x ^^^ 2 ^ 63) % 2 ^ 63 = x % 2 ^ 63 := by
    rw [Nat.xor_mod_two_pow]; simp
  have b : (x ^^^ 2 ^ 63) / 2 ^ 63 % 2 = (x / 2 ^ 63 + 1) % 2 := by
    rw [Nat.xor_div_two_pow]
    have : (2 : Nat) ^ 63 / 2 ^ 63 = 1 := by decide
    rw [this]
    have h1 := @Nat.xor_mod_two_eq_one (x / 2 ^ 63) 1
    generalize (x / 2 ^ 63) ^^^ 1 = t at *
    omega
  rw [a, b]
  dsimp only at hr ⊢
  by_cases c : x / 2 ^ 63 % 2 = 1
  · have d : (x / 2 ^ 63 + 1) % 2 = 0 := by omega
    rw [c] at hr
    rw [d]
    split at hr
    · rename_i h1; rw [if_pos h1]; simp at hr ⊢; exact hr
    · rename_i h1; rw [if_neg h1]
      split at hr
      · rename_i h2; rw [if_pos h2]; simp at hr ⊢; exact hr
      · split at hr <;> cases hr
  · have c0 : x / 2 ^ 63 % 2 = 0 := by omega
    rw [c0] at hr
    split at hr
    · simp at hr
    · split at hr
      · simp at hr
      · split at hr <;> cases hr

/-! ### Twice -/
theorem norm_unique {m q m' q' : Nat} (h : m * 2 ^ q = m' * 2 ^ q') (h1 : 2 ^ 52 ≤ m) (h2 : m < 2 ^ 53) (h3 : 2 ^ 52 ≤ m') (h4 : m' < 2 ^ 53) : m = m' ∧ q = q' := by
  have key : ∀ a b x y : Nat, a * 2 ^ x = b * 2 ^ y → 2 ^ 52 ≤ a → b < 2 ^ 53 → x ≤ y := by
    intro a b x y e ha hb
    have p1 : 2 ^ (52 + x) < 2 ^ (53 + y) := by
      rw [Nat.pow_add 2 52, Nat.pow_add 2 53]
      refine Nat.lt_of_le_of_lt (Nat.mul_le_mul_right _ ha) ?_
      rw [e]
      exact Nat.mul_lt_mul_of_pos_right hb (Nat.two_pow_pos _)
    have := (Nat.pow_lt_pow_iff_right (a := 2) (by decide)).1 p1
    omega
  have a := key m m' q q' h h1 h4
  have b := key m' m q' q h.symm h3 h2
  have e : q = q' := Nat.le_antisymm a b
  subst e
  exact ⟨Nat.eq_of_mul_eq_mul_right (Nat.two_pow_pos _) h, rfl⟩

/-- '2 * x' is exact: the significand stays, the place goes up by one. -/
theorem twice {x v m q : Nat} (hr : double.read x = .number false m ((q : Int) - 1074)) (hv : v = m * 2 ^ q) (hm : m < 2 ^ 53) (hm' : 2 ^ 52 ≤ m) (hq0 : 861 < q) (hq : q ≤ 1092) :
    ∃ z, double.mul 4611686018427387904 x = some z ∧ double.read z = .number false m (((q + 1 : Nat) : Int) - 1074) ∧ Has z false (2 * v) := by
  have e2 : double.read 4611686018427387904 = .number false (2 ^ 52) (-51) := by decide
  have ep : ((-51 : Int) + ((q : Int) - 1074)) = ((q - 51 : Nat) : Int) - 1074 := by omega
  have eE : 2 ^ 52 * m * 2 ^ (q - 51) = 2 * v := by
    rw [hv]
    have : 2 ^ q = 2 ^ 51 * 2 ^ (q - 51) := by rw [← Nat.pow_add]; congr 1; omega
    rw [this]
    generalize 2 ^ (q - 51) = t
    have e : (2 : Nat) ^ 52 = 2 * 2 ^ 51 := by decide
    rw [e]
    generalize (2 : Nat) ^ 51 = u
    ac_rfl
  have hE : 2 ^ 52 * m * 2 ^ (q - 51) < K * 2 ^ 240 := by
    rw [eE, hv]
    have a : m * 2 ^ q < 2 ^ 53 * 2 ^ q := Nat.mul_lt_mul_of_pos_right hm (Nat.two_pow_pos _)
    have b : 2 ^ 53 * 2 ^ q ≤ 2 ^ deep * 2 ^ 100 := by
      rw [← Nat.pow_add, ← Nat.pow_add]
      exact Nat.pow_le_pow_right (by decide) (by rw [deep_eq]; omega)
    rw [← K_def] at b
    generalize m * 2 ^ q = t at *
    generalize 2 ^ 53 * 2 ^ q = t' at *
    omega
  obtain ⟨w, hz, _, _, hx⟩ := has_nearest false (2 ^ 52 * m) (q - 51) hE
  have hw := hx m 52 hm (Nat.mul_comm _ _)
  rw [eE] at hw
  refine ⟨_, ?_, ?_, hw ▸ hz⟩
  · unfold Format.mul
    rw [e2, hr]
    simp only [Datum.product, Option.map_some, Format.write, ep, Bool.xor_false]
  · obtain ⟨m', q', hr', hv', hm1, hm2⟩ := hz
    rw [hr']
    have e : m' * 2 ^ q' = m * 2 ^ (q + 1) := by
      rw [← hv', hw, hv, Nat.pow_succ]
      generalize 2 ^ q = t
      ac_rfl
    have hq' : q' ≠ 0 := by
      intro h0
      rw [h0] at e
      have : 2 ^ 52 * 2 ^ 1 ≤ m * 2 ^ (q + 1) := Nat.mul_le_mul hm' (Nat.pow_le_pow_right (by decide) (by omega))
      omega
    obtain ⟨rfl, rfl⟩ := norm_unique e (by omega) hm1 hm' hm
    rfl


/-! ### 'x is within 1e-12 of n' -/
theorem le_order {a c va vc : Nat} (ha : Has a false va) (hc : Has c false vc) (h : va ≤ vc) :
    (double.order a c == some .lt || double.order a c == some .eq) = true := by
  rw [order_eq ha hc]
  have e1 : sg false va = (va : Int) := rfl
  have e2 : sg false vc = (vc : Int) := rfl
  rw [e1, e2]
  rcases Nat.lt_or_ge va vc with h' | h'
  · rw [Int.compare_eq_lt.2 (by omega)]; rfl
  · rw [Int.compare_eq_eq.2 (by omega)]; rfl

theorem eq_order {a c v : Nat} (ha : Has a false v) (hc : Has c false v) : (double.order a c == some .eq) = true := by
  rw [order_eq ha hc, Int.compare_eq_eq.2 rfl]; rfl

theorem close_up {vz vn vs : Nat} (h : vn ≤ vz) (l1 : 2 ^ 52 * vz ≤ (2 ^ 52 + 24) * vn) (d : vs ≤ 2 * (vz - vn + (vn - vz))) : 2 ^ 45 * vs ≤ vn := by
  have e : vz - vn + (vn - vz) = vz - vn := by omega
  rw [e] at d
  obtain ⟨t, rfl⟩ : ∃ t, vz = vn + t := ⟨vz - vn, by omega⟩
  have e2 : vn + t - vn = t := by omega
  rw [e2] at d
  omega
theorem close_down {vz vn vs : Nat} (h : vz ≤ vn) (l2 : 2 ^ 52 * vn ≤ (2 ^ 52 + 24) * vz) (d : vs ≤ 2 * (vz - vn + (vn - vz))) : 2 ^ 45 * vs ≤ vn := by
  have e : vz - vn + (vn - vz) = vn - vz := by omega
  rw [e] at d
  obtain ⟨t, rfl⟩ : ∃ t, vn = vz + t := ⟨vn - vz, by omega⟩
  have e2 : vz + t - vz = t := by omega
  rw [e2] at d
  omega
theorem close_12 {v12 vn vc : Nat} (e12 : 2 ^ 92 * v12 = 4951760157141521 * K) (c2 : v12 * vn ≤ 2 * (vc * K)) : vn ≤ 2 ^ 41 * vc := by
  have c3 : 2 ^ 92 * (v12 * vn) ≤ 2 ^ 92 * (2 * (vc * K)) := Nat.mul_le_mul_left _ c2
  have c4 : 2 ^ 92 * (v12 * vn) = (4951760157141521 * vn) * K := by
    rw [← Nat.mul_assoc, e12]
    generalize K = k
    generalize 4951760157141521 = t
    ac_rfl
  have c5 : 2 ^ 92 * (2 * (vc * K)) = (2 ^ 93 * vc) * K := by
    have : (2 : Nat) ^ 93 = 2 * 2 ^ 92 := by decide
    rw [this]
    generalize (2 : Nat) ^ 92 = g
    generalize K = k
    generalize 2 = t
    ac_rfl
  rw [c4, c5] at c3
  have c6 := Nat.le_of_mul_le_mul_right c3 K_pos
  omega
theorem c12_range {v12 : Nat} (e12 : 2 ^ 92 * v12 = 4951760157141521 * K) : K ≤ 2 ^ 160 * v12 ∧ v12 ≤ 2 ^ 70 * K := by
  have h1 : 1 * K ≤ 4951760157141521 * K := Nat.mul_le_mul_right _ (by decide)
  have h2 : 4951760157141521 * K ≤ 2 ^ 70 * K := Nat.mul_le_mul_right _ (by decide)
  have h3 : 2 ^ 92 * v12 ≤ 2 ^ 160 * v12 := Nat.mul_le_mul_right _ (by decide)
  have h4 : 1 * v12 ≤ 2 ^ 92 * v12 := Nat.mul_le_mul_right _ (by decide)
  rw [Nat.one_mul] at h1 h4
  rw [← e12] at h1 h2
  exact ⟨Nat.le_trans h1 h3, Nat.le_trans h4 h2⟩

theorem close {z n vz vn : Nat} (hz : Has z false vz) (hn : Has n false vn)
    (l1 : 2 ^ 52 * vz ≤ (2 ^ 52 + 24) * vn) (l2 : 2 ^ 52 * vn ≤ (2 ^ 52 + 24) * vz) (lo : K ≤ 2 ^ 100 * vn) (hi : vn ≤ 2 ^ 66 * K) :
    ∃ s c a, double.sub z n = some s ∧ double.mul 4427486594234968593 n = some c ∧
      (((double.order s 0 == some .lt) = true ∧ a = s ^^^ 2 ^ 63) ∨ ((double.order s 0 == some .lt) = false ∧ a = s)) ∧
      (double.order a c == some .lt || double.order a c == some .eq) = true := by
  have hK := K_pos
  obtain ⟨v12, h12, e12⟩ := has_c12
  obtain ⟨k1, k2⟩ := c12_range e12
  have e12' : ∀ vc, v12 * vn ≤ 2 * (vc * K) → vn ≤ 2 ^ 41 * vc := fun _ h => close_12 e12 h
  clear e12
  obtain ⟨s, vs, hs, hsv, hsR⟩ := has_subL hz hn (by omega) (by omega)
  obtain ⟨c, vc, hc, hcv, hcR⟩ := has_mulL h12 hn k1 k2 (by omega) (by omega)
  have hcv' : vn ≤ 2 ^ 41 * vc := e12' _ (R_two hcR).2
  have hsv' : 2 ^ 45 * vs ≤ vn := by
    rcases Nat.le_total vn vz with h | h
    · exact close_up h l1 (R_two hsR).1
    · exact close_down h l2 (R_two hsR).1
  have d2 := (R_two hsR).2
  have hle : vs ≤ vc := by omega
  by_cases hlt : vz < vn
  · rw [decide_eq_true hlt] at hsv
    refine ⟨s, c, s ^^^ 2 ^ 63, hs, hc, Or.inl ⟨?_, rfl⟩, le_order (has_neg hsv) hcv hle⟩
    rw [order_eq hsv has_zero]
    have e : sg true vs = -(vs : Int) := rfl
    have e0 : sg false 0 = 0 := rfl
    rw [e, e0, Int.compare_eq_lt.2 (by omega)]; rfl
  · rw [decide_eq_false hlt] at hsv
    refine ⟨s, c, s, hs, hc, Or.inr ⟨?_, rfl⟩, le_order hsv hcv hle⟩
    rw [order_eq hsv has_zero]
    have e : sg false vs = (vs : Int) := rfl
    have e0 : sg false 0 = 0 := rfl
    rw [e, e0]
    rcases Nat.eq_zero_or_pos vs with h | h
    · rw [Int.compare_eq_eq.2 (by omega)]; rfl
    · rw [Int.compare_eq_gt.2 (by omega)]; rfl

/-! ### The evaluation -/
def fw (n : Nat) : Nat := double.nearest false n 0

structure Ev (tp pf pt P Q A2 B2 A S f vN vF vT vP vQ vf : Nat) : Prop where
  hN : Has (fw tp) false vN
  hF : Has (fw pf) false vF
  hT : Has (fw pt) false vT
  divP : double.div (fw tp) (fw pf) = some P
  divQ : double.div (fw tp) (fw pt) = some Q
  hP : Has P false vP
  hQ : Has Q false vQ
  addS : double.add P Q = some S
  addS' : double.add Q P = some S
  posS : (double.order S 0 == some .gt) = true
  mulA2 : double.mul 4611686018427387904 P = some A2
  mulB2 : double.mul 4611686018427387904 Q = some B2
  mulA : double.mul A2 Q = some A
  mulB : double.mul B2 P = some A
  divf : double.div A S = some f
  hf : Has f false vf
  rP : R 2 (vP * vF) (vN * K)
  rQ : R 2 (vQ * vT) (vN * K)
  rf : R 10 (vf * (vF + vT)) (2 * (vN * K))
  loN : K ≤ 2 * vN
  loF : K ≤ 2 * vF
  loT : K ≤ 2 * vT
  hiN : vN ≤ 2 ^ 64 * K
  hiF : vF ≤ 2 ^ 64 * K
  hiT : vT ≤ 2 ^ 64 * K
  loP : K ≤ 2 ^ 66 * vP
  loQ : K ≤ 2 ^ 66 * vQ
  hiP : vP ≤ 8 * K
  hiQ : vQ ≤ 8 * K
  lof : K ≤ 2 ^ 140 * vf
  hif : vf ≤ 16 * K
  exN : Exact tp vN
  exF : Exact pf vF
  exT : Exact pt vT

theorem nat_bounds {n v : Nat} (h1 : 1 ≤ n) (h2 : n < 2 ^ 63) (h : R 1 v (n * K)) : K ≤ 2 * v ∧ v ≤ 2 ^ 64 * K := by
  have h := R_two h
  have a : 1 * K ≤ n * K := Nat.mul_le_mul_right _ h1
  have b : n * K ≤ 2 ^ 63 * K := Nat.mul_le_mul_right _ (Nat.le_of_lt h2)
  generalize n * K = t at *
  omega

theorem quo_bounds {tp d vN vD vP : Nat} (h : tp ≤ d) (rN : R 1 vN (tp * K)) (rD : R 1 vD (d * K)) (loN : K ≤ 2 * vN) (loD : K ≤ 2 * vD) (hiD : vD ≤ 2 ^ 64 * K)
    (r : R 2 (vP * vD) (vN * K)) : K ≤ 2 ^ 66 * vP ∧ vP ≤ 8 * K := by
  have hK := K_pos
  have r := R_four r
  have n := R_two rN
  have d' := R_two rD
  have nd : vN ≤ 4 * vD := by
    have : tp * K ≤ d * K := Nat.mul_le_mul_right _ h
    generalize tp * K = x at *
    generalize d * K = y at *
    omega
  constructor
  · have a : vP * vD ≤ vP * (2 ^ 64 * K) := Nat.mul_le_mul_left _ hiD
    have b : vN * K ≤ (2 ^ 65 * vP) * K := by
      have e : 2 * (vP * (2 ^ 64 * K)) = (2 ^ 65 * vP) * K := by
        have : (2 : Nat) ^ 65 = 2 * 2 ^ 64 := by decide
        rw [this]
        generalize (2 : Nat) ^ 64 = g
        generalize K = k
        ac_rfl
      rw [← e]
      omega
    have c := Nat.le_of_mul_le_mul_right b hK
    omega
  · have a : vN * K ≤ 4 * vD * K := Nat.mul_le_mul_right _ nd
    have hD : 0 < vD := by omega
    refine Nat.le_of_mul_le_mul_right (c := vD) ?_ hD
    have e : 8 * K * vD = 2 * (4 * vD * K) := by
      have : 8 = 2 * 4 := rfl
      rw [this]
      generalize K = k
      generalize 2 = a
      generalize 4 = b
      ac_rfl
    rw [e]
    omega

theorem f1_R {vN vF vT vP vQ vA vS vf : Nat} (hN : 0 < vN) (rP : R 2 (vP * vF) (vN * K)) (rQ : R 2 (vQ * vT) (vN * K))
    (rA : R 1 (vA * K) (2 * vP * vQ)) (rS : R 1 vS (vP + vQ)) (rf : R 2 (vf * vS) (vA * K)) : R 10 (vf * (vF + vT)) (2 * (vN * K)) := by
  have hK := K_pos
  generalize hk : K = k at *
  -- the dividend
  have a1 : R 4 ((vP * vF) * (vQ * vT)) ((vN * k) * (vN * k)) := R_mul rP rQ
  have a2 : R 4 (2 * vP * vQ * (vF * vT)) (2 * ((vN * k) * (vN * k))) := by
    have := R_left 2 a1
    have e : 2 * (vP * vF * (vQ * vT)) = 2 * vP * vQ * (vF * vT) := by generalize 2 = a; ac_rfl
    rw [e] at this
    exact this
  have a3 : R 3 (vf * vS) (2 * vP * vQ) := R_trans rf rA
  have a4 : R 7 (vf * vS * (vF * vT)) (2 * ((vN * k) * (vN * k))) := R_trans (R_right (vF * vT) a3) a2
  -- the divisor
  have b1 : R 2 (vP * vF * vT + vQ * vT * vF) (vN * k * vT + vN * k * vF) := R_add (R_right vT rP) (R_right vF rQ)
  have b2 : R 1 (vS * (vF * vT)) ((vP + vQ) * (vF * vT)) := R_right _ rS
  have b3 : R 3 (vS * (vF * vT)) (vN * k * vT + vN * k * vF) := by
    have e : (vP + vQ) * (vF * vT) = vP * vF * vT + vQ * vT * vF := by
      rw [Nat.add_mul, Nat.mul_assoc vP, Nat.mul_comm vF vT, ← Nat.mul_assoc vQ]
    rw [e] at b2
    exact R_trans b2 b1
  have b4 : R 3 (vf * (vN * k * vT + vN * k * vF)) (vf * (vS * (vF * vT))) := R_left vf (R_symm b3)
  have c : R 10 (vf * (vN * k * vT + vN * k * vF)) (2 * ((vN * k) * (vN * k))) := by
    rw [Nat.mul_assoc vf] at a4
    exact R_trans b4 a4
  refine R_cancel (c := vN * k) (Nat.mul_pos hN hK) ?_
  have e1 : vf * (vF + vT) * (vN * k) = vf * (vN * k * vT + vN * k * vF) := by
    rw [← Nat.mul_add, Nat.mul_assoc vf, Nat.mul_comm (vF + vT), Nat.add_comm vF vT]
  have e2 : 2 * (vN * k) * (vN * k) = 2 * ((vN * k) * (vN * k)) := Nat.mul_assoc _ _ _
  rw [e1, e2]
  exact c

theorem sum_comm (m n : Nat) (i j : Int) : Datum.sum (.number false m i) (.number false n j) = Datum.sum (.number false n j) (.number false m i) := by
  simp only [Datum.sum]
  rw [Int.min_comm j i, Int.add_comm (signed false m _)]

theorem ev (tp pf pt : Nat) (h0 : 1 ≤ tp) (h1 : tp ≤ pf) (h2 : tp ≤ pt) (h3 : pf < 2 ^ 63) (h4 : pt < 2 ^ 63) :
    ∃ P Q A2 B2 A S f vN vF vT vP vQ vf, Ev tp pf pt P Q A2 B2 A S f vN vF vT vP vQ vf := by
  have hK := K_pos
  obtain ⟨vN, hN, rN, xN⟩ := has_nat tp (by omega)
  obtain ⟨vF, hF, rF, xF⟩ := has_nat pf (by omega)
  obtain ⟨vT, hT, rT, xT⟩ := has_nat pt (by omega)
  obtain ⟨loN, hiN⟩ := nat_bounds h0 (by omega) rN
  obtain ⟨loF, hiF⟩ := nat_bounds (by omega) (by omega) rF
  obtain ⟨loT, hiT⟩ := nat_bounds (by omega) (by omega) rT
  obtain ⟨P, vP, dP, hP, rP⟩ := has_divL hN hF (by omega) (by omega) (by omega) (by omega)
  obtain ⟨Q, vQ, dQ, hQ, rQ⟩ := has_divL hN hT (by omega) (by omega) (by omega) (by omega)
  obtain ⟨loP, hiP⟩ := quo_bounds h1 rN rF loN loF hiF rP
  obtain ⟨loQ, hiQ⟩ := quo_bounds h2 rN rT loN loT hiT rQ
  obtain ⟨mp, qp, rdP, vPe, mp1, mp2, qp1, qp2⟩ := midL hP (by omega) (by omega)
  obtain ⟨mq, qq, rdQ, vQe, mq1, mq2, qq1, qq2⟩ := midL hQ (by omega) (by omega)
  obtain ⟨A2, mA2, rdA2, hA2⟩ := twice rdP vPe mp1 mp2 qp1 qp2
  obtain ⟨B2, mB2, rdB2, hB2⟩ := twice rdQ vQe mq1 mq2 qq1 qq2
  obtain ⟨S, vS, aS, hS, rS⟩ := has_addL hP hQ (by omega) (by omega)
  obtain ⟨A, vA, mA, hA, rA⟩ := has_mulL hA2 hQ (by omega) (by omega) (by omega) (by omega)
  have bS := R_two rS
  have bA := R_two rA
  have loA : K ≤ 2 ^ 133 * vA := by
    refine Nat.le_of_mul_le_mul_right (c := K) ?_ hK
    have a : K * K ≤ (2 ^ 66 * vP) * (2 ^ 66 * vQ) := Nat.mul_le_mul loP loQ
    have e : 2 * ((2 ^ 66 * vP) * (2 ^ 66 * vQ)) = 2 ^ 132 * (2 * vP * vQ) := by
      have : (2 : Nat) ^ 132 = 2 ^ 66 * 2 ^ 66 := by decide
      rw [this]
      generalize (2 : Nat) ^ 66 = g
      generalize 2 = t
      ac_rfl
    have e2 : 2 ^ 133 * vA * K = 2 ^ 132 * (2 * (vA * K)) := by
      have : (2 : Nat) ^ 133 = 2 * 2 ^ 132 := by decide
      rw [this]
      generalize (2 : Nat) ^ 132 = g
      generalize K = k
      generalize 2 = t
      ac_rfl
    rw [e2]
    generalize 2 * vP * vQ = x at *
    generalize vA * K = y at *
    generalize 2 ^ 66 * vP * (2 ^ 66 * vQ) = u at *
    generalize K * K = kk at *
    omega
  have hiA : vA ≤ 2 ^ 8 * K := by
    refine Nat.le_of_mul_le_mul_right (c := K) ?_ hK
    have a : vP * vQ ≤ (8 * K) * (8 * K) := Nat.mul_le_mul hiP hiQ
    have e : 2 * vP * vQ = 2 * (vP * vQ) := Nat.mul_assoc _ _ _
    have e2 : (8 * K) * (8 * K) = 64 * (K * K) := by
      have : 64 = 8 * 8 := rfl
      rw [this]
      generalize K = k
      generalize 8 = t
      ac_rfl
    have e3 : 2 ^ 8 * K * K = 2 ^ 8 * (K * K) := by
      generalize (2 : Nat) ^ 8 = g
      generalize K = k
      ac_rfl
    rw [e3]
    rw [e, ] at bA
    rw [e2] at a
    generalize vP * vQ = x at *
    generalize vA * K = y at *
    generalize K * K = kk at *
    omega
  obtain ⟨f, vf, df, hf, rf⟩ := has_divL hA hS (by omega) (by omega) (by omega) (by omega)
  have rff := f1_R (by omega) rP rQ rA rS rf
  have bf := R_four rf
  have lof : K ≤ 2 ^ 140 * vf := by
    have a : vf * vS ≤ vf * (2 ^ 5 * K) := Nat.mul_le_mul_left _ (by omega)
    have b : vA * K ≤ (2 ^ 6 * vf) * K := by
      have e : (2 ^ 6 * vf) * K = 2 * (vf * (2 ^ 5 * K)) := by
        have : (2 : Nat) ^ 6 = 2 * 2 ^ 5 := by decide
        rw [this]
        generalize (2 : Nat) ^ 5 = g
        generalize K = k
        generalize 2 = t
        ac_rfl
      rw [e]
      omega
    have c := Nat.le_of_mul_le_mul_right b hK
    omega
  have hif : vf ≤ 16 * K := by
    have l := (R_lin (by decide) rff).1
    have nN := R_two rN
    have nF := R_two rF
    have nd : vN ≤ 4 * vF := by
      have : tp * K ≤ pf * K := Nat.mul_le_mul_right _ h1
      generalize tp * K = x at *
      generalize pf * K = y at *
      omega
    have hD : 0 < vF + vT := by omega
    refine Nat.le_of_mul_le_mul_right (c := vF + vT) ?_ hD
    have a : vN * K ≤ 4 * vF * K := Nat.mul_le_mul_right _ nd
    have b : vF * K ≤ (vF + vT) * K := Nat.mul_le_mul_right _ (by omega)
    have e : 16 * K * (vF + vT) = 16 * ((vF + vT) * K) := by
      generalize K = k
      generalize 16 = t
      ac_rfl
    have e4 : 4 * vF * K = 4 * (vF * K) := Nat.mul_assoc _ _ _
    rw [e]
    rw [e4] at a
    generalize vf * (vF + vT) = x at *
    generalize vN * K = y at *
    generalize (vF + vT) * K = u at *
    generalize vF * K = t at *
    omega
  refine ⟨P, Q, A2, B2, A, S, f, vN, vF, vT, vP, vQ, vf, ⟨hN, hF, hT, dP, dQ, hP, hQ, aS, ?_, ?_, mA2, mB2, mA, ?_, df, hf, rP, rQ, rff, loN, loF, loT, hiN, hiF, hiT, loP, loQ, hiP, hiQ, lof, hif, xN, xF, xT⟩⟩
  · rw [← aS]
    unfold Format.add
    rw [rdP, rdQ, sum_comm]
  · rw [order_eq hS has_zero]
    have e : sg false vS = (vS : Int) := rfl
    have e0 : sg false 0 = 0 := rfl
    rw [e, e0, Int.compare_eq_gt.2 (by omega)]; rfl
  · rw [← mA]
    unfold Format.mul
    rw [rdA2, rdB2, rdP, rdQ]
    simp only [Datum.product]
    have e1 : mq * mp = mp * mq := Nat.mul_comm _ _
    have e2 : (((qq + 1 : Nat) : Int) - 1074 + ((qp : Int) - 1074)) = (((qp + 1 : Nat) : Int) - 1074 + ((qq : Int) - 1074)) := by omega
    rw [e1, e2]

/-- The precision: 'x * d' against 'n'. -/
theorem ratio_close {x d n vx vd vn : Nat} (hx : Has x false vx) (hd : Has d false vd) (hn : Has n false vn) (r : R 2 (vx * vd) (vn * K))
    (lx : K ≤ 2 ^ 66 * vx) (ux : vx ≤ 8 * K) (ld : K ≤ 2 * vd) (ud : vd ≤ 2 ^ 64 * K) (ln : K ≤ 2 * vn) (un : vn ≤ 2 ^ 64 * K) :
    ∃ z s c a, double.mul x d = some z ∧ double.sub z n = some s ∧ double.mul 4427486594234968593 n = some c ∧
      (((double.order s 0 == some .lt) = true ∧ a = s ^^^ 2 ^ 63) ∨ ((double.order s 0 == some .lt) = false ∧ a = s)) ∧
      (double.order a c == some .lt || double.order a c == some .eq) = true := by
  obtain ⟨z, vz, hz, hzv, rz⟩ := has_mulL hx hd (by omega) (by omega) (by omega) (by omega)
  have r3 : R 3 vz vn := R_cancel K_pos (R_trans rz r)
  have l := R_lin (by decide) r3
  obtain ⟨s, c, a, h1, h2, h3, h4⟩ := close hzv hn (by omega) (by omega) (by omega) (by omega)
  exact ⟨z, s, c, a, hz, h1, h2, h3, h4⟩

/-- F1 in the Dice form. -/
theorem f1_close {tp pf pt P Q A2 B2 A S f vN vF vT vP vQ vf : Nat} (h : Ev tp pf pt P Q A2 B2 A S f vN vF vT vP vQ vf) :
    ∃ wnt g got s c a, double.mul 4611686018427387904 (fw tp) = some wnt ∧ double.add (fw pf) (fw pt) = some g ∧ double.mul f g = some got ∧
      double.sub got wnt = some s ∧ double.mul 4427486594234968593 wnt = some c ∧
      (((double.order s 0 == some .lt) = true ∧ a = s ^^^ 2 ^ 63) ∨ ((double.order s 0 == some .lt) = false ∧ a = s)) ∧
      (double.order a c == some .lt || double.order a c == some .eq) = true := by
  have hK := K_pos
  obtain ⟨hN, hF, hT, _, _, _, _, _, _, _, _, _, _, _, _, hf, _, _, rf, loN, loF, loT, hiN, hiF, hiT, _, _, _, _, lof, hif, _, _, _⟩ := h
  obtain ⟨mn, qn, rdN, vNe, mn1, mn2, qn1, qn2⟩ := midL hN (by omega) (by omega)
  obtain ⟨wnt, mw, _, hw⟩ := twice rdN vNe mn1 mn2 qn1 qn2
  obtain ⟨g, vg, ag, hg, rg⟩ := has_addL hF hT (by omega) (by omega)
  have bg := R_two rg
  obtain ⟨got, vgot, mg, hgot, rgot⟩ := has_mulL hf hg (by omega) (by omega) (by omega) (by omega)
  have r12 : R 12 vgot (2 * vN) := by
    have a : R 1 (vf * vg) (vf * (vF + vT)) := R_left vf rg
    have b : R 12 (vgot * K) (2 * (vN * K)) := R_trans (k := 2) (R_trans (k := 1) (l := 1) rgot a) rf
    rw [← Nat.mul_assoc] at b
    exact R_cancel hK b
  have l := R_lin (by decide) r12
  obtain ⟨s, c, a, h1, h2, h3, h4⟩ := close hgot hw (by omega) (by omega) (by omega) (by omega)
  exact ⟨wnt, g, got, s, c, a, mw, ag, mg, h1, h2, h3, h4⟩

end Go.Proofs.Qxb6605261a.Fl
