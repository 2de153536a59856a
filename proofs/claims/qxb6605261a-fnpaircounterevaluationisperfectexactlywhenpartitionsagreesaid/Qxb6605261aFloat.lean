import Ieee.Arith
namespace Go.Proofs.Qxb6605261a.Fl
open Ieee

/-- The unit's inverse: every finite double is a whole multiple of '1 / K'. -/
def deep : Nat := 1074
theorem deep_eq : deep = 1074 := rfl
/-- A power of two that no tactic lays open by itself. -/
def twoUp (n : Nat) : Nat := if n = 0 then 1 else 2 * twoUp (n - 1)
theorem twoUp_eq (n : Nat) : twoUp n = 2 ^ n := by
  induction n with
  | zero => rw [twoUp, if_pos rfl, Nat.pow_zero]
  | succ n ih => rw [twoUp, if_neg (by omega), Nat.add_sub_cancel, ih, Nat.pow_succ, Nat.mul_comm]
def K : Nat := twoUp deep
theorem K_def : K = 2 ^ deep := twoUp_eq deep
theorem K_pos : 0 < K := by rw [K_def]; exact Nat.two_pow_pos _

/-- The word 'x' is finite, has the sign 's' and the magnitude 'v / K'. -/
def Has (x : Nat) (s : Bool) (v : Nat) : Prop :=
  ∃ m q : Nat, double.read x = .number s m ((q : Int) - 1074) ∧ v = m * 2 ^ q ∧ m < 2 ^ 53 ∧ (2 ^ 52 ≤ m ∨ q = 0)

theorem read_word (neg : Bool) (rung : Nat) (h : rung < 2047 * 2 ^ 52) :
    double.read (double.word neg rung) = if rung < 2 ^ 52 then .number neg rung (-1074)
      else .number neg (2 ^ 52 + rung % 2 ^ 52) (-1074 + (rung / 2 ^ 52 - 1 : Nat)) := by
  have e1 : double.signWeight = 2 ^ 63 := rfl
  have e2 : double.binade = 2 ^ 52 := rfl
  have e3 : double.infRung = 2047 * 2 ^ 52 := rfl
  have e4 : double.leastPlace = -1074 := by decide
  unfold Format.read Format.word
  rw [e1, e2, e3, e4]
  cases neg
  · have a : (rung / 2 ^ 63 % 2 == 1) = false := by
      have : rung / 2 ^ 63 % 2 = 0 := by omega
      rw [this]; rfl
    have b : rung % 2 ^ 63 = rung := by omega
    simp only [Bool.false_eq_true, if_false, a, b, h, if_true]
  · have a : ((2 ^ 63 + rung) / 2 ^ 63 % 2 == 1) = true := by
      have : (2 ^ 63 + rung) / 2 ^ 63 % 2 = 1 := by omega
      rw [this]; rfl
    have b : (2 ^ 63 + rung) % 2 ^ 63 = rung := by omega
    simp only [if_true, a, b, h]

theorem cut_zero (neg : Bool) (n : Nat) : Toward.even.cut neg n 0 = n := by
  unfold Toward.cut
  simp [Nat.mod_one]

theorem cut_spec (neg : Bool) (n d : Nat) (hd : d ≤ n.log2 + 2) :
    2 * n ≤ 2 * (Toward.even.cut neg n d * 2 ^ d) + 2 ^ d ∧ 2 * (Toward.even.cut neg n d * 2 ^ d) ≤ 2 * n + 2 ^ d := by
  unfold Toward.cut
  rw [Nat.min_eq_left hd, Nat.one_shiftLeft]
  have hg : 0 < 2 ^ d := Nat.two_pow_pos d
  generalize 2 ^ d = g at hg
  dsimp only
  have hn := Nat.div_add_mod n g
  have hr := Nat.mod_lt n hg
  generalize n / g = low at *
  generalize n % g = rest at *
  have hc : g * low = low * g := Nat.mul_comm _ _
  by_cases h : (decide (g < 2 * rest) || (g == 2 * rest && low % 2 == 1)) = true
  · rw [h]
    have h2 : g ≤ 2 * rest := by
      simp only [Bool.or_eq_true, Bool.and_eq_true, decide_eq_true_eq, beq_iff_eq] at h
      omega
    simp only [Bool.toNat_true, Nat.add_mul, Nat.one_mul]
    generalize low * g = t at *
    omega
  · have h' : (decide (g < 2 * rest) || (g == 2 * rest && low % 2 == 1)) = false := by simpa using h
    rw [h']
    have h2 : 2 * rest ≤ g := by
      simp only [Bool.or_eq_true, decide_eq_true_eq] at h
      omega
    simp only [Bool.toNat_false, Nat.add_zero]
    generalize low * g = t at *
    omega

theorem cut_exact (neg : Bool) (n d k : Nat) (hd : d ≤ n.log2 + 2) (h : n = k * 2 ^ d) : Toward.even.cut neg n d * 2 ^ d = n := by
  unfold Toward.cut
  rw [Nat.min_eq_left hd, Nat.one_shiftLeft]
  have hg : 0 < 2 ^ d := Nat.two_pow_pos d
  dsimp only
  have e1 : n / 2 ^ d = k := by rw [h, Nat.mul_div_cancel _ hg]
  have e2 : n % 2 ^ d = 0 := by rw [h, Nat.mul_mod_left]
  rw [e1, e2]
  have : (decide (2 ^ d < 2 * 0) || (2 ^ d == 2 * 0 && k % 2 == 1)) = false := by
    rw [Bool.or_eq_false_iff, Bool.and_eq_false_iff]
    exact ⟨decide_eq_false (by omega), Or.inl (by simp)⟩
  rw [this, h]
  simp

theorem nearest_eq (neg : Bool) (mag q : Nat) (h : mag ≠ 0) :
    double.nearest neg mag ((q : Int) - 1074) =
      double.word neg (min ((q + mag.log2 - 52) * 2 ^ 52 + Toward.even.cut neg (mag <<< (q - (q + mag.log2 - 52))) ((q + mag.log2 - 52) - q)) (2047 * 2 ^ 52)) := by
  have e2 : double.binade = 2 ^ 52 := rfl
  have e3 : double.infRung = 2047 * 2 ^ 52 := rfl
  have e4 : double.leastPlace = -1074 := by decide
  have e5 : double.fractionBits = 52 := rfl
  unfold Format.nearest
  rw [if_neg h]
  dsimp only
  rw [e2, e3, e4, e5]
  have a1 : (max ((q : Int) - 1074 + (mag.log2 : Int) - ((52 : Nat) : Int)) (-1074) - -1074).toNat = q + mag.log2 - 52 := by omega
  have a2 : ((q : Int) - 1074 - max ((q : Int) - 1074 + (mag.log2 : Int) - ((52 : Nat) : Int)) (-1074)).toNat = q - (q + mag.log2 - 52) := by omega
  have a3 : (max ((q : Int) - 1074 + (mag.log2 : Int) - ((52 : Nat) : Int)) (-1074) - ((q : Int) - 1074)).toNat = (q + mag.log2 - 52) - q := by omega
  rw [a1, a2, a3]

/-- What a rung of the form 'L binades and a significand' stands for. -/
theorem has_rung (neg : Bool) (L c : Nat) (hc : c ≤ 2 ^ 53) (hL : c < 2 ^ 52 → L = 0) (hi : L ≤ 2044) :
    Has (double.word neg (min (L * 2 ^ 52 + c) (2047 * 2 ^ 52))) neg (c * 2 ^ L) := by
  have hlt : L * 2 ^ 52 + c < 2047 * 2 ^ 52 := by omega
  rw [Nat.min_eq_left (Nat.le_of_lt hlt)]
  have hr := read_word neg _ hlt
  by_cases h1 : c < 2 ^ 52
  · have := hL h1; subst this
    refine ⟨c, 0, ?_, rfl, by omega, Or.inr rfl⟩
    rw [hr, if_pos (by omega)]
    simp
  · by_cases h2 : c = 2 ^ 53
    · refine ⟨2 ^ 52, L + 1, ?_, ?_, by omega, Or.inl (Nat.le_refl _)⟩
      · rw [hr, if_neg (by omega)]
        have a : (L * 2 ^ 52 + c) % 2 ^ 52 = 0 := by omega
        have b : (L * 2 ^ 52 + c) / 2 ^ 52 - 1 = L + 1 := by omega
        rw [a, b]
        congr 1
      · rw [h2, Nat.pow_succ 2 L, show (2 : Nat) ^ 53 = 2 ^ 52 * 2 from rfl, Nat.mul_assoc, Nat.mul_comm 2]
    · refine ⟨c, L, ?_, rfl, by omega, Or.inl (by omega)⟩
      rw [hr, if_neg (by omega)]
      have a : 2 ^ 52 + (L * 2 ^ 52 + c) % 2 ^ 52 = c := by omega
      have b : (L * 2 ^ 52 + c) / 2 ^ 52 - 1 = L := by omega
      rw [a, b]
      congr 1

theorem log2_le (n : Nat) (h : n ≠ 0) : 2 ^ n.log2 ≤ n := Nat.log2_self_le h
theorem lt_log2 (n : Nat) : n < 2 ^ (n.log2 + 1) := Nat.lt_log2_self

/-- THE ROUNDING LAW: within one part in 2^53; exact where the significand fits. -/
theorem has_nearest (neg : Bool) (mag q : Nat) (hE : mag * 2 ^ q < K * 2 ^ 240) :
    ∃ v, Has (double.nearest neg mag ((q : Int) - 1074)) neg v ∧
      2 ^ 53 * v ≤ 2 ^ 53 * (mag * 2 ^ q) + mag * 2 ^ q ∧ 2 ^ 53 * (mag * 2 ^ q) ≤ 2 ^ 53 * v + mag * 2 ^ q ∧ (∀ m t, m < 2 ^ 53 → mag = m * 2 ^ t → v = mag * 2 ^ q) := by
  by_cases h0 : mag = 0
  · subst h0
    refine ⟨0, ?_, by simp, by simp, fun _ _ _ _ => by simp⟩
    refine ⟨0, 0, ?_, rfl, by decide, Or.inr rfl⟩
    have : double.nearest neg 0 ((q : Int) - 1074) = double.word neg 0 := by unfold Format.nearest; rw [if_pos rfl]
    rw [this, read_word neg 0 (by omega)]
    simp
  · have hl := log2_le mag h0
    have hu := lt_log2 mag
    have hb : mag.log2 + q < 1314 := by
      have : 2 ^ (mag.log2 + q) < 2 ^ (deep + 240) := by
        rw [Nat.pow_add 2 mag.log2 q, Nat.pow_add 2 deep 240, ← K_def]
        exact Nat.lt_of_le_of_lt (Nat.mul_le_mul_right _ hl) hE
      have := (Nat.pow_lt_pow_iff_right (by decide)).1 this
      rw [deep_eq] at this
      exact this
    rw [nearest_eq neg mag q h0]
    generalize hlg : mag.log2 = l at *
    by_cases hs : l ≤ 52
    · -- nothing is dropped
      have e1 : (q + l - 52) - q = 0 := by omega
      rw [e1, cut_zero, Nat.shiftLeft_eq]
      generalize hL : q + l - 52 = L
      have hlt : mag < 2 ^ 53 := Nat.lt_of_lt_of_le hu (Nat.pow_le_pow_right (by decide) (by omega))
      have hval : mag * 2 ^ (q - L) * 2 ^ L = mag * 2 ^ q := by
        rw [Nat.mul_assoc, ← Nat.pow_add]; congr 2; omega
      have hc : mag * 2 ^ (q - L) < 2 ^ 53 := by
        have : mag * 2 ^ (q - L) < 2 ^ (l + 1) * 2 ^ (q - L) := Nat.mul_lt_mul_of_pos_right hu (Nat.two_pow_pos _)
        rw [← Nat.pow_add] at this
        exact Nat.lt_of_lt_of_le this (Nat.pow_le_pow_right (by decide) (by omega))
      refine ⟨mag * 2 ^ q, ?_, by omega, by omega, fun _ _ _ _ => rfl⟩
      rw [← hval]
      refine has_rung neg L _ (Nat.le_of_lt hc) ?_ (by omega)
      intro hc2
      by_cases hz : L = 0
      · exact hz
      · exfalso
        have : 2 ^ l * 2 ^ (q - L) ≤ mag * 2 ^ (q - L) := Nat.mul_le_mul_right _ hl
        rw [← Nat.pow_add] at this
        have h52 : l + (q - L) = 52 := by omega
        rw [h52] at this
        omega
    · have e1 : q - (q + l - 52) = 0 := by omega
      have e2 : (q + l - 52) - q = l - 52 := by omega
      rw [e1, e2, Nat.shiftLeft_zero]
      generalize hL : q + l - 52 = L
      generalize hd : l - 52 = d
      have hsp := cut_spec neg mag d (by omega)
      generalize hcc : Toward.even.cut neg mag d = c at *
      have hg : 0 < 2 ^ d := Nat.two_pow_pos d
      have hlo : 2 ^ 52 * 2 ^ d ≤ mag := by
        rw [← Nat.pow_add]; have : 52 + d = l := by omega
        rw [this]; exact hl
      have hhi : mag < 2 ^ 53 * 2 ^ d := by
        rw [← Nat.pow_add]; have : 53 + d = l + 1 := by omega
        rw [this]; exact hu
      have c1 : 2 ^ 52 ≤ c := by
        by_cases hh : 2 ^ 52 ≤ c
        · exact hh
        · exfalso
          have : c + 1 ≤ 2 ^ 52 := by omega
          have := Nat.mul_le_mul_right (2 ^ d) this
          rw [Nat.add_mul, Nat.one_mul] at this
          generalize c * 2 ^ d = t at *
          generalize 2 ^ 52 * 2 ^ d = t2 at *
          omega
      have c2 : c ≤ 2 ^ 53 := by
        by_cases hh : c ≤ 2 ^ 53
        · exact hh
        · exfalso
          have : 2 ^ 53 + 1 ≤ c := by omega
          have := Nat.mul_le_mul_right (2 ^ d) this
          rw [Nat.add_mul, Nat.one_mul] at this
          generalize c * 2 ^ d = t at *
          generalize 2 ^ 53 * 2 ^ d = t2 at *
          omega
      have hLq : 2 ^ L = 2 ^ d * 2 ^ q := by rw [← Nat.pow_add]; congr 1; omega
      refine ⟨c * 2 ^ L, has_rung neg L c c2 (fun h => by omega) (by omega), ?_, ?_, ?_⟩
      · have h1 : 2 ^ 53 * (c * 2 ^ d) ≤ 2 ^ 53 * mag + mag := by
          generalize c * 2 ^ d = t at *
          generalize 2 ^ d = g at *
          omega
        have h2 := Nat.mul_le_mul_right (2 ^ q) h1
        rw [hLq]
        simpa only [Nat.add_mul, Nat.mul_assoc] using h2
      · have h1 : 2 ^ 53 * mag ≤ 2 ^ 53 * (c * 2 ^ d) + mag := by
          generalize c * 2 ^ d = t at *
          generalize 2 ^ d = g at *
          omega
        have h2 := Nat.mul_le_mul_right (2 ^ q) h1
        rw [hLq]
        simpa only [Nat.add_mul, Nat.mul_assoc] using h2
      · intro m' t hm' hmt
        have hm0 : m' ≠ 0 := fun h => h0 (by rw [hmt, h, Nat.zero_mul])
        have hdt : d ≤ t := by
          have h1 := log2_le mag h0
          have h2 : mag < 2 ^ (53 + t) := by
            rw [hmt, Nat.pow_add]
            exact Nat.mul_lt_mul_of_pos_right hm' (Nat.two_pow_pos _)
          have h3 := (Nat.pow_lt_pow_iff_right (a := 2) (by decide)).1 (Nat.lt_of_le_of_lt h1 h2)
          omega
        have hdv : mag = (m' * 2 ^ (t - d)) * 2 ^ d := by
          rw [hmt, Nat.mul_assoc, ← Nat.pow_add]
          have : t - d + d = t := by omega
          rw [this]
        have hc := cut_exact neg mag d _ (by omega) hdv
        rw [hcc] at hc; rw [hLq, ← Nat.mul_assoc, hc]

/-! ### The relation 'equal but for k roundings' -/
def al : Nat := 2 ^ 52
def be : Nat := 2 ^ 52 + 1
theorem al_pos : 0 < al := by decide
theorem al_le : al ≤ be := by decide
def R (k a b : Nat) : Prop := a * al ^ k ≤ b * be ^ k ∧ b * al ^ k ≤ a * be ^ k

theorem R_refl (a : Nat) : R 0 a a := by simp [R]
theorem R_symm {k a b : Nat} (h : R k a b) : R k b a := ⟨h.2, h.1⟩
theorem R_half {k l a b c : Nat} (h1 : a * al ^ k ≤ b * be ^ k) (h2 : b * al ^ l ≤ c * be ^ l) : a * al ^ (k + l) ≤ c * be ^ (k + l) := by
  rw [Nat.pow_add, Nat.pow_add]
  calc a * (al ^ k * al ^ l) = (a * al ^ k) * al ^ l := by rw [Nat.mul_assoc]
    _ ≤ (b * be ^ k) * al ^ l := Nat.mul_le_mul_right _ h1
    _ = (b * al ^ l) * be ^ k := by rw [Nat.mul_assoc, Nat.mul_comm (be ^ k), Nat.mul_assoc]
    _ ≤ (c * be ^ l) * be ^ k := Nat.mul_le_mul_right _ h2
    _ = c * (be ^ k * be ^ l) := by rw [Nat.mul_assoc, Nat.mul_comm (be ^ k)]
theorem R_trans {k l a b c : Nat} (h1 : R k a b) (h2 : R l b c) : R (k + l) a c :=
  ⟨R_half h1.1 h2.1, by have := R_half h2.2 h1.2; rwa [Nat.add_comm l k] at this⟩
theorem R_right {k a b : Nat} (c : Nat) (h : R k a b) : R k (a * c) (b * c) := by
  have e : ∀ x y : Nat, x * c * y = x * y * c := fun x y => by rw [Nat.mul_assoc, Nat.mul_comm c, Nat.mul_assoc]
  constructor
  · rw [e, e]; exact Nat.mul_le_mul_right _ h.1
  · rw [e, e]; exact Nat.mul_le_mul_right _ h.2
theorem R_left {k a b : Nat} (c : Nat) (h : R k a b) : R k (c * a) (c * b) := by
  rw [Nat.mul_comm c, Nat.mul_comm c]; exact R_right c h
theorem R_mul {k l a b c d : Nat} (h1 : R k a b) (h2 : R l c d) : R (k + l) (a * c) (b * d) :=
  R_trans (R_right c h1) (R_left b h2)
theorem R_add {k a b c d : Nat} (h1 : R k a b) (h2 : R k c d) : R k (a + c) (b + d) := by
  constructor
  · rw [Nat.add_mul, Nat.add_mul]; exact Nat.add_le_add h1.1 h2.1
  · rw [Nat.add_mul, Nat.add_mul]; exact Nat.add_le_add h1.2 h2.2
theorem R_cancel {k a b c : Nat} (hc : 0 < c) (h : R k (a * c) (b * c)) : R k a b := by
  have e : ∀ x y : Nat, x * c * y = x * y * c := fun x y => by rw [Nat.mul_assoc, Nat.mul_comm c, Nat.mul_assoc]
  obtain ⟨h1, h2⟩ := h
  rw [e, e] at h1 h2
  exact ⟨Nat.le_of_mul_le_mul_right h1 hc, Nat.le_of_mul_le_mul_right h2 hc⟩
theorem R_one {v E : Nat} (h1 : 2 ^ 53 * v ≤ 2 ^ 53 * E + E) (h2 : 2 ^ 53 * E ≤ 2 ^ 53 * v + E) : R 1 v E := by
  unfold R al be
  rw [Nat.pow_one, Nat.pow_one]
  constructor <;> omega
/-- One rounding at most doubles and at most halves. -/
theorem R_two {a b : Nat} (h : R 1 a b) : a ≤ 2 * b ∧ b ≤ 2 * a := by
  unfold R al be at h
  rw [Nat.pow_one, Nat.pow_one] at h
  constructor <;> omega
theorem R_four {a b : Nat} (h : R 2 a b) : a ≤ 2 * b ∧ b ≤ 2 * a := by
  have e1 : al ^ 2 = 2 ^ 104 := by decide
  have e2 : be ^ 2 = 2 ^ 104 + 2 ^ 53 + 1 := by decide
  unfold R at h
  rw [e1, e2] at h
  constructor <;> omega

/-! ### The operations -/
theorem mid {x : Nat} {s : Bool} {v : Nat} (h : Has x s v) (lo : K ≤ v * 2 ^ 160) (hi : v ≤ K * 2 ^ 70) :
    ∃ m q : Nat, double.read x = .number s m ((q : Int) - 1074) ∧ v = m * 2 ^ q ∧ m < 2 ^ 53 ∧ 2 ^ 52 ≤ m ∧ 861 < q ∧ q ≤ 1092 := by
  obtain ⟨m, q, hr, hv, hm, hn⟩ := h
  have h1 : 861 < q := by
    have a : 2 ^ deep < 2 ^ (53 + q + 160) := by
      rw [← K_def, Nat.pow_add 2 (53 + q) 160, Nat.pow_add 2 53 q]
      refine Nat.lt_of_le_of_lt lo ?_
      rw [hv]
      exact Nat.mul_lt_mul_of_pos_right (Nat.mul_lt_mul_of_pos_right hm (Nat.two_pow_pos _)) (Nat.two_pow_pos _)
    have b := (Nat.pow_lt_pow_iff_right (by decide)).1 a
    have := deep_eq
    omega
  have hn' : 2 ^ 52 ≤ m := by omega
  refine ⟨m, q, hr, hv, hm, hn', h1, ?_⟩
  have a : 2 ^ (52 + q) ≤ 2 ^ (deep + 70) := by
    rw [Nat.pow_add 2 52 q, Nat.pow_add 2 deep 70, ← K_def]
    refine Nat.le_trans (Nat.mul_le_mul_right _ hn') ?_
    rw [← hv]; exact hi
  have b := (Nat.pow_le_pow_iff_right (by decide)).1 a
  have := deep_eq
  omega

theorem has_mul {x y : Nat} {s t : Bool} {vx vy : Nat} (hx : Has x s vx) (hy : Has y t vy)
    (lx : K ≤ vx * 2 ^ 160) (ux : vx ≤ K * 2 ^ 70) (ly : K ≤ vy * 2 ^ 160) (uy : vy ≤ K * 2 ^ 70) :
    ∃ z v, double.mul x y = some z ∧ Has z (s ^^ t) v ∧ R 1 (v * K) (vx * vy) := by
  obtain ⟨m, q, hr, hv, hm, hm', hq, hq'⟩ := mid hx lx ux
  obtain ⟨n, r, gr, gv, hn, hn', hr1, hr2⟩ := mid hy ly uy
  have ep : ((q : Int) - 1074 + ((r : Int) - 1074)) = ((q + r - deep : Nat) : Int) - 1074 := by have := deep_eq; omega
  have eE : m * n * 2 ^ (q + r - deep) * K = vx * vy := by
    rw [hv, gv, K_def, Nat.mul_assoc (m * n), ← Nat.pow_add]
    have : q + r - deep + deep = q + r := by have := deep_eq; omega
    rw [this, Nat.pow_add, Nat.mul_assoc m n, Nat.mul_assoc m (2 ^ q), Nat.mul_left_comm n]
  have hE : m * n * 2 ^ (q + r - deep) < K * 2 ^ 240 := by
    refine Nat.lt_of_mul_lt_mul_right (a := K) ?_
    rw [eE]
    refine Nat.lt_of_le_of_lt (Nat.mul_le_mul ux uy) ?_
    have e : K * 2 ^ 70 * (K * 2 ^ 70) = K * 2 ^ 140 * K := by
      have : (2 : Nat) ^ 140 = 2 ^ 70 * 2 ^ 70 := by decide
      rw [this]
      generalize (2 : Nat) ^ 70 = g
      generalize K = k
      ac_rfl
    rw [e]
    refine Nat.mul_lt_mul_of_pos_right (Nat.mul_lt_mul_of_pos_left (by decide) K_pos) K_pos
  obtain ⟨v, hz, h1, h2, _⟩ := has_nearest (s ^^ t) (m * n) (q + r - deep) hE
  refine ⟨_, v, ?_, hz, ?_⟩
  · unfold Format.mul
    rw [hr, gr]
    simp only [Datum.product, Option.map_some, Format.write, ep]
  · rw [← eE]; exact R_right K (R_one h1 h2)

theorem shl (m a : Nat) : m <<< a = m * 2 ^ a := Nat.shiftLeft_eq m a

theorem sum_sign (a b : Nat) : (if (a : Int) + (b : Int) = 0 then (false && false) else decide ((a : Int) + (b : Int) < 0)) = false := by
  split
  · rfl
  · exact decide_eq_false (by omega)
theorem sum_abs (a b : Nat) : ((a : Int) + (b : Int)).natAbs = a + b := by omega

theorem has_add {x y : Nat} {vx vy : Nat} (hx : Has x false vx) (hy : Has y false vy) (ux : vx ≤ K * 2 ^ 70) (uy : vy ≤ K * 2 ^ 70) :
    ∃ z v, double.add x y = some z ∧ Has z false v ∧ R 1 v (vx + vy) := by
  obtain ⟨m, q, hr, hv, hm, hm'⟩ := hx
  obtain ⟨n, r, gr, gv, hn, hn'⟩ := hy
  have em : min ((q : Int) - 1074) ((r : Int) - 1074) = ((min q r : Nat) : Int) - 1074 := by omega
  have e1 : ((q : Int) - 1074 - (((min q r : Nat) : Int) - 1074)).toNat = q - min q r := by omega
  have e2 : ((r : Int) - 1074 - (((min q r : Nat) : Int) - 1074)).toNat = r - min q r := by omega
  have eE : (m * 2 ^ (q - min q r) + n * 2 ^ (r - min q r)) * 2 ^ (min q r) = vx + vy := by
    rw [Nat.add_mul, Nat.mul_assoc, Nat.mul_assoc, ← Nat.pow_add, ← Nat.pow_add, hv, gv]
    congr 3 <;> omega
  have hE : (m * 2 ^ (q - min q r) + n * 2 ^ (r - min q r)) * 2 ^ (min q r) < K * 2 ^ 240 := by
    rw [eE]
    have := K_pos
    omega
  obtain ⟨v, hz, h1, h2, _⟩ := has_nearest false _ _ hE
  refine ⟨_, v, ?_, hz, ?_⟩
  · unfold Format.add
    rw [hr, gr]
    simp only [Datum.sum, Option.map_some, Format.write, em, e1, e2, signed, shl, Bool.false_eq_true, if_false]
    rw [sum_sign, sum_abs]
  · rw [← eE]; exact R_one h1 h2

/-- The sign and the size of a difference. -/
theorem diff_sign (a b : Nat) : (if (a : Int) + -(b : Int) = 0 then (false && !false) else decide ((a : Int) + -(b : Int) < 0)) = decide (a < b) := by
  split
  · rw [decide_eq_false (by omega)]; rfl
  · exact decide_eq_decide.2 (by omega)
theorem diff_abs (a b : Nat) : ((a : Int) + -(b : Int)).natAbs = (a - b) + (b - a) := by omega

theorem has_sub {x y : Nat} {vx vy : Nat} (hx : Has x false vx) (hy : Has y false vy) (ux : vx ≤ K * 2 ^ 70) (uy : vy ≤ K * 2 ^ 70) :
    ∃ z v, double.sub x y = some z ∧ Has z (decide (vx < vy)) v ∧ R 1 v ((vx - vy) + (vy - vx)) := by
  obtain ⟨m, q, hr, hv, hm, hm'⟩ := hx
  obtain ⟨n, r, gr, gv, hn, hn'⟩ := hy
  have em : min ((q : Int) - 1074) ((r : Int) - 1074) = ((min q r : Nat) : Int) - 1074 := by omega
  have e1 : ((q : Int) - 1074 - (((min q r : Nat) : Int) - 1074)).toNat = q - min q r := by omega
  have e2 : ((r : Int) - 1074 - (((min q r : Nat) : Int) - 1074)).toNat = r - min q r := by omega
  have fx : m * 2 ^ (q - min q r) * 2 ^ (min q r) = vx := by
    rw [Nat.mul_assoc, ← Nat.pow_add, hv]; congr 2; omega
  have fy : n * 2 ^ (r - min q r) * 2 ^ (min q r) = vy := by
    rw [Nat.mul_assoc, ← Nat.pow_add, gv]; congr 2; omega
  have hg : 0 < 2 ^ (min q r) := Nat.two_pow_pos _
  generalize ha : m * 2 ^ (q - min q r) = a at *
  generalize hb : n * 2 ^ (r - min q r) = b at *
  generalize hgg : 2 ^ (min q r) = g at *
  have eE : ((a - b) + (b - a)) * g = (vx - vy) + (vy - vx) := by
    rw [Nat.add_mul, Nat.sub_mul, Nat.sub_mul, fx, fy]
  have hE : ((a - b) + (b - a)) * 2 ^ (min q r) < K * 2 ^ 240 := by
    rw [hgg, eE]
    have := K_pos
    omega
  have hlt : decide (a < b) = decide (vx < vy) := by
    refine decide_eq_decide.2 ?_
    rw [← fx, ← fy]
    exact (Nat.mul_lt_mul_right hg).symm
  obtain ⟨v, hz, h1, h2, _⟩ := has_nearest (decide (vx < vy)) _ _ hE
  refine ⟨_, v, ?_, hz, ?_⟩
  · unfold Format.sub
    rw [hr, gr]
    simp only [Datum.opposite, Datum.sum, Option.map_some, Format.write, em, e1, e2, signed, shl, Bool.false_eq_true, if_false, Bool.not_false, if_true]
    rw [ha, hb]
    have := diff_sign a b
    simp only [Bool.not_false] at this
    rw [this, diff_abs, hlt]
  · rw [← eE, ← hgg]; exact R_one h1 h2

/-! ### Comparison -/
def sg (s : Bool) (v : Nat) : Int := if s then -(v : Int) else (v : Int)
theorem signed_eq (s : Bool) (m k : Nat) : signed s m k = sg s (m * 2 ^ k) := by
  unfold signed sg; rw [shl]
theorem sg_mul (s : Bool) (m g : Nat) : sg s (m * g) = sg s m * (g : Int) := by
  unfold sg; cases s <;> simp [Int.neg_mul]
theorem cmp_mul (a b : Int) (g : Nat) (hg : 0 < g) : compare (a * (g : Int)) (b * (g : Int)) = compare a b := by
  have hg' : (0 : Int) < (g : Int) := by omega
  rcases Int.lt_trichotomy a b with h | h | h
  · rw [Int.compare_eq_lt.2 h, Int.compare_eq_lt.2 (Int.mul_lt_mul_of_pos_right h hg')]
  · subst h; simp
  · rw [Int.compare_eq_gt.2 h, Int.compare_eq_gt.2 (Int.mul_lt_mul_of_pos_right h hg')]
theorem order_eq {x y : Nat} {s t : Bool} {vx vy : Nat} (hx : Has x s vx) (hy : Has y t vy) :
    double.order x y = some (compare (sg s vx) (sg t vy)) := by
  obtain ⟨m, q, hr, hv, hm, hm'⟩ := hx
  obtain ⟨n, r, gr, gv, hn, hn'⟩ := hy
  have em : min ((q : Int) - 1074) ((r : Int) - 1074) = ((min q r : Nat) : Int) - 1074 := by omega
  have e1 : ((q : Int) - 1074 - (((min q r : Nat) : Int) - 1074)).toNat = q - min q r := by omega
  have e2 : ((r : Int) - 1074 - (((min q r : Nat) : Int) - 1074)).toNat = r - min q r := by omega
  have fx : m * 2 ^ (q - min q r) * 2 ^ (min q r) = vx := by
    rw [Nat.mul_assoc, ← Nat.pow_add, hv]; congr 2; omega
  have fy : n * 2 ^ (r - min q r) * 2 ^ (min q r) = vy := by
    rw [Nat.mul_assoc, ← Nat.pow_add, gv]; congr 2; omega
  unfold Format.order
  rw [hr, gr]
  simp only [Datum.order, em, e1, e2, signed_eq]
  rw [← fx, ← fy, sg_mul s _ (2 ^ (min q r)), sg_mul t _ (2 ^ (min q r)), cmp_mul _ _ _ (Nat.two_pow_pos _)]

/-! ### Division -/
theorem log2_52 (m : Nat) (h1 : 2 ^ 52 ≤ m) (h2 : m < 2 ^ 53) : m.log2 = 52 :=
  (Nat.log2_eq_iff (by omega)).2 ⟨h1, h2⟩

theorem div_hE (mag q r : Nat) (h : mag < 2 ^ 56) (hr : 861 < r) (hq : q ≤ 1092) : mag * 2 ^ (q + 1019 - r) < K * 2 ^ 240 := by
  have a : mag * 2 ^ (q + 1019 - r) < 2 ^ 56 * 2 ^ (q + 1019 - r) := Nat.mul_lt_mul_of_pos_right h (Nat.two_pow_pos _)
  refine Nat.lt_of_lt_of_le a ?_
  have e : 56 + (q + 1019 - r) ≤ deep + 240 := by have := deep_eq; omega
  have b := Nat.pow_le_pow_right (n := 2) (by decide) e
  rw [Nat.pow_add 2 56, Nat.pow_add 2 deep, ← K_def] at b
  exact b
theorem div_ey (mag n a r c : Nat) (h : a + r = c) : mag * 2 ^ a * (n * 2 ^ r) = (mag * n) * 2 ^ c := by
  rw [← h, Nat.pow_add]
  generalize 2 ^ a = x
  generalize 2 ^ r = y
  ac_rfl
theorem div_ex (m q : Nat) : m * 2 ^ q * K = (2 * (m * 2 ^ 54)) * 2 ^ (q + 1019) := by
  have h : 2 * (m * 2 ^ 54) = m * 2 ^ 55 := by omega
  have e5 : q + deep = 55 + (q + 1019) := by have := deep_eq; omega
  have b : 2 ^ q * 2 ^ deep = 2 ^ 55 * 2 ^ (q + 1019) := by rw [← Nat.pow_add, ← Nat.pow_add, e5]
  rw [h, K_def, Nat.mul_assoc, b, Nat.mul_assoc]
theorem div_near (m n Q S mag : Nat) (hdm : n * Q + S = m * 2 ^ 54) (hml : S < n) (hdq : 2 ^ 53 ≤ Q) (hmag : 2 * Q + (S != 0).toNat = mag) : R 1 (mag * n) (2 * (m * 2 ^ 54)) := by
  have hcm : n * Q = Q * n := Nat.mul_comm _ _
  have hQn : 2 ^ 53 * n ≤ Q * n := Nat.mul_le_mul_right n hdq
  have hmn : mag * n = 2 * (Q * n) + (S != 0).toNat * n := by
    rw [← hmag, Nat.add_mul, Nat.mul_assoc]
  unfold R al be
  rw [Nat.pow_one, Nat.pow_one]
  generalize hU : Q * n = U at *
  rw [hmn]
  cases hb : (S != 0)
  · have hS0 : S = 0 := by simpa using hb
    simp only [Bool.toNat_false, Nat.zero_mul, Nat.add_zero]
    constructor <;> omega
  · simp only [Bool.toNat_true, Nat.one_mul]
    constructor <;> omega

theorem log2_54 (n m : Nat) (hm : m < 2 ^ 53) (hm' : 2 ^ 52 ≤ m) (hn : n < 2 ^ 53) (hn' : 2 ^ 52 ≤ n) : double.fractionBits + 2 + n.log2 - m.log2 = 54 := by
  rw [log2_52 m hm' hm, log2_52 n hn' hn]; rfl
theorem div_lo (n m : Nat) (hn0 : 0 < n) (hm' : 2 ^ 52 ≤ m) (hn : n < 2 ^ 53) : 2 ^ 53 ≤ m * 2 ^ 54 / n := by
  rw [Nat.le_div_iff_mul_le hn0]; omega
theorem div_hi (n m : Nat) (hn0 : 0 < n) (hm : m < 2 ^ 53) (hn' : 2 ^ 52 ≤ n) : m * 2 ^ 54 / n < 2 ^ 55 := by
  rw [Nat.div_lt_iff_lt_mul hn0]; omega
theorem div_place (q r : Nat) (h1 : 861 < q) (h2 : r ≤ 1092) : ((q : Int) - 1074 - ((r : Int) - 1074) - ((54 : Nat) : Int) - 1) = ((q + 1019 - r : Nat) : Int) - 1074 := by omega
theorem div_mag (Q S mag : Nat) (hdq2 : Q < 2 ^ 55) (hmag : 2 * Q + (S != 0).toNat = mag) : mag < 2 ^ 56 := by
  cases hb : (S != 0) <;> rw [hb] at hmag <;> simp at hmag <;> omega

theorem has_div {x y : Nat} {vx vy : Nat} (hx : Has x false vx) (hy : Has y false vy)
    (lx : K ≤ vx * 2 ^ 160) (ux : vx ≤ K * 2 ^ 70) (ly : K ≤ vy * 2 ^ 160) (uy : vy ≤ K * 2 ^ 70) :
    ∃ z v, double.div x y = some z ∧ Has z false v ∧ R 2 (v * vy) (vx * K) := by
  obtain ⟨m, q, hr, hv, hm, hm', hq, hq'⟩ := mid hx lx ux
  obtain ⟨n, r, gr, gv, hn, hn', hr1, hr2⟩ := mid hy ly uy
  have hn0 : 0 < n := Nat.lt_of_lt_of_le (by decide) hn'
  have em := log2_54 n m hm hm' hn hn'
  have hdm := Nat.div_add_mod (m * 2 ^ 54) n
  have hml := Nat.mod_lt (m * 2 ^ 54) hn0
  have hdq := div_lo n m hn0 hm' hn
  have hdq2 := div_hi n m hn0 hm hn'
  have ep := div_place q r hq hr2
  obtain ⟨mag, hmag⟩ : ∃ mag, 2 * (m * 2 ^ 54 / n) + (m * 2 ^ 54 % n != 0).toNat = mag := ⟨_, rfl⟩
  have hE := div_hE mag q r (div_mag _ _ _ hdq2 hmag) hr1 hq'
  have ear : (q + 1019 - r) + r = q + 1019 := by omega
  obtain ⟨v, hz, h1, h2, _⟩ := has_nearest false mag (q + 1019 - r) hE
  refine ⟨_, v, ?_, hz, ?_⟩
  · unfold Format.div
    rw [hr, gr]
    simp only [Datum.quotient, Option.map_some, if_neg (Nat.ne_of_gt hn0), em, shl, hmag, ep, Format.write, Bool.xor_false]
  · refine R_trans (k := 1) (l := 1) (R_right vy (R_one h1 h2)) ?_
    rw [hv, gv, div_ey _ _ _ _ _ ear, div_ex]
    exact R_right _ (div_near m n _ _ mag hdm hml hdq hmag)

theorem div_self {x : Nat} {vx : Nat} (hx : Has x false vx) (h0 : 0 < vx) : double.div x x = some 4607182418800017408 := by
  obtain ⟨m, q, hr, hv, hm, hm'⟩ := hx
  have hm0 : 0 < m := by
    rcases Nat.eq_zero_or_pos m with h | h
    · rw [h] at hv; omega
    · exact h
  have em : double.fractionBits + 2 + m.log2 - m.log2 = 54 := by
    rw [Nat.add_sub_cancel]; rfl
  unfold Format.div
  rw [hr]
  have e1 : m * 2 ^ 54 / m = 2 ^ 54 := Nat.mul_div_cancel_left _ hm0
  have e2 : m * 2 ^ 54 % m = 0 := Nat.mul_mod_right _ _
  simp only [Datum.quotient, Option.map_some, if_neg (Nat.ne_of_gt hm0), em, shl, e1, e2, Format.write, Bool.xor_false, Int.sub_self]
  decide

theorem zero_div {y : Nat} {vy : Nat} (hy : Has y false vy) (h0 : 0 < vy) : double.div 0 y = some 0 := by
  obtain ⟨n, r, gr, gv, hn, hn'⟩ := hy
  have hn0 : 0 < n := by
    rcases Nat.eq_zero_or_pos n with h | h
    · rw [h] at gv; omega
    · exact h
  have e0 : double.read 0 = .number false 0 (-1074) := by decide
  unfold Format.div
  rw [e0, gr]
  simp only [Datum.quotient, Option.map_some, if_neg (Nat.ne_of_gt hn0), shl, Nat.zero_mul, Nat.zero_div, Nat.zero_mod, Format.write]
  unfold Format.nearest
  simp [Format.word]

end Go.Proofs.Qxb6605261a.Fl
