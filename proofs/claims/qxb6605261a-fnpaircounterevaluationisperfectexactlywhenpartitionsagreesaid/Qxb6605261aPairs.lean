import GoSem.Claim
namespace Go.Proofs.Qxb6605261a.Pc

/-- How many i below n have p. -/
def cnt (p : Nat → Bool) : Nat → Nat
  | 0 => 0
  | n + 1 => cnt p n + (p n).toNat
/-- How many pairs i < j below n have q. -/
def tot (q : Nat → Nat → Bool) : Nat → Nat
  | 0 => 0
  | j + 1 => tot q j + cnt (fun i => q i j) j

theorem cnt_le (p : Nat → Bool) (n : Nat) : cnt p n ≤ n := by
  induction n with
  | zero => exact Nat.le_refl _
  | succ n ih => simp only [cnt]; have : (p n).toNat ≤ 1 := by cases p n <;> decide
                 omega
theorem tot_le (q : Nat → Nat → Bool) (n : Nat) : tot q n ≤ n * n := by
  induction n with
  | zero => exact Nat.le_refl _
  | succ n ih => simp only [tot]; have := cnt_le (fun i => q i n) n; rw [Nat.add_mul, Nat.mul_add]; omega
theorem tot_small (q : Nat → Nat → Bool) (n : Nat) (h : n ≤ 4096) : tot q n ≤ 16777216 := by
  have h1 := tot_le q n
  have h2 : n * n ≤ 4096 * 4096 := Nat.mul_le_mul h h
  omega
theorem cnt_congr {p q : Nat → Bool} {n : Nat} (h : ∀ i, i < n → p i = q i) : cnt p n = cnt q n := by
  induction n with
  | zero => rfl
  | succ n ih => simp only [cnt]; rw [ih (fun i hi => h i (by omega)), h n (by omega)]

def qT (T : Nat → ByteArray) (i j : Nat) : Bool := decide (T i = T j)
def qE (E : Nat → Int) (i j : Nat) : Bool := decide (E i = E j)
def qB (E : Nat → Int) (T : Nat → ByteArray) (i j : Nat) : Bool := decide (E i = E j) && decide (T i = T j)
def qM (E : Nat → Int) (T : Nat → ByteArray) (i j : Nat) : Bool := decide (E i = E j) && !decide (T i = T j)
def qS (E : Nat → Int) (T : Nat → ByteArray) (i j : Nat) : Bool := decide (T i = T j) && !decide (E i = E j)

/-- What the three maps hold behind n records. -/
def fT (T : Nat → ByteArray) (n : Nat) : Value → Int
  | .string s => cnt (fun i => decide (T i = s)) n
  | _ => 0
def fE (E : Nat → Int) (n : Nat) : Value → Int
  | .int .i64 e => cnt (fun i => decide (E i = e)) n
  | _ => 0
def fB (E : Nat → Int) (T : Nat → ByteArray) (n : Nat) : Value → Int
  | .agg a => match a.toList with
    | [.int .i64 e, .string s] => cnt (fun i => decide (E i = e) && decide (T i = s)) n
    | _ => 0
  | _ => 0

theorem fT_zero (T : Nat → ByteArray) : fT T 0 = fun _ => 0 := by
  funext v; unfold fT; split <;> rfl
theorem fE_zero (E : Nat → Int) : fE E 0 = fun _ => 0 := by
  funext v; unfold fE; split <;> rfl
theorem fB_zero (E : Nat → Int) (T : Nat → ByteArray) : fB E T 0 = fun _ => 0 := by
  funext v; unfold fB
  split
  · split <;> rfl
  · rfl

theorem fT_at (T : Nat → ByteArray) (n : Nat) : fT T n (.string (T n)) = cnt (fun i => qT T i n) n := rfl
theorem fE_at (E : Nat → Int) (n : Nat) : fE E n (.int .i64 (E n)) = cnt (fun i => qE E i n) n := rfl
theorem fB_at (E : Nat → Int) (T : Nat → ByteArray) (n : Nat) : fB E T n (.agg #[.int .i64 (E n), .string (T n)]) = cnt (fun i => qB E T i n) n := rfl
theorem fT_next (T : Nat → ByteArray) (n : Nat) : fT T (n + 1) (.string (T n)) = cnt (fun i => qT T i n) n + 1 := by
  simp [fT, cnt, qT]
theorem fE_next (E : Nat → Int) (n : Nat) : fE E (n + 1) (.int .i64 (E n)) = cnt (fun i => qE E i n) n + 1 := by
  simp [fE, cnt, qE]
theorem fB_next (E : Nat → Int) (T : Nat → ByteArray) (n : Nat) : fB E T (n + 1) (.agg #[.int .i64 (E n), .string (T n)]) = cnt (fun i => qB E T i n) n + 1 := by
  simp [fB, cnt, qB]
theorem fT_other (T : Nat → ByteArray) (n : Nat) (v : Value) (h : v ≠ .string (T n)) : fT T (n + 1) v = fT T n v := by
  unfold fT
  split
  · rename_i s
    have : decide (T n = s) = false := decide_eq_false (fun e => h (by rw [e]))
    simp [cnt, this]
  · rfl
theorem fE_other (E : Nat → Int) (n : Nat) (v : Value) (h : v ≠ .int .i64 (E n)) : fE E (n + 1) v = fE E n v := by
  unfold fE
  split
  · rename_i e
    have : decide (E n = e) = false := decide_eq_false (fun e' => h (by rw [e']))
    simp [cnt, this]
  · rfl
theorem fB_other (E : Nat → Int) (T : Nat → ByteArray) (n : Nat) (v : Value) (h : v ≠ .agg #[.int .i64 (E n), .string (T n)]) : fB E T (n + 1) v = fB E T n v := by
  unfold fB
  split
  · rename_i a
    split
    · rename_i e s ha
      have : (decide (E n = e) && decide (T n = s)) = false := by
        rw [Bool.eq_false_iff]
        intro hh
        simp only [Bool.and_eq_true, decide_eq_true_eq] at hh
        obtain ⟨rfl, rfl⟩ := hh
        refine h ?_
        congr 1
        exact Array.toList_inj.1 ha
      simp [cnt, this]
    · rfl
  · rfl

/-- Pairs that share an entity: those that share both, and the mixed ones. -/
theorem cnt_split {p a b : Nat → Bool} (h : ∀ i, (p i).toNat = (a i).toNat + (b i).toNat) (n : Nat) : cnt p n = cnt a n + cnt b n := by
  induction n with
  | zero => rfl
  | succ n ih => simp only [cnt]; rw [ih, h]; omega
theorem tot_split {p a b : Nat → Nat → Bool} (h : ∀ i j, (p i j).toNat = (a i j).toNat + (b i j).toNat) (n : Nat) : tot p n = tot a n + tot b n := by
  induction n with
  | zero => rfl
  | succ n ih => simp only [tot]; rw [ih, cnt_split (fun i => h i n)]; omega
theorem tot_E (E : Nat → Int) (T : Nat → ByteArray) (n : Nat) : tot (qE E) n = tot (qB E T) n + tot (qM E T) n :=
  tot_split (fun i j => by simp only [qE, qB, qM]; cases decide (E i = E j) <;> cases decide (T i = T j) <;> rfl) n
theorem tot_T (E : Nat → Int) (T : Nat → ByteArray) (n : Nat) : tot (qT T) n = tot (qB E T) n + tot (qS E T) n :=
  tot_split (fun i j => by simp only [qT, qB, qS]; cases decide (E i = E j) <;> cases decide (T i = T j) <;> rfl) n
end Go.Proofs.Qxb6605261a.Pc
