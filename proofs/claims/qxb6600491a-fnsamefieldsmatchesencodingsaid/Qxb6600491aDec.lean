import GoSem.Claim
namespace Go.Proofs.Qxb6600491a.Enc

/-- The decimal digits of n, the lowest first (none for 0). -/
def revDigs : Nat → Nat → List UInt8
  | 0, _ => []
  | f + 1, n => if n = 0 then [] else UInt8.ofNat (48 + n % 10) :: revDigs f (n / 10)
def dec (n : Nat) : List UInt8 := if n = 0 then [48] else (revDigs 20 n).reverse
/-- One field a piece: ';', its length, ':', its bytes. -/
def items : List (List UInt8) → List UInt8
  | [] => []
  | s :: r => 59 :: (dec s.length ++ 58 :: (s ++ items r))
def enc (l : List (List UInt8)) : List UInt8 := dec l.length ++ items l

def isDig (b : UInt8) : Prop := 48 ≤ b.toNat ∧ b.toNat ≤ 57

theorem dig_of (x : Nat) : isDig (UInt8.ofNat (48 + x % 10)) ∧ (UInt8.ofNat (48 + x % 10)).toNat = 48 + x % 10 := by
  have e : (UInt8.ofNat (48 + x % 10)).toNat = 48 + x % 10 := by
    rw [UInt8.toNat_ofNat']
    omega
  unfold isDig
  rw [e]
  omega

theorem revDigs_dig (f n : Nat) : ∀ b ∈ revDigs f n, isDig b := by
  induction f generalizing n with
  | zero => intro b hb; simp [revDigs] at hb
  | succ f ih =>
    intro b hb
    unfold revDigs at hb
    split at hb
    · simp at hb
    · rcases List.mem_cons.1 hb with h | h
      · rw [h]; exact (dig_of n).1
      · exact ih _ b h
theorem revDigs_len (f n : Nat) : (revDigs f n).length ≤ f := by
  induction f generalizing n with
  | zero => simp [revDigs]
  | succ f ih =>
    unfold revDigs
    split
    · simp
    · simp only [List.length_cons]; have := ih (n / 10); omega
def valR : List UInt8 → Nat
  | [] => 0
  | b :: r => (b.toNat - 48) + 10 * valR r
theorem valR_revDigs (f n : Nat) (h : n < 10 ^ f) : valR (revDigs f n) = n := by
  induction f generalizing n with
  | zero => simp at h; subst h; rfl
  | succ f ih =>
    unfold revDigs
    split
    · rename_i h0; rw [h0]; rfl
    · simp only [valR, (dig_of n).2]
      rw [ih (n / 10) (by rw [Nat.pow_succ] at h; omega)]
      omega
theorem dec_dig (n : Nat) : ∀ b ∈ dec n, isDig b := by
  intro b hb
  unfold dec at hb
  split at hb
  · simp at hb; rw [hb]; exact ⟨by decide, by decide⟩
  · exact revDigs_dig 20 n b (List.mem_reverse.1 hb)
theorem dec_len (n : Nat) : (dec n).length ≤ 20 := by
  unfold dec
  split
  · decide
  · rw [List.length_reverse]; exact revDigs_len 20 n
theorem dec_inj {m n : Nat} (hm : m < 10 ^ 20) (hn : n < 10 ^ 20) (h : dec m = dec n) : m = n := by
  have v : ∀ k, k < 10 ^ 20 → valR (dec k).reverse = k := by
    intro k hk
    unfold dec
    split
    · rename_i h0; rw [h0]; rfl
    · rw [List.reverse_reverse]; exact valR_revDigs 20 k hk
  rw [← v m hm, ← v n hn, h]

/-- A row of digits followed by something that does not begin with one is read in one way. -/
theorem split_digs {p q x y : List UInt8} (hp : ∀ b ∈ p, isDig b) (hq : ∀ b ∈ q, isDig b) (hx : ∀ b r, x = b :: r → ¬ isDig b) (hy : ∀ b r, y = b :: r → ¬ isDig b) (h : p ++ x = q ++ y) : p = q ∧ x = y := by
  induction p generalizing q with
  | nil =>
    cases q with
    | nil => exact ⟨rfl, h⟩
    | cons b r => exact absurd (hq b (by simp)) (hx b (r ++ y) h)
  | cons a p ih =>
    cases q with
    | nil => exact absurd (hp a (by simp)) (hy a (p ++ x) h.symm)
    | cons b r =>
      simp only [List.cons_append, List.cons.injEq] at h
      obtain ⟨rfl, h⟩ := h
      obtain ⟨rfl, e⟩ := ih (q := r) (fun c hc => hp c (by simp [hc])) (fun c hc => hq c (by simp [hc])) h
      exact ⟨rfl, e⟩

theorem not_dig_59 : ¬ isDig 59 := by unfold isDig; decide
theorem not_dig_58 : ¬ isDig 58 := by unfold isDig; decide
theorem items_head (l : List (List UInt8)) : ∀ b r, items l = b :: r → ¬ isDig b := by
  intro b r h
  cases l with
  | nil => simp [items] at h
  | cons s t =>
    simp only [items, List.cons.injEq] at h
    rw [← h.1]; exact not_dig_59

theorem items_inj : ∀ (l l' : List (List UInt8)), l.length = l'.length → (∀ s ∈ l, s.length < 10 ^ 20) → (∀ s ∈ l', s.length < 10 ^ 20) → items l = items l' → l = l'
  | [], [], _, _, _, _ => rfl
  | [], _ :: _, h, _, _, _ => by simp at h
  | _ :: _, [], h, _, _, _ => by simp at h
  | s :: r, s' :: r', h, hs, hs', e => by
    simp only [items, List.cons.injEq, true_and] at e
    obtain ⟨e1, e2⟩ := split_digs (dec_dig _) (dec_dig _) (fun b t hb => by rw [List.cons.injEq] at hb; rw [← hb.1]; exact not_dig_58) (fun b t hb => by rw [List.cons.injEq] at hb; rw [← hb.1]; exact not_dig_58) e
    have hl := dec_inj (hs s (by simp)) (hs' s' (by simp)) e1
    simp only [List.cons.injEq, true_and] at e2
    obtain ⟨e3, e4⟩ := List.append_inj e2 hl
    rw [e3, items_inj r r' (by simpa using h) (fun t ht => hs t (by simp [ht])) (fun t ht => hs' t (by simp [ht])) e4]

theorem enc_inj {l l' : List (List UInt8)} (h1 : l.length < 10 ^ 20) (h2 : l'.length < 10 ^ 20) (hs : ∀ s ∈ l, s.length < 10 ^ 20) (hs' : ∀ s ∈ l', s.length < 10 ^ 20) (e : enc l = enc l') : l = l' := by
  unfold enc at e
  obtain ⟨e1, e2⟩ := split_digs (dec_dig _) (dec_dig _) (items_head l) (items_head l') e
  exact items_inj l l' (dec_inj h1 h2 e1) hs hs' e2

theorem items_snoc (l : List (List UInt8)) (s : List UInt8) : items (l ++ [s]) = items l ++ [59] ++ dec s.length ++ [58] ++ s := by
  induction l with
  | nil => simp [items]
  | cons a r ih => simp [items, ih]

/-- What has been written when k of the fields are in. -/
def encTo (T : Nat → ByteArray) (len k : Nat) : List UInt8 := dec len ++ items ((List.range k).map fun i => (T i).data.toList)
theorem encTo_zero (T : Nat → ByteArray) (len : Nat) : encTo T len 0 = dec len := by simp [encTo, items]
theorem encTo_succ (T : Nat → ByteArray) (len k : Nat) : encTo T len (k + 1) = encTo T len k ++ [59] ++ dec (T k).size ++ [58] ++ (T k).data.toList := by
  unfold encTo
  have e : (T k).data.toList.length = (T k).size := Array.length_toList
  rw [List.range_succ, List.map_append, List.map_singleton, items_snoc, e]
  simp only [List.append_assoc]
theorem encTo_enc (T : Nat → ByteArray) (len : Nat) : encTo T len len = enc ((List.range len).map fun i => (T i).data.toList) := by
  simp [encTo, enc]

theorem encTo_inj {T0 T1 : Nat → ByteArray} {len0 len1 : Nat} (h0 : len0 ≤ 65536) (h1 : len1 ≤ 65536) (s0 : ∀ i, i < len0 → (T0 i).size ≤ 9223372036854775807) (s1 : ∀ i, i < len1 → (T1 i).size ≤ 9223372036854775807)
    (e : encTo T0 len0 len0 = encTo T1 len1 len1) : len0 = len1 ∧ ∀ i, i < len0 → T0 i = T1 i := by
  rw [encTo_enc, encTo_enc] at e
  have big : ∀ x, x ≤ 9223372036854775807 → x < 10 ^ 20 := fun x hx => Nat.lt_of_le_of_lt hx (by decide)
  have e' := enc_inj (by simp; exact big _ (by omega)) (by simp; exact big _ (by omega))
    (fun s hs => by
      obtain ⟨i, hi, rfl⟩ := List.mem_map.1 hs
      exact big _ (s0 i (List.mem_range.1 hi)))
    (fun s hs => by
      obtain ⟨i, hi, rfl⟩ := List.mem_map.1 hs
      exact big _ (s1 i (List.mem_range.1 hi))) e
  have hl : len0 = len1 := by simpa using congrArg List.length e'
  subst hl
  refine ⟨rfl, fun i hi => ?_⟩
  have := List.map_inj_left.1 e' i (List.mem_range.2 hi)
  exact ByteArray.ext (Array.toList_inj.1 this)

theorem encTo_len (T : Nat → ByteArray) (len k : Nat) : (encTo T len (k + 1)).length ≤ (encTo T len k).length + 22 + (T k).size := by
  rw [encTo_succ]
  have := dec_len (T k).size
  simp only [List.length_append, List.length_singleton, Array.length_toList]
  have e : (T k).data.size = (T k).size := rfl
  omega
end Go.Proofs.Qxb6600491a.Enc
