import Derived.Test.Qxb6605261aCounts
namespace Go.Proofs.Qxb6605261a.Pc
open Go.Maps Go.RowKit

theorem str_eq {a b : ByteArray} (h : a = b) : (a.toList == b.toList) = true := by rw [h]; simp
theorem str_ne {a b : ByteArray} (h : a ≠ b) : (a.toList == b.toList) = false := by
  rw [beq_eq_false_iff_ne]
  intro e
  rw [Go.ByteArray.toList_eq, Go.ByteArray.toList_eq] at e
  exact h (ByteArray.ext (Array.toList_inj.1 e))
theorem int_up {a i : Nat} {q : Nat → Bool} (h : q i = true) : Value.int .i64 ((a : Int) + (cnt q i : Int) + 1) = .int .i64 ((a + cnt q (i + 1) : Nat) : Int) := by
  simp only [cnt, h, Bool.toNat_true]; congr 1
theorem int_same {a i : Nat} {q : Nat → Bool} (h : q i = false) : Value.int .i64 ((a : Int) + (cnt q i : Int)) = .int .i64 ((a + cnt q (i + 1) : Nat) : Int) := by
  simp only [cnt, h, Bool.toNat_false]; congr 1
theorem bool_up {a i : Nat} {q : Nat → Bool} (h : q i = true) : Value.bool true = .bool (decide (0 < a + cnt q (i + 1))) := by
  simp only [cnt, h, Bool.toNat_true]; rw [decide_eq_true (by omega)]
theorem bool_same {a i : Nat} {q : Nat → Bool} (h : q i = false) : Value.bool (decide (0 < a + cnt q i)) = .bool (decide (0 < a + cnt q (i + 1))) := by
  simp only [cnt, h, Bool.toNat_false, Nat.add_zero]

set_option maxHeartbeats 1000000 in
theorem brute_walk (w : World) (n b0 o0 len0 cap0 b1 o1 len1 cap1 : Nat) (E : Nat → Int) (T : Nat → ByteArray) (R : Rows2 w n b0 o0 len0 b1 o1 len1 E T) :
    Calls Try.prog 10 #[.slice (some ⟨b0, o0, none⟩) len0 cap0, .slice (some ⟨b1, o1, none⟩) len1 cap1, .int .i64 n] w fun ex w' =>
      ex = .returned (.tuple #[.int .i64 (tot (qT T) n), .int .i64 (tot (qE E) n), .int .i64 (tot (qB E T) n), .bool (decide (0 < tot (qM E T) n)), .bool (decide (0 < tot (qS E T) n))]) ∧ ∃ m, w' = w.drewN m := by
  have hn : n ≤ 4096 := Nat.le_trans R.n0 R.l0
  have n0 := R.n0
  have n1 := R.n1
  have l0 := R.l0
  have l1 := R.l1
  go_enter Try.func10, Try.ntmps10
  go_wp2
  go_loopg [6, 7, 8, 9, 10, 11] n (fun g s6 s7 s8 s9 s10 s11 wr => ∃ j m : Nat, 1 ≤ j ∧ (j ≤ n ∨ j = 1) ∧ n - j ≤ g ∧ s11 = .int .i64 j ∧ s6 = .int .i64 (tot (qT T) j) ∧ s7 = .int .i64 (tot (qE E) j) ∧ s8 = .int .i64 (tot (qB E T) j) ∧ s9 = .bool (decide (0 < tot (qM E T) j)) ∧ s10 = .bool (decide (0 < tot (qS E T) j)) ∧ wr = w.drewN m)
  case atStart => exact ⟨1, 0, Nat.le_refl _, Or.inr rfl, by omega, rfl, rfl, rfl, rfl, rfl, rfl, rfl⟩
  case round =>
    obtain ⟨j, m, hj1, hj2, hg, rfl, rfl, rfl, rfl, rfl, rfl, rfl⟩ := hrel
    by_cases hlt : j < n
    · have cEj := R.cE j hlt
      have cTj := R.cT j hlt
      go_wp2
      go_loopg [6, 7, 8, 9, 10, 12] j (fun g s6 s7 s8 s9 s10 s12 wr => ∃ i m : Nat, i + g = j ∧ s12 = .int .i64 i ∧ s6 = .int .i64 ((tot (qT T) j + cnt (fun x => qT T x j) i : Nat) : Int) ∧ s7 = .int .i64 ((tot (qE E) j + cnt (fun x => qE E x j) i : Nat) : Int) ∧ s8 = .int .i64 ((tot (qB E T) j + cnt (fun x => qB E T x j) i : Nat) : Int) ∧ s9 = .bool (decide (0 < tot (qM E T) j + cnt (fun x => qM E T x j) i)) ∧ s10 = .bool (decide (0 < tot (qS E T) j + cnt (fun x => qS E T x j) i)) ∧ wr = w.drewN m)
      case atStart => exact ⟨0, m, Nat.zero_add _, rfl, rfl, rfl, rfl, rfl, rfl, rfl⟩
      case round =>
        obtain ⟨i, m2, hi, rfl, rfl, rfl, rfl, rfl, rfl, rfl⟩ := hrel
        by_cases hij : i < j
        · have cEi := R.cE i (by omega)
          have cTi := R.cT i (by omega)
          have z0 : (i : Int) < (len0 : Int) := by omega
          have z1 : (i : Int) < (len1 : Int) := by omega
          have z2 : (j : Int) < (len0 : Int) := by omega
          have z3 : (j : Int) < (len1 : Int) := by omega
          have t1 := tot_small (qT T) j (by omega)
          have t2 := tot_small (qE E) j (by omega)
          have t3 := tot_small (qB E T) j (by omega)
          have k1 := cnt_le (fun x => qT T x j) i
          have k2 := cnt_le (fun x => qE E x j) i
          have k3 := cnt_le (fun x => qB E T x j) i
          have HI : Hid (i + gk = j) := hi
          have HJ : Hid ((1 ≤ j ∧ (j ≤ n ∨ j = 1)) ∧ R = R) := ⟨⟨hj1, hj2⟩, rfl⟩
          clear hi hj2
          by_cases ht : T i = T j
          · have ht' := str_eq ht
            by_cases he : E i = E j
            · have he' : (E i == E j) = true := by simpa using he
              have x1 : Hid (qT T i j = true ∧ qE E i j = true ∧ qB E T i j = true ∧ qM E T i j = false ∧ qS E T i j = false) := by
                simp [Hid, qT, qE, qB, qM, qS, ht, he]
              clear ht he
              go_wp2
              go_quiet (fail)
              go_wp2
              go_quiet (fail)
              go_wp2
              go_roundg (j - (i + 1))
              case measure => have := HI.out; omega
              case rel => exact ⟨i + 1, _, by omega, by go_num, int_up x1.out.1, int_up x1.out.2.1, int_up x1.out.2.2.1, bool_same x1.out.2.2.2.1, bool_same x1.out.2.2.2.2, rfl⟩
            · have he' : (E i == E j) = false := by simpa using he
              have x1 : Hid (qT T i j = true ∧ qE E i j = false ∧ qB E T i j = false ∧ qM E T i j = false ∧ qS E T i j = true) := by
                simp [Hid, qT, qE, qB, qM, qS, ht, he]
              clear ht he
              go_wp2
              go_quiet (fail)
              go_wp2
              go_quiet (fail)
              go_wp2
              go_roundg (j - (i + 1))
              case measure => have := HI.out; omega
              case rel => exact ⟨i + 1, _, by omega, by go_num, int_up x1.out.1, int_same x1.out.2.1, int_same x1.out.2.2.1, bool_same x1.out.2.2.2.1, bool_up x1.out.2.2.2.2, rfl⟩
          · have ht' := str_ne ht
            by_cases he : E i = E j
            · have he' : (E i == E j) = true := by simpa using he
              have x1 : Hid (qT T i j = false ∧ qE E i j = true ∧ qB E T i j = false ∧ qM E T i j = true ∧ qS E T i j = false) := by
                simp [Hid, qT, qE, qB, qM, qS, ht, he]
              clear ht he
              go_wp2
              go_quiet (fail)
              go_wp2
              go_quiet (fail)
              go_wp2
              go_roundg (j - (i + 1))
              case measure => have := HI.out; omega
              case rel => exact ⟨i + 1, _, by omega, by go_num, int_same x1.out.1, int_up x1.out.2.1, int_same x1.out.2.2.1, bool_up x1.out.2.2.2.1, bool_same x1.out.2.2.2.2, rfl⟩
            · have he' : (E i == E j) = false := by simpa using he
              have x1 : Hid (qT T i j = false ∧ qE E i j = false ∧ qB E T i j = false ∧ qM E T i j = false ∧ qS E T i j = false) := by
                simp [Hid, qT, qE, qB, qM, qS, ht, he]
              clear ht he
              go_wp2
              go_quiet (fail)
              go_wp2
              go_quiet (fail)
              go_wp2
              go_roundg (j - (i + 1))
              case measure => have := HI.out; omega
              case rel => exact ⟨i + 1, _, by omega, by go_num, int_same x1.out.1, int_same x1.out.2.1, int_same x1.out.2.2.1, bool_same x1.out.2.2.2.1, bool_same x1.out.2.2.2.2, rfl⟩
        · have e : i = j := by omega
          subst e
          clear hi
          go_wp2
          go_roundg (n - (i + 1))
          case measure => omega
          case rel => exact ⟨i + 1, m2, by omega, Or.inl (by omega), Nat.le_refl _, by go_num, rfl, rfl, rfl, rfl, rfl, rfl⟩
    · have HN : Hid (j = n ∨ (n = 0 ∧ j = 1)) := by unfold Hid; omega
      clear hj2
      go_wp2
      rcases HN.out with e | ⟨e, e'⟩
      · subst e
        exact bodyPost_ret (v := .tuple #[.int .i64 (tot (qT T) j), .int .i64 (tot (qE E) j), .int .i64 (tot (qB E T) j), .bool (decide (0 < tot (qM E T) j)), .bool (decide (0 < tot (qS E T) j))]) (by simp [results, Try.results10]) rfl ⟨rfl, m, rfl⟩
      · subst e
        subst e'
        exact bodyPost_ret (v := .tuple #[.int .i64 (tot (qT T) 1), .int .i64 (tot (qE E) 1), .int .i64 (tot (qB E T) 1), .bool (decide (0 < tot (qM E T) 1)), .bool (decide (0 < tot (qS E T) 1))]) (by simp [results, Try.results10]) rfl ⟨rfl, m, rfl⟩

/-- No record at all. -/
theorem brute_none (w : World) (a0 a1 : Option Addr) (len0 cap0 len1 cap1 : Nat) :
    Calls Try.prog 10 #[.slice a0 len0 cap0, .slice a1 len1 cap1, .int .i64 0] w fun ex w' =>
      ex = .returned (.tuple #[.int .i64 0, .int .i64 0, .int .i64 0, .bool false, .bool false]) ∧ w' = w := by
  go_enter Try.func10, Try.ntmps10
  go_wp2
  go_loopg [6, 7, 8, 9, 10, 11] 1 (fun _ s6 s7 s8 s9 s10 s11 wr => s11 = .int .i64 1 ∧ s6 = .int .i64 0 ∧ s7 = .int .i64 0 ∧ s8 = .int .i64 0 ∧ s9 = .bool false ∧ s10 = .bool false ∧ wr = w)
  case atStart => exact ⟨rfl, rfl, rfl, rfl, rfl, rfl, rfl⟩
  case round =>
    obtain ⟨rfl, rfl, rfl, rfl, rfl, rfl, rfl⟩ := hrel
    go_wp2
    exact bodyPost_ret (v := .tuple #[.int .i64 0, .int .i64 0, .int .i64 0, .bool false, .bool false]) (by simp [results, Try.results10]) rfl ⟨rfl, rfl⟩

theorem pairs_none (w : World) (a0 a1 : Option Addr) (len0 cap0 len1 cap1 : Nat) :
    Calls Try.prog 9 #[.slice a0 len0 cap0, .slice a1 len1 cap1, .int .i64 0] w fun ex w' =>
      ex = .returned (.tuple #[.int .i64 0, .int .i64 0, .int .i64 0, .int .i64 0]) ∧ Below w.heap.size w w' := by
  go_enter Try.func9, Try.ntmps9
  go_wp2_with fail
  refine (new_walk w).mono ?_
  rintro e w1 ⟨rfl, hc1, hb1⟩
  go_wp2
  go_loopg [11] 1 (fun _ i wr => i = .int .i64 0 ∧ wr = w1)
  case atStart => exact ⟨rfl, rfl⟩
  case round =>
    obtain ⟨rfl, rfl⟩ := hrel
    go_wp2_with fail
    refine (counts_walk _ _ _ _ _ _ _ _ _ _ _ _ hc1).mono ?_
    rintro e w' ⟨rfl, m, rfl⟩
    go_wp2
    exact bodyPost_ret (v := .tuple #[.int .i64 0, .int .i64 0, .int .i64 0, .int .i64 0]) (by simp [results, Try.results9]) rfl ⟨rfl, below_drewN hb1 m⟩
end Go.Proofs.Qxb6605261a.Pc
