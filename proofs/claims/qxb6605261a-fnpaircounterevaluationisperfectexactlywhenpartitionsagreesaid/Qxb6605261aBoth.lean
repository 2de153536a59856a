import Derived.Test.Qxb6605261aGuards
namespace Go.Proofs.Qxb6605261a.Pc
open Go.Maps Go.RowKit

/-- The two slices as far as n elements are read. -/
def Read2 (w : World) (n : Nat) (a0 : Option Addr) (len0 : Nat) (a1 : Option Addr) (len1 : Nat) (E : Nat → Int) (T : Nat → ByteArray) : Prop :=
  n = 0 ∨ ∃ b0 o0 b1 o1, a0 = some ⟨b0, o0, none⟩ ∧ a1 = some ⟨b1, o1, none⟩ ∧ Rows2 w n b0 o0 len0 b1 o1 len1 E T

theorem Rows2.below {w w' : World} {n b0 o0 len0 b1 o1 len1 : Nat} {E : Nat → Int} {T : Nat → ByteArray} (R : Rows2 w n b0 o0 len0 b1 o1 len1 E T) (h : Below w.heap.size w w') : Rows2 w' n b0 o0 len0 b1 o1 len1 E T :=
  ⟨R.n0, R.n1, R.l0, R.l1, Nat.lt_of_lt_of_le R.h0 h.size, Nat.lt_of_lt_of_le R.h1 h.size, fun i hi => (h.cell (p := ⟨b0, o0 + i, none⟩) R.h0).trans (R.cE i hi), fun i hi => (h.cell (p := ⟨b1, o1 + i, none⟩) R.h1).trans (R.cT i hi), R.wE, R.sT⟩

theorem Read2.below {w w' : World} {n : Nat} {a0 a1 : Option Addr} {len0 len1 : Nat} {E : Nat → Int} {T : Nat → ByteArray} (R : Read2 w n a0 len0 a1 len1 E T) (h : Below w.heap.size w w') : Read2 w' n a0 len0 a1 len1 E T := by
  rcases R with h0 | ⟨b0, o0, b1, o1, e0, e1, R⟩
  · exact Or.inl h0
  · exact Or.inr ⟨b0, o0, b1, o1, e0, e1, R.below h⟩

theorem pairs_any (w : World) (n : Nat) (a0 a1 : Option Addr) (len0 cap0 len1 cap1 : Nat) (E : Nat → Int) (T : Nat → ByteArray) (R : Read2 w n a0 len0 a1 len1 E T) :
    Calls Try.prog 9 #[.slice a0 len0 cap0, .slice a1 len1 cap1, .int .i64 n] w fun ex w' =>
      ex = .returned (.tuple #[.int .i64 n, .int .i64 (tot (qT T) n), .int .i64 (tot (qE E) n), .int .i64 (tot (qB E T) n)]) ∧ Below w.heap.size w w' := by
  rcases R with rfl | ⟨b0, o0, b1, o1, rfl, rfl, R⟩
  · exact pairs_none w a0 a1 len0 cap0 len1 cap1
  · exact pairs_walk w n b0 o0 len0 cap0 b1 o1 len1 cap1 E T R

theorem brute_any (w : World) (n : Nat) (a0 a1 : Option Addr) (len0 cap0 len1 cap1 : Nat) (E : Nat → Int) (T : Nat → ByteArray) (R : Read2 w n a0 len0 a1 len1 E T) :
    Calls Try.prog 10 #[.slice a0 len0 cap0, .slice a1 len1 cap1, .int .i64 n] w fun ex w' =>
      ex = .returned (.tuple #[.int .i64 (tot (qT T) n), .int .i64 (tot (qE E) n), .int .i64 (tot (qB E T) n), .bool (decide (0 < tot (qM E T) n)), .bool (decide (0 < tot (qS E T) n))]) ∧ ∃ m, w' = w.drewN m := by
  rcases R with rfl | ⟨b0, o0, b1, o1, rfl, rfl, R⟩
  · refine (brute_none w a0 a1 len0 cap0 len1 cap1).mono ?_
    rintro e w' ⟨rfl, rfl⟩
    exact ⟨rfl, 0, rfl⟩
  · exact brute_walk w n b0 o0 len0 cap0 b1 o1 len1 cap1 E T R

/-- What the walk is told of a slice of integers. -/
def IntRow (w : World) (a : Option Addr) (len : Nat) (E : Nat → Int) : Prop :=
  len = 0 ∨ ∃ b o, a = some ⟨b, o, none⟩ ∧ b < w.heap.size ∧ (∀ i, i < len → w.cell? ⟨b, o + i, none⟩ = some (.int .i64 (E i))) ∧ ∀ i, i < len → (Lit.int .i64 (E i)).wf = true

theorem read2 {w : World} {a0 a1 : Option Addr} {len0 len1 n : Nat} {E : Nat → Int} {T : Nat → ByteArray} (h0 : IntRow w a0 len0 E) (h1 : StrRow w a1 len1 T) (l0 : len0 ≤ 4096) (l1 : len1 ≤ 4096) (n0 : n ≤ len0) (n1 : n ≤ len1) :
    Read2 w n a0 len0 a1 len1 E T := by
  by_cases hn : n = 0
  · exact Or.inl hn
  · rcases h0 with h | ⟨b0, o0, e0, hb0, c0, w0⟩
    · omega
    · rcases h1 with h | ⟨b1, o1, e1, hb1, c1, s1⟩
      · omega
      · exact Or.inr ⟨b0, o0, b1, o1, e0, e1, n0, n1, l0, l1, hb0, hb1, fun i hi => c0 i (by omega), fun i hi => c1 i (by omega), fun i hi => w0 i (by omega), fun i hi => s1 i (by omega)⟩

theorem cell_lt {w : World} {a : Addr} {v : Value} (h : w.cell? a = some v) : a.block < w.heap.size := by
  unfold World.cell? at h
  by_cases hb : a.block < w.heap.size
  · exact hb
  · have : w.heap[a.block]? = none := by simp; omega
    simp [this] at h

set_option maxHeartbeats 1000000 in
theorem law3 (w : World) (a0 a1 : Option Addr) (len0 cap0 len1 cap1 : Nat) (E : Nat → Int) (T : Nat → ByteArray) (hl0 : len0 ≤ maxLen) (hl1 : len1 ≤ maxLen) (h0 : IntRow w a0 len0 E) (h1 : StrRow w a1 len1 T) :
    Calls Try.prog 3 #[.slice a0 len0 cap0, .slice a1 len1 cap1] w fun ex w' => ex = .returned (.bool true) ∧ Below w.heap.size w w' := by
  go_enter Try.func3, Try.ntmps3
  go_wp2_with fail
  refine (bytes3 w a0 a1 len0 cap0 len1 cap1 T hl0 hl1 h1).mono ?_
  rintro e w' ⟨b, rfl, rfl⟩
  cases b
  · go_wp2
    go_ret
    exact ⟨rfl, Below.refl _ _⟩
  · go_wp2_with fail
    refine (fits w' a0 a1 len0 cap0 len1 cap1 T hl0 hl1 h1).mono ?_
    rintro e w1 ⟨b, rfl, rfl, hle⟩
    cases b
    · go_wp2
      go_ret
      exact ⟨rfl, Below.refl _ _⟩
    · obtain ⟨l0, l1⟩ := hle rfl
      clear hle hl0 hl1
      by_cases hlt : len1 < len0
      · have R := read2 (n := len1) h0 h1 l0 l1 (by omega) (Nat.le_refl _)
        go_wp2_with fail
        refine (pairs_any _ _ _ _ _ _ _ _ _ _ R).mono ?_
        rintro e w2 ⟨rfl, hb⟩
        go_wp2_with fail
        refine (brute_any _ _ _ _ _ _ _ _ _ _ (R.below hb)).mono ?_
        rintro e w3 ⟨rfl, m, rfl⟩
        go_wp2
        go_ret
        exact ⟨rfl, below_drewN hb m⟩
      · have R := read2 (n := len0) h0 h1 l0 l1 (Nat.le_refl _) (by omega)
        go_wp2_with fail
        refine (pairs_any _ _ _ _ _ _ _ _ _ _ R).mono ?_
        rintro e w2 ⟨rfl, hb⟩
        go_wp2_with fail
        refine (brute_any _ _ _ _ _ _ _ _ _ _ (R.below hb)).mono ?_
        rintro e w3 ⟨rfl, m, rfl⟩
        go_wp2
        go_ret
        exact ⟨rfl, below_drewN hb m⟩
end Go.Proofs.Qxb6605261a.Pc
