import Derived.Test.Qxb6605261aAddWalk
import Derived.Test.Qxb6605261aPairs
import Derived.Deep.RegionWith
import Derived.LoopTactic
import Derived.Carry
import Derived.WalkSmall
import Derived.Deep.LoopGhost
namespace Go.Proofs.Qxb6605261a.Pc
open Go.Maps Go.RowKit

/-- A fresh counter. -/
theorem new_walk (w : World) : Calls Try.prog 15 #[] w fun ex w' => ex = .returned (.pointer (some ⟨w.heap.size + 3, 0, none⟩)) ∧ Cnt w' w.heap.size 0 0 0 0 0 0 0 (fun _ => 0) (fun _ => 0) (fun _ => 0) ∧ Below w.heap.size w w' := by
  have hmm := @run_makeMap Try.prog
  go_enter Try.func15, Try.ntmps15
  go_wp2
  go_ret
  refine ⟨rfl, ?_, ?_⟩
  · have m1 := MapIs.made w 9
    have m2 := MapIs.made (w.alloc (.map #[] 0)) 2
    have m3 := MapIs.made ((w.alloc (.map #[] 0)).alloc (.map #[] 0)) 49
    have s1 : (w.alloc (.map #[] 0)).heap.size = w.heap.size + 1 := by simp
    have s2 : ((w.alloc (.map #[] 0)).alloc (.map #[] 0)).heap.size = w.heap.size + 2 := by simp
    rw [s1] at m2
    rw [s2] at m3
    refine ⟨?_, ?_, ?_, ?_, ?_, ?_, ?_, ?_, ?_, ?_, ?_, ?_, ((m1.alloc _).alloc _).alloc _, (m2.alloc _).alloc _, m3.alloc _⟩ <;> simp [go_sem]
  · exact (((((Below.refl _ _).alloc (Nat.le_refl _) _).alloc (by simp) _).alloc (by simp; omega) _).alloc (by simp; omega) _)

theorem zzadd_walk (w : World) (B n : Nat) (E : Nat → Int) (T : Nat → ByteArray) (h : Cnt w B n n n n (tot (qT T) n) (tot (qE E) n) (tot (qB E T) n) (fT T n) (fE E n) (fB E T n))
    (hn : n < 4096) (he : (Lit.int .i64 (E n)).wf = true) (hs : (T n).size ≤ maxLen) :
    Calls Try.prog 16 #[.pointer (some ⟨B + 3, 0, none⟩), .int .i64 (E n), .string (T n)] w fun ex w' => ex = .returned (.tuple #[]) ∧
      Cnt w' B (n + 1) (n + 1) (n + 1) ((n + 1 : Nat) : Int) (tot (qT T) (n + 1)) (tot (qE E) (n + 1)) (tot (qB E T) (n + 1)) (fT T (n + 1)) (fE E (n + 1)) (fB E T (n + 1)) ∧ Below B w w' := by
  have t1 := tot_small (qT T) n (by omega)
  have t2 := tot_small (qE E) n (by omega)
  have t3 := tot_small (qB E T) n (by omega)
  have k1 := cnt_le (fun i => qT T i n) n
  have k2 := cnt_le (fun i => qE E i n) n
  have k3 := cnt_le (fun i => qB E T i n) n
  have hadd := add_walk w B n n (tot (qT T) n) (tot (qE E) n) (tot (qB E T) n) (fT T n) (fE E n) (fB E T n) (fT T (n + 1)) (fE E (n + 1)) (fB E T (n + 1)) (E n) (T n) _ _ _ (fT_at T n) (fE_at E n) (fB_at E T n)
    (fT_next T n) (fT_other T n) (fE_next E n) (fE_other E n) (fB_next E T n) (fB_other E T n) h (by omega) (by omega) (by omega) (by omega) (by omega) (by omega) (by omega) he hs (by unfold maxLen; omega)
  go_enter Try.func16, Try.ntmps16
  go_wp2_with fail
  refine hadd.mono ?_
  rintro e w' ⟨rfl, hc, hb⟩
  go_wp2
  go_end0
  refine ⟨rfl, ?_, hb⟩
  have e1 : ((n + 1 : Nat) : Int) = (n : Int) + 1 := by omega
  simp only [tot, e1, Int.natCast_add]
  exact hc

theorem counts_walk (w : World) (B a b c : Nat) (r pt pf tp : Int) (gT gE gB : Value → Int) (h : Cnt w B a b c r pt pf tp gT gE gB) :
    Calls Try.prog 17 #[.pointer (some ⟨B + 3, 0, none⟩)] w fun ex w' => ex = .returned (.tuple #[.int .i64 r, .int .i64 pt, .int .i64 pf, .int .i64 tp]) ∧ ∃ m, w' = w.drewN m := by
  have c0 := h.c0
  have c1 := h.c1
  have c2 := h.c2
  have c3 := h.c3
  clear h
  go_enter Try.func17, Try.ntmps17
  go_wp2
  go_quiet (fail)
  go_wp2
  exact bodyPost_ret (v := .tuple #[.int .i64 r, .int .i64 pt, .int .i64 pf, .int .i64 tp]) (by simp [results, Try.results17]) rfl ⟨rfl, nq, rfl⟩

/-- What is known of the two slices: the first n elements. -/
structure Rows2 (w : World) (n b0 o0 len0 b1 o1 len1 : Nat) (E : Nat → Int) (T : Nat → ByteArray) : Prop where
  n0 : n ≤ len0
  n1 : n ≤ len1
  l0 : len0 ≤ 4096
  l1 : len1 ≤ 4096
  h0 : b0 < w.heap.size
  h1 : b1 < w.heap.size
  cE : ∀ i, i < n → w.cell? ⟨b0, o0 + i, none⟩ = some (.int .i64 (E i))
  cT : ∀ i, i < n → w.cell? ⟨b1, o1 + i, none⟩ = some (.string (T i))
  wE : ∀ i, i < n → (Lit.int .i64 (E i)).wf = true
  sT : ∀ i, i < n → (T i).size ≤ maxLen

set_option maxHeartbeats 1000000 in
theorem pairs_walk (w : World) (n b0 o0 len0 cap0 b1 o1 len1 cap1 : Nat) (E : Nat → Int) (T : Nat → ByteArray) (R : Rows2 w n b0 o0 len0 b1 o1 len1 E T) :
    Calls Try.prog 9 #[.slice (some ⟨b0, o0, none⟩) len0 cap0, .slice (some ⟨b1, o1, none⟩) len1 cap1, .int .i64 n] w fun ex w' =>
      ex = .returned (.tuple #[.int .i64 n, .int .i64 (tot (qT T) n), .int .i64 (tot (qE E) n), .int .i64 (tot (qB E T) n)]) ∧ Below w.heap.size w w' := by
  have hn : n ≤ 4096 := Nat.le_trans R.n0 R.l0
  have n0 := R.n0
  have n1 := R.n1
  have l0 := R.l0
  have l1 := R.l1
  obtain ⟨B, hB⟩ : ∃ B, w.heap.size = B := ⟨_, rfl⟩
  have hnew := new_walk w
  rw [hB] at hnew ⊢
  go_enter Try.func9, Try.ntmps9
  go_wp2_with fail
  refine hnew.mono ?_
  rintro e w1 ⟨rfl, hc1, hb1⟩
  go_wp2
  go_loopg [11] n (fun g i wr => ∃ k : Nat, k + g = n ∧ i = .int .i64 k ∧ Cnt wr B k k k k (tot (qT T) k) (tot (qE E) k) (tot (qB E T) k) (fT T k) (fE E k) (fB E T k) ∧ Below B w wr)
  case atStart => exact ⟨0, Nat.zero_add _, rfl, by rw [fT_zero, fE_zero, fB_zero]; exact hc1, hb1⟩
  case round =>
    obtain ⟨k, hk, rfl, hc, hb⟩ := hrel
    by_cases hlt : k < n
    · have hadd := zzadd_walk wr.drew B k E T hc.drew (by omega) (R.wE k hlt) (R.sT k hlt)
      have e1 : wr.cell? ⟨b0, o0 + k, none⟩ = some (.int .i64 (E k)) := (hb.cell (p := ⟨b0, o0 + k, none⟩) (by show b0 < B; have := R.h0; omega)).trans (R.cE k hlt)
      have e2 : wr.cell? ⟨b1, o1 + k, none⟩ = some (.string (T k)) := (hb.cell (p := ⟨b1, o1 + k, none⟩) (by show b1 < B; have := R.h1; omega)).trans (R.cT k hlt)
      have i0 : (k : Int) < (len0 : Int) := by omega
      have i1 : (k : Int) < (len1 : Int) := by omega
      have HK : Hid (k + gk = n) := hk
      clear hc hc1 hb1 hk
      go_wp2
      go_region_with (go_at_call 16; refine hadd.mono ?_; rintro e w' ⟨rfl, hc', hb'⟩)
      all_goals
        go_wp2
        go_roundg (n - (k + 1))
        case measure => have := HK.out; omega
        case rel => exact ⟨k + 1, by omega, by go_num, hc', hb.drew.trans hb'⟩
    · have e : k = n := by omega
      subst e
      go_wp2_with fail
      refine (counts_walk _ _ _ _ _ _ _ _ _ _ _ _ hc).mono ?_
      rintro e w' ⟨rfl, m, rfl⟩
      go_wp2
      exact bodyPost_ret (v := .tuple #[.int .i64 k, .int .i64 (tot (qT T) k), .int .i64 (tot (qE E) k), .int .i64 (tot (qB E T) k)]) (by simp [results, Try.results9]) rfl ⟨rfl, below_drewN hb m⟩
end Go.Proofs.Qxb6605261a.Pc
