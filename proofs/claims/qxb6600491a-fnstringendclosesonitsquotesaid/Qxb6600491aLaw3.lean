import Derived.Test.Qxb6600491aEnd
namespace Go.Proofs.Qxb6600491a.Sc
open Go.RowKit Go.Proofs.Qxb6600491a.Fd

theorem bytes10 (w : World) (s : ByteArray) (a : Int) (hs : s.size ≤ maxLen) : Calls Try.prog 10 #[.string s, .int .i64 a] w fun e w' => SomeBool w e w' := by
  unfold maxLen at hs
  go_enter Try.func10, Try.ntmps10
  go_wp2
  all_goals (go_ret; exact ⟨_, rfl, rfl⟩)

theorem bytes13 (w : World) (s : ByteArray) (a : Int) (hs : s.size ≤ maxLen) : Calls Try.prog 13 #[.string s, .int .i64 a] w fun e w' => SomeBool w e w' := by
  unfold maxLen at hs
  go_enter Try.func13, Try.ntmps13
  go_wp2
  all_goals (go_ret; exact ⟨_, rfl, rfl⟩)

theorem zz_walk (s : ByteArray) (st q : Nat) (hs : s.size ≤ 1048576) (hst : st < s.size) (hq : s[st].toNat = q) (hq2 : q = 34 ∨ q = 39) (multi : Bool) (hm : three (byt s) s.size q st = multi) (p0 : Nat) (hp0 : p0 = if multi then st + 3 else st + 1) (w : World) :
    Calls Try.prog 11 #[.string s, .int .i64 st] w fun e w' => e = .returned (.int .i64 (out (se (byt s) s.size q multi p0))) ∧ Below w.heap.size w w' := by
  have h := end_walk s st q hs hst hq hq2 multi hm p0 hp0 w
  clear hm hp0 hq2 hq
  go_enter Try.func11, Try.ntmps11
  go_wp2_with fail
  refine h.mono ?_
  rintro e w' ⟨rfl, hb⟩
  go_wp2
  go_ret
  exact ⟨rfl, hb⟩

set_option maxRecDepth 10000 in
set_option maxHeartbeats 1000000 in
theorem law3 (w : World) (s : ByteArray) (a : Int) (hs : s.size ≤ maxLen) (ha : (Lit.int .i64 a).wf = true) :
    Calls Try.prog 3 #[.string s, .int .i64 a] w fun e w' => e = .returned (.bool true) ∧ Below w.heap.size w w' := by
  have hbytes := bytes10 w s a hs
  unfold maxLen at hs
  go_enter Try.func3, Try.ntmps3
  go_wp2_with fail
  refine hbytes.mono ?_
  rintro e w' ⟨b, rfl, rfl⟩
  clear hbytes
  cases b
  · go_wp2
    go_ret
    exact ⟨rfl, Below.refl _ _⟩
  by_cases g0 : s.size ≤ 1048576
  case neg =>
    go_wp2
    go_ret
    exact ⟨rfl, Below.refl _ _⟩
  by_cases hneg : a < 0
  · go_wp2
    go_ret
    exact ⟨rfl, Below.refl _ _⟩
  obtain ⟨st, rfl⟩ : ∃ st : Nat, a = st := ⟨a.toNat, by omega⟩
  by_cases hst : st < s.size
  case neg =>
    have z : (s.size : Int) ≤ st := by omega
    go_wp2
    go_ret
    exact ⟨rfl, Below.refl _ _⟩
  have z : (st : Int) < s.size := by omega
  obtain ⟨q, hq⟩ : ∃ q, s[st].toNat = q := ⟨_, rfl⟩
  by_cases hq2 : q = 34 ∨ q = 39
  case neg =>
    have g34 : ((q : Int) != 34) = true := by simp; omega
    have g39 : ((q : Int) != 39) = true := by simp; omega
    have i34 : ¬ (q : Int) = 34 := by omega
    have i39 : ¬ (q : Int) = 39 := by omega
    go_wp2
    go_ret
    exact ⟨rfl, Below.refl _ _⟩
  obtain ⟨multi, hm⟩ : ∃ m, three (byt s) s.size q st = m := ⟨_, rfl⟩
  obtain ⟨p0, hp0⟩ : ∃ p0, p0 = if multi then st + 3 else st + 1 := ⟨_, rfl⟩
  have hpn : p0 ≤ s.size := by
    cases multi
    · simp at hp0; omega
    · simp at hp0; have := (three_iff.1 hm).1; omega
  have hE := zz_walk s st q g0 hst hq hq2 multi hm p0 hp0
  have hM := model_walk s st q g0 hst hq (by omega) multi hm p0 hp0
  have same : me (byt s) s.size q multi false 0 p0 = se (byt s) s.size q multi p0 := by
    have := (me_se (B := byt s) (n := s.size) (multi := multi) hq2 (s.size - p0) p0 (Nat.le_refl _) hpn).1 0 (by omega) (by omega) (fun h => absurd h (Nat.lt_irrefl _)) (fun j hj => absurd hj (Nat.not_lt_zero _))
    simpa using this
  rw [same] at hM
  generalize out (se (byt s) s.size q multi p0) = v at hE hM
  clear hm hp0 hpn same
  have HQ : Hid (s[st].toNat = q) := hq
  rcases hq2 with rfl | rfl
  all_goals (
    go_wp2_with fail
    refine (hE _).mono ?_
    rintro e w1 ⟨rfl, hb⟩
    go_wp2_with fail
    refine (hM _).mono ?_
    rintro e w2 ⟨rfl, rfl⟩
    go_wp2
    go_ret
    exact ⟨by simp, hb⟩)
end Go.Proofs.Qxb6600491a.Sc
