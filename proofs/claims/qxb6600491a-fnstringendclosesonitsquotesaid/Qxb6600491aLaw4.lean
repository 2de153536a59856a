import Derived.Test.Qxb6600491aLaw3
set_option linter.unusedVariables false
namespace Go.Proofs.Qxb6600491a.Sc
open Go.RowKit Go.Proofs.Qxb6600491a.Fd

section
variable {B : Nat → Nat} {n q : Nat} {multi : Bool}
/-- Where the end lies, and what stands ahead of it. -/
def Good (B : Nat → Nat) (n q : Nat) (multi : Bool) (i r : Nat) : Prop :=
  i < r ∧ r ≤ n ∧ B (r - 1) = q ∧ (multi = true → i + 3 ≤ r) ∧ (multi = false → ∀ j, i ≤ j → j + 1 < r → B j ≠ 10 ∧ (q = 39 → B j ≠ 39))

theorem more_good {f : Nat} (hf : f ≤ n) (hq : B (f - 1) = q) (h1 : 1 ≤ f) : f + more B n q f ≤ n ∧ B (f + more B n q f - 1) = q := by
  unfold more
  by_cases h : f < n ∧ B f = q
  · rw [if_pos h]
    by_cases h2 : f + 1 < n ∧ B (f + 1) = q
    · rw [if_pos h2]; exact ⟨by omega, h2.2⟩
    · rw [if_neg h2]; exact ⟨by omega, h.2⟩
  · rw [if_neg h]; exact ⟨hf, hq⟩

theorem se_good (hq : q = 34 ∨ q = 39) {r : Nat} : ∀ (f i : Nat), n - i ≤ f → se B n q multi i = some r → Good B n q multi i r := by
  intro f
  induction f with
  | zero =>
    intro i hf h
    rw [se_end _ (by omega)] at h
    cases h
  | succ f ih =>
    intro i hf h
    by_cases hlt : i < n
    case neg =>
      rw [se_end _ hlt] at h
      cases h
    by_cases he : esc B n q i = true
    · have e := esc_iff.1 he
      rw [se_esc hlt he] at h
      obtain ⟨g1, g2, g3, g4, g5⟩ := ih (i + 2) (by omega) h
      refine ⟨by omega, g2, g3, fun hm => by have := g4 hm; omega, fun hm j hj hjr => ?_⟩
      have c : j = i ∨ j = i + 1 ∨ i + 2 ≤ j := by omega
      rcases c with rfl | rfl | c
      · exact ⟨by omega, fun h => by omega⟩
      · exact ⟨e.2.2.2, fun h => by omega⟩
      · exact g5 hm j c hjr
    have hef : esc B n q i = false := by simpa using he
    by_cases hl : B i = 10 ∧ multi = false
    · rw [se_line hlt hef hl.1 hl.2] at h
      cases h
    by_cases hqq : B i = q ∧ multi = false
    · rw [se_quote hlt hef (by omega) hqq.1 hqq.2] at h
      obtain rfl : i + 1 = r := by simpa using h
      exact ⟨by omega, by omega, by simpa using hqq.1, fun hm => (by rw [hqq.2] at hm; cases hm), fun _ j hj hjr => by omega⟩
    have hl' : B i = 10 → multi = true := fun e => by
      cases hm : multi
      · exact absurd ⟨e, hm⟩ hl
      · rfl
    have hq' : B i = q → multi = true := fun e => by
      cases hm : multi
      · exact absurd ⟨e, hm⟩ hqq
      · rfl
    by_cases h3 : three B n q i = true
    · have t := three_iff.1 h3
      have hm := hq' t.2.1
      rw [se_three hlt hef hm h3] at h
      obtain rfl : i + 3 + more B n q (i + 3) = r := by simpa using h
      have g := more_good (B := B) (n := n) (q := q) (f := i + 3) (by omega) t.2.2.2 (by omega)
      exact ⟨by omega, g.1, g.2, fun _ => by omega, fun h0 => by rw [hm] at h0; cases h0⟩
    · have h3' : three B n q i = false := by simpa using h3
      rw [se_next hlt hef hl' hq' h3'] at h
      obtain ⟨g1, g2, g3, g4, g5⟩ := ih (i + 1) (by omega) h
      refine ⟨by omega, g2, g3, fun hm => by have := g4 hm; omega, fun hm j hj hjr => ?_⟩
      by_cases c : j = i
      · subst c
        refine ⟨fun e => ?_, fun e9 e => ?_⟩
        · have := hl' e; rw [hm] at this; cases this
        · have := hq' (e.trans e9.symm); rw [hm] at this; cases this
      · exact g5 hm j (by omega) hjr
end

/-- Nothing that the law bars stands inside. -/
def Clean (s : ByteArray) (q st r : Nat) : Prop := ∀ j, st + 1 ≤ j → j < r → byt s j ≠ 10 ∧ (q = 39 → byt s j ≠ 39)
def Told (s : ByteArray) (q st r : Nat) (multi : Bool) : Prop := (multi = true → st + 6 ≤ r + 1) ∧ (multi = false → Clean s q st r)

set_option maxRecDepth 10000 in
set_option maxHeartbeats 1000000 in
theorem law4 (w : World) (s : ByteArray) (a : Int) (hs : s.size ≤ maxLen) (ha : (Lit.int .i64 a).wf = true) :
    Calls Try.prog 4 #[.string s, .int .i64 a] w fun e w' => e = .returned (.bool true) ∧ Below w.heap.size w w' := by
  have hbytes := bytes13 w s a hs
  unfold maxLen at hs
  go_enter Try.func4, Try.ntmps4
  go_wp2_with fail
  refine hbytes.mono ?_
  rintro e w' ⟨b, rfl, rfl⟩
  clear hbytes
  cases b
  · go_wp2
    go_ret
    exact ⟨rfl, Below.refl _ _⟩
  by_cases g0 : s.size ≤ 1048576
  case neg =>
    go_wp2
    go_ret
    exact ⟨rfl, Below.refl _ _⟩
  by_cases hneg : a < 0
  · go_wp2
    go_ret
    exact ⟨rfl, Below.refl _ _⟩
  obtain ⟨st, rfl⟩ : ∃ st : Nat, a = st := ⟨a.toNat, by omega⟩
  by_cases hst : st < s.size
  case neg =>
    have z : (s.size : Int) ≤ st := by omega
    go_wp2
    go_ret
    exact ⟨rfl, Below.refl _ _⟩
  have z : (st : Int) < s.size := by omega
  obtain ⟨q, hq⟩ : ∃ q, s[st].toNat = q := ⟨_, rfl⟩
  by_cases hq2 : q = 34 ∨ q = 39
  case neg =>
    have g34 : ((q : Int) != 34) = true := by simp; omega
    have g39 : ((q : Int) != 39) = true := by simp; omega
    have i34 : ¬ (q : Int) = 34 := by omega
    have i39 : ¬ (q : Int) = 39 := by omega
    go_wp2
    go_ret
    exact ⟨rfl, Below.refl _ _⟩
  obtain ⟨multi, hm⟩ : ∃ m, three (byt s) s.size q st = m := ⟨_, rfl⟩
  obtain ⟨p0, hp0⟩ : ∃ p0, p0 = if multi then st + 3 else st + 1 := ⟨_, rfl⟩
  have hE := zz_walk s st q g0 hst hq hq2 multi hm p0 hp0
  have good : ∀ r, se (byt s) s.size q multi p0 = some r → Good (byt s) s.size q multi p0 r := fun r h => se_good hq2 _ p0 (Nat.le_refl _) h
  generalize se (byt s) s.size q multi p0 = v at hE good
  have HM : Hid (three (byt s) s.size q st = multi) := hm
  clear hm
  cases v with
  | none =>
    clear good hp0
    rcases hq2 with rfl | rfl
    all_goals (
      go_wp2_with fail
      refine (hE _).mono ?_
      rintro e w1 ⟨rfl, hb⟩
      simp only [out]
      go_wp2
      go_ret
      exact ⟨rfl, hb⟩)
  | some r =>
    obtain ⟨r, rfl⟩ : ∃ r', r = r' + 1 := ⟨r - 1, by have := (good r rfl).1; omega⟩
    obtain ⟨h1, h2, h3, h4, h5⟩ := good (r + 1) rfl
    rw [Nat.add_sub_cancel] at h3
    have hr : r < s.size := by omega
    have hy : s[r].toNat = q := by rw [← byt_at hr]; exact h3
    have hge : st + 1 ≤ r := by cases multi <;> simp at hp0 <;> omega
    have HT : Told s q st r multi := by
      refine ⟨fun e => ?_, fun e j hj hjr => h5 e j (by rw [e] at hp0; simp at hp0; omega) (by omega)⟩
      have := h4 e
      rw [e, if_pos rfl] at hp0
      omega
    clear h1 h2 h3 h4 h5 good hp0
    simp only [out] at hE
    have zr : (r : Int) < s.size := by omega
    have zg : (st : Int) + 1 ≤ r := by omega
    rcases hq2 with rfl | rfl
    all_goals (
      go_wp2_with fail
      refine (hE _).mono ?_
      rintro e w1 ⟨rfl, hb⟩
      have HB : Hid (Below w'.heap.size w' w1) := hb
      clear hb hE
      go_upto_region 17 with fail
      go_cut [7] from 9 (fun s7 wc => s7 = .bool multi ∧ wc = w1)
      case first =>
        go_wp2
        · go_meet
          case rel => exact ⟨by rw [← HM.out, three_t1 hst hq (by omega) (by assumption)]; rfl, rfl⟩
        · go_meet
          case rel => exact ⟨by rw [← HM.out, three_t2 (by omega) (by assumption)], rfl⟩
        · go_meet
          case rel => exact ⟨by rw [← HM.out, three_t3 (by assumption)], rfl⟩
      case rest =>
      obtain ⟨rfl, rfl⟩ := hcut
      clear HM hq hy
      cases multi
      case true =>
        have h6 := HT.1 rfl
        clear HT
        have z6 : (st : Int) + 6 ≤ (r : Int) + 1 := by omega
        go_wp2
        go_ret
        exact ⟨by simp, HB.out⟩
      have HC := HT.2 rfl
      clear HT
      go_wp2
      go_loopg [8] (r - (st + 1)) (fun g s8 wr => ∃ j : Nat, j + g = r ∧ st + 1 ≤ j ∧ s8 = .int .i64 j ∧ wc = wr)
      case atStart => exact ⟨st + 1, by omega, Nat.le_refl _, by go_num, rfl⟩
      case round =>
        obtain ⟨j, hj, hsj, rfl, rfl⟩ := hrel
        have HJ : Hid (j + gk = r) := hj
        clear hj
        by_cases hjr : j < r
        · have hjs : j < s.size := by omega
          have zj : (j : Int) < r := by omega
          have zs : (j : Int) < s.size := by omega
          have hc := HC j hsj hjr
          obtain ⟨x, hx⟩ : ∃ x, s[j].toNat = x := ⟨_, rfl⟩
          rw [byt_at hjs, hx] at hc
          obtain ⟨c1, c2⟩ := hc
          have g10 : ((x : Int) == 10) = false := by simp; omega
          try have g39 : ((x : Int) == 39) = false := by have := c2 rfl; simp; omega
          clear c1 c2 HC
          go_wp2
          go_roundg (gk - 1)
          case measure => have := HJ.out; omega
          case rel => exact ⟨j + 1, by have := HJ.out; omega, by omega, by go_num, rfl⟩
        · have zj : ¬ (j : Int) < r := by omega
          clear HC
          go_wp2
          go_ret
          exact ⟨rfl, HB.out⟩)
end Go.Proofs.Qxb6600491a.Sc
