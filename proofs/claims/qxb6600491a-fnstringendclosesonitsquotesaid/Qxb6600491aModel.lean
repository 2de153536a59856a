import Derived.Test.Qxb6600491aGuards
import Derived.Test.Qxb6600491aScan
import Derived.OwnWalk
import Derived.Deep.LoopGhost
import Derived.Deep.CutRange
namespace Go.Proofs.Qxb6600491a.Sc
open Go.RowKit

/-- The text's byte at i. -/
def byt (s : ByteArray) (i : Nat) : Nat := if h : i < s.size then s[i].toNat else 0
theorem byt_at {s : ByteArray} {i : Nat} (h : i < s.size) : byt s i = s[i].toNat := dif_pos h
/-- What is returned. -/
def out : Option Nat → Int
  | none => -1
  | some r => r

section
variable {B : Nat → Nat} {n q : Nat} {multi b : Bool} {r p : Nat}
theorem me_end (h : ¬ p < n) : me B n q multi b r p = none := by rw [me, dif_neg h]
theorem me_pend (h : p < n) (hb : b = true) (hc : B p ≠ 10) : me B n q multi b r p = me B n q multi false 0 (p + 1) := by
  rw [me, dif_pos h, if_pos (by simp [hb, hc])]
theorem me_close (h : p < n) (hb : b = false ∨ B p = 10) (hc : B p = q) (hm : multi = false) : me B n q multi b r p = some (p + 1) := by
  rw [me, dif_pos h, if_neg (by rcases hb with hb | hb <;> simp [hb]), if_pos (by simp [hc]), if_pos (by simp [hm])]
theorem me_three (h : p < n) (hb : b = false ∨ B p = 10) (hc : B p = q) (hm : multi = true) (hr : r = 2) : me B n q multi b r p = some (p + 1 + more B n q (p + 1)) := by
  rw [me, dif_pos h, if_neg (by rcases hb with hb | hb <;> simp [hb]), if_pos (by simp [hc]), if_neg (by simp [hm]), if_pos (by simp [hr])]
theorem me_run (h : p < n) (hb : b = false ∨ B p = 10) (hc : B p = q) (hm : multi = true) (hr : r ≠ 2) : me B n q multi b r p = me B n q multi false (r + 1) (p + 1) := by
  rw [me, dif_pos h, if_neg (by rcases hb with hb | hb <;> simp [hb]), if_pos (by simp [hc]), if_neg (by simp [hm]), if_neg (by simp [hr])]
theorem me_line (h : p < n) (hb : b = false ∨ B p = 10) (hc : B p ≠ q) (hl : B p = 10) (hm : multi = false) : me B n q multi b r p = none := by
  rw [me, dif_pos h, if_neg (by rcases hb with hb | hb <;> simp [hb]), if_neg (by simp [hc]), if_pos (by simp [hl, hm])]
theorem me_other (h : p < n) (hb : b = false ∨ B p = 10) (hc : B p ≠ q) (hl : B p = 10 → multi = true) {b' : Bool} (hb' : (B p == 92 && q == 34) = b') : me B n q multi b r p = me B n q multi b' 0 (p + 1) := by
  subst hb'
  rw [me, dif_pos h, if_neg (by rcases hb with hb | hb <;> simp [hb]), if_neg (by simp [hc]), if_neg]
  simp only [Bool.and_eq_true, beq_iff_eq, Bool.not_eq_true', not_and, Bool.not_eq_false]
  exact hl

/-- The run of quotes, at most five. -/
theorem run5 {f k : Nat} (hk : k ≤ 5) (hall : ∀ j, j < k → f + j < n ∧ B (f + j) = q) (hend : k = 5 ∨ ¬ (f + k < n ∧ B (f + k) = q)) (h0 : B f = q) (h1 : B (f + 1) = q) (h2 : B (f + 2) = q) (hn : f + 2 < n) : k + f = f + 3 + more B n q (f + 3) := by
  have c : k = 0 ∨ k = 1 ∨ k = 2 ∨ k = 3 ∨ k = 4 ∨ k = 5 := by omega
  rcases c with rfl | rfl | rfl | rfl | rfl | rfl
  · rcases hend with h | h
    · omega
    · exact absurd ⟨by omega, h0⟩ h
  · rcases hend with h | h
    · omega
    · exact absurd ⟨by omega, h1⟩ h
  · rcases hend with h | h
    · omega
    · exact absurd ⟨by omega, h2⟩ h
  · rcases hend with h | h
    · omega
    · unfold more; rw [if_neg h]; omega
  · have e := hall 3 (by omega)
    rcases hend with h | h
    · omega
    · unfold more; rw [if_pos e, if_neg h]; omega
  · have e := hall 3 (by omega)
    have e2 := hall 4 (by omega)
    unfold more; rw [if_pos e, if_pos e2]; omega
end

section
variable {s : ByteArray} {st q : Nat}
theorem three_t1 (hst : st < s.size) (hq : s[st].toNat = q) (h : st + 2 < s.size) (h1 : ((s[st + 1]'(by omega)).toNat : Int) = q) : three (byt s) s.size q st = (((s[st + 2]'h).toNat : Int) == (q : Int)) := by
  have e1 : byt s (st + 1) = q := by rw [byt_at (by omega)]; omega
  have e0 : byt s st = q := by rw [byt_at hst]; exact hq
  unfold three
  rw [e0, e1, byt_at h, Bool.eq_iff_iff]
  simp [h]
  omega
theorem three_t2 (h : st + 2 < s.size) (h1 : ¬ ((s[st + 1]'(by omega)).toNat : Int) = q) : three (byt s) s.size q st = false :=
  three_false (by
    intro ⟨_, _, e, _⟩
    rw [byt_at (by omega)] at e
    omega)
theorem three_t3 (h : (s.size : Int) ≤ st + 2) : three (byt s) s.size q st = false := three_false (by omega)
end

/-- So many quotes in a row stand ahead of p. -/
def Ran (s : ByteArray) (q r p : Nat) : Prop := r ≤ p ∧ ∀ j, j < r → byt s (p - r + j) = q
theorem Ran.zero (s : ByteArray) (q p : Nat) : Ran s q 0 p := ⟨Nat.zero_le _, fun _ h => absurd h (Nat.not_lt_zero _)⟩
theorem Ran.succ {s : ByteArray} {q r p : Nat} (h : Ran s q r p) (hp : byt s p = q) : Ran s q (r + 1) (p + 1) := by
  refine ⟨by have := h.1; omega, fun j hj => ?_⟩
  by_cases e : j = r
  · rw [show p + 1 - (r + 1) + j = p by have := h.1; omega]; exact hp
  · rw [show p + 1 - (r + 1) + j = p - r + j by omega]; exact h.2 j (by omega)

set_option maxRecDepth 10000 in
set_option maxHeartbeats 1000000 in
theorem model_walk (s : ByteArray) (st q : Nat) (hs : s.size ≤ 1048576) (hst : st < s.size) (hq : s[st].toNat = q) (hq10 : q ≠ 10) (multi : Bool) (hm : three (byt s) s.size q st = multi) (p0 : Nat) (hp0 : p0 = if multi then st + 3 else st + 1) (w : World) :
    Calls Try.prog 12 #[.string s, .int .i64 st] w fun e w' => e = .returned (.int .i64 (out (me (byt s) s.size q multi false 0 p0))) ∧ w' = w := by
  go_enter Try.func12, Try.ntmps12
  have hpn : p0 ≤ s.size := by
    cases multi
    · simp at hp0; omega
    · simp at hp0; have := (three_iff.1 hm).1; omega
  have HM : Hid (three (byt s) s.size q st = multi) := hm
  have HP : Hid (p0 = if multi then st + 3 else st + 1) := hp0
  have HQ : Hid (s[st].toNat = q) := hq
  clear hm hp0
  go_upto_region 3 with fail
  go_cut [7] from 14 (fun s7 wc => s7 = .bool multi ∧ wc = w)
  case first =>
    go_wp2
    · go_meet
      case rel => exact ⟨by rw [← HM.out, three_t1 hst hq (by omega) (by assumption)], rfl⟩
    · go_meet
      case rel => exact ⟨by rw [← HM.out, three_t2 (by omega) (by assumption)], rfl⟩
    · go_meet
      case rel => exact ⟨by rw [← HM.out, three_t3 (by assumption)], rfl⟩
  case rest =>
  obtain ⟨rfl, rfl⟩ := hcut
  go_upto_if 42 with fail
  go_cut [8] from 14 (fun s8 wc' => s8 = .int .i64 p0 ∧ wc' = wc)
  case first =>
    cases multi
    · go_wp2
      go_meet
      case rel => exact ⟨by have h := HP.out; rw [if_neg (by decide)] at h; rw [h]; rfl, rfl⟩
    · go_wp2
      go_meet
      case rel => exact ⟨by have h := HP.out; rw [if_pos trivial] at h; rw [h]; rfl, rfl⟩
  case rest =>
  obtain ⟨rfl, rfl⟩ := hcut
  clear HM HP hq
  go_wp2
  generalize hbas : ((q : Int) == 34) = bas
  have HS : Hid (((q : Int) == 34) = bas) := hbas
  clear hbas
  go_loopg [8, 9, 10] (s.size - p0) (fun g s8 s9 s10 wr => ∃ (p r : Nat) (b : Bool), p + g = s.size ∧ r ≤ 2 ∧ s8 = .int .i64 p ∧ s9 = .bool b ∧ s10 = .int .i64 r ∧ Ran s q r p ∧ me (byt s) s.size q multi b r p = me (byt s) s.size q multi false 0 p0 ∧ wc = wr)
  case atStart => exact ⟨p0, 0, false, by omega, by omega, rfl, rfl, rfl, Ran.zero _ _ _, rfl, rfl⟩
  case round =>
    obtain ⟨p, r, b, hk, hr, rfl, rfl, rfl, hran, hme, rfl⟩ := hrel
    have HR : Hid (Ran s q r p) := hran
    have HE : Hid (me (byt s) s.size q multi b r p = me (byt s) s.size q multi false 0 p0) := hme
    have HK : Hid (p + gk = s.size) := hk
    clear hran hme
    by_cases hlt : p < s.size
    · obtain ⟨x, hx⟩ : ∃ x, s[p].toNat = x := ⟨_, rfl⟩
      have HX : Hid (byt s p = x) := (byt_at hlt).trans hx
      have z : (p : Int) < (s.size : Int) := by omega
      clear hk
      by_cases hpend : b = true ∧ x ≠ 10
      · obtain ⟨rfl, h10⟩ := hpend
        have g10 : ((x : Int) == 10) = false := by simp; omega
        go_wp2
        go_roundg (gk - 1)
        case measure => have := HK.out; omega
        case rel => exact ⟨p + 1, 0, false, by have := HK.out; omega, by omega, by go_num, rfl, rfl, Ran.zero _ _ _, (me_pend hlt rfl (by rw [HX.out]; exact h10)).symm.trans HE.out, rfl⟩
      · by_cases hb : b = true
        · subst hb
          have e10 : x = 10 := by
            by_cases e : x = 10
            · exact e
            · exact absurd ⟨rfl, e⟩ hpend
          subst e10
          have gq : ((10 : Int) == (q : Int)) = false := by simp; omega
          clear hpend
          cases multi
          · have HZ : Hid (me (byt s) s.size q false false 0 p0 = none) := HE.out.symm.trans (me_line hlt (Or.inr HX.out) (by rw [HX.out]; omega) HX.out rfl)
            clear HE HR
            go_wp2
            go_ret
            exact ⟨by rw [HZ.out]; rfl, rfl⟩
          · go_wp2
            go_roundg (gk - 1)
            case measure => have := HK.out; omega
            case rel => exact ⟨p + 1, 0, false, by have := HK.out; omega, by omega, by go_num, rfl, rfl, Ran.zero _ _ _, (me_other hlt (Or.inr HX.out) (by rw [HX.out]; omega) (fun _ => rfl) (by rw [HX.out]; rfl)).symm.trans HE.out, rfl⟩
        · have hb' : b = false := by simpa using hb
          subst hb'
          clear hpend hb
          by_cases hc : x = q
          · subst hc
            cases multi
            · have HZ : Hid (me (byt s) s.size x false false 0 p0 = some (p + 1)) := HE.out.symm.trans (me_close hlt (Or.inl rfl) HX.out rfl)
              clear HE HR
              go_wp2
              go_ret
              exact ⟨by rw [HZ.out]; rfl, rfl⟩
            · by_cases hr2 : r = 2
              · subst hr2
                have HZ : Hid (me (byt s) s.size x true false 0 p0 = some (p + 1 + more (byt s) s.size x (p + 1))) := HE.out.symm.trans (me_three hlt (Or.inl rfl) HX.out rfl rfl)
                clear HE
                obtain ⟨f, rfl⟩ : ∃ f, p = f + 2 := ⟨p - 2, by have := HR.out.1; omega⟩
                go_wp2
                go_loopg [13] 5 (fun g s13 wr => ∃ k : Nat, k + g = 5 ∧ s13 = .int .i64 k ∧ (∀ j, j < k → f + j < s.size ∧ byt s (f + j) = x) ∧ wc = wr)
                case atStart => exact ⟨0, rfl, rfl, fun j hj => absurd hj (Nat.not_lt_zero _), rfl⟩
                case round =>
                  obtain ⟨k, hk, rfl, hall, rfl⟩ := hrel
                  have HA : Hid (∀ j, j < k → f + j < s.size ∧ byt s (f + j) = x) := hall
                  clear hall
                  have fin : ∀ (hend : k = 5 ∨ ¬ (f + k < s.size ∧ byt s (f + k) = x)), out (me (byt s) s.size x true false 0 p0) = (f : Int) + (k : Int) := by
                    intro hend
                    have h := run5 (by omega) HA.out hend (by have := HR.out.2 0 (by omega); simpa using this) (by have := HR.out.2 1 (by omega); simpa using this) HX.out hlt
                    rw [HZ.out]
                    simp only [out]
                    rw [show f + 2 + 1 = f + 3 by omega, ← h]
                    omega
                  have HF : Hid (∀ (hend : k = 5 ∨ ¬ (f + k < s.size ∧ byt s (f + k) = x)), out (me (byt s) s.size x true false 0 p0) = (f : Int) + (k : Int)) := fin
                  clear fin HR HZ
                  by_cases h5 : k < 5
                  · have z5 : (k : Int) < 5 := by omega
                    by_cases hfk : f + k < s.size
                    · have zf : (f : Int) + k < s.size := by omega
                      obtain ⟨y, hy⟩ : ∃ y, s[f + k].toNat = y := ⟨_, rfl⟩
                      have HY : Hid (byt s (f + k) = y) := (byt_at hfk).trans hy
                      by_cases hyx : y = x
                      · subst hyx
                        go_wp2
                        go_roundg (4 - k)
                        case measure => omega
                        case rel => exact ⟨k + 1, by omega, by go_num, fun j hj => by
                          by_cases e : j = k
                          · subst e; exact ⟨hfk, HY.out⟩
                          · exact HA.out j (by omega), rfl⟩
                      · have gy : ((y : Int) == (x : Int)) = false := by simp; omega
                        go_wp2
                        go_ret
                        exact ⟨by rw [HF.out (Or.inr (fun h => hyx (HY.out.symm.trans h.2)))]; rfl, rfl⟩
                    · have zf : ¬ (f : Int) + k < s.size := by omega
                      go_wp2
                      go_ret
                      exact ⟨by rw [HF.out (Or.inr (fun h => hfk h.1))]; rfl, rfl⟩
                  · have z5 : ¬ (k : Int) < 5 := by omega
                    go_wp2
                    go_ret
                    exact ⟨by rw [HF.out (Or.inl (by omega))]; rfl, rfl⟩
              · have g3 : ((r : Int) + 1 == 3) = false := by simp; omega
                go_wp2
                go_roundg (gk - 1)
                case measure => have := HK.out; omega
                case rel => exact ⟨p + 1, r + 1, false, by have := HK.out; omega, by omega, by go_num, rfl, by go_num, HR.out.succ HX.out, (me_run hlt (Or.inl rfl) HX.out rfl hr2).symm.trans HE.out, rfl⟩
          · have gc : ((x : Int) == (q : Int)) = false := by simp; omega
            have HN : Hid (byt s p ≠ q) := by rw [HX.out]; exact hc
            by_cases hl : x = 10 ∧ multi = false
            · obtain ⟨rfl, rfl⟩ := hl
              have HZ : Hid (me (byt s) s.size q false false 0 p0 = none) := HE.out.symm.trans (me_line hlt (Or.inl rfl) HN.out HX.out rfl)
              clear HE HR
              go_wp2
              go_ret
              exact ⟨by rw [HZ.out]; rfl, rfl⟩
            · have HL : Hid (byt s p = 10 → multi = true) := by
                intro h
                cases multi
                · exact absurd ⟨HX.out.symm.trans h, rfl⟩ hl
                · rfl
              have hl' : multi = true ∨ x ≠ 10 := by
                cases multi
                · right; intro e; exact hl ⟨e, rfl⟩
                · exact Or.inl rfl
              clear hl
              have hq34 : bas = true ↔ q = 34 := by
                rw [← HS.out]; simp; omega
              by_cases hbs : x = 92 ∧ bas = true
              · obtain ⟨rfl, rfl⟩ := hbs
                have HO : Hid (me (byt s) s.size q multi true 0 (p + 1) = me (byt s) s.size q multi false 0 p0) := (me_other hlt (Or.inl rfl) HN.out HL.out (by rw [HX.out, hq34.1 rfl]; rfl)).symm.trans HE.out
                clear hl' HL hq34 HS HE
                go_wp2
                go_roundg (gk - 1)
                case measure => have := HK.out; omega
                case rel => exact ⟨p + 1, 0, true, by have := HK.out; omega, by omega, by go_num, rfl, rfl, Ran.zero _ _ _, HO.out, rfl⟩
              · have HB : (byt s p == 92 && q == 34) = false := by
                  rw [Bool.eq_false_iff]; intro h; simp at h; exact hbs ⟨HX.out.symm.trans h.1, hq34.2 h.2⟩
                have HO : Hid (me (byt s) s.size q multi false 0 (p + 1) = me (byt s) s.size q multi false 0 p0) := (me_other hlt (Or.inl rfl) HN.out HL.out HB).symm.trans HE.out
                have hbs' : x ≠ 92 ∨ bas = false := by
                  cases bas
                  · exact Or.inr rfl
                  · left; intro e; exact hbs ⟨e, rfl⟩
                clear hbs HB HL hq34 HS HE
                rcases hl' with rfl | hl'
                all_goals rcases hbs' with h92 | rfl
                all_goals try have g92 : ((x : Int) == 92) = false := by simp; omega
                all_goals try have g10 : ((x : Int) == 10) = false := by simp; omega
                all_goals go_wp2
                all_goals (
                  go_roundg (gk - 1)
                  case measure => (have := HK.out; omega)
                  case rel => exact ⟨p + 1, 0, false, by have := HK.out; omega, by omega, by go_num, rfl, rfl, Ran.zero _ _ _, HO.out, rfl⟩)
    · have e : p = s.size := by omega
      have HZ : Hid (me (byt s) s.size q multi false 0 p0 = none) := HE.out.symm.trans (me_end hlt)
      have z : ¬ (p : Int) < (s.size : Int) := by omega
      clear hk e HE HR hlt HK
      go_wp2
      go_ret
      exact ⟨by rw [HZ.out]; rfl, rfl⟩
end Go.Proofs.Qxb6600491a.Sc
