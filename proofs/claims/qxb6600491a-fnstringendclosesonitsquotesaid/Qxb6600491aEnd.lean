import Derived.Test.Qxb6600491aModel
import Derived.Test.Qxb6600491aShelf
namespace Go.Proofs.Qxb6600491a.Sc
open Go.RowKit

/-- One quote, three quotes, as strings. -/
def one (q : Nat) : ByteArray := ⟨#[UInt8.ofNat q]⟩
def dl (q : Nat) : ByteArray := ⟨#[UInt8.ofNat q, UInt8.ofNat q, UInt8.ofNat q]⟩

theorem rep3 (q : Nat) (w : World) : Calls Try.prog 30 #[.string (one q), .int .i64 3] w fun e w' => e = .returned (.string (dl q)) ∧ Below w.heap.size w w' :=
  Try.strings_Repeat_main (one q) 3 w (by decide) (by decide) (by show 1 * 3 ≤ _; decide) (by show 0 < 1; decide)

theorem byte_q {u : UInt8} {q : Nat} (hq : q < 256) : (UInt8.ofNat q == u) = (u.toNat == q) := by
  rw [Bool.eq_iff_iff]
  simp only [beq_iff_eq]
  constructor
  · intro h; rw [← h]; simp; omega
  · intro h; rw [← h]; simp

theorem byt_list {s : ByteArray} {i : Nat} (h : i < s.size) : byt s i = (s.data.toList[i]'(by simpa using h)).toNat := by
  rw [byt_at h]; rfl

theorem has3 (s : ByteArray) (q i : Nat) (hq : q < 256) (hi : i < s.size) : Lib.hasPrefix (s.extract i s.size).data.toList (dl q).data.toList = three (byt s) s.size q i := by
  have hl : s.data.toList.length = s.size := by rw [Array.length_toList]; rfl
  have e : (s.extract i s.size).data.toList = s.data.toList.drop i := by
    rw [ByteArray.data_extract, Array.toList_extract, List.extract_eq_take_drop, List.take_of_length_le (by rw [List.length_drop, hl]; exact Nat.le_refl _)]
  rw [e]
  show List.isPrefixOf [UInt8.ofNat q, UInt8.ofNat q, UInt8.ofNat q] _ = _
  rw [List.drop_eq_getElem_cons (by omega)]
  unfold three
  by_cases h1 : i + 1 < s.size
  · rw [List.drop_eq_getElem_cons (by omega)]
    by_cases h2 : i + 1 + 1 < s.size
    · rw [List.drop_eq_getElem_cons (by omega), byt_list hi, byt_list h1, byt_list h2]
      simp only [List.isPrefixOf_cons_cons, byte_q hq, List.isPrefixOf_nil_left, Bool.and_true]
      rw [show decide (i + 2 < s.size) = true from by simpa using h2]
      simp [Bool.and_assoc]
    · rw [List.drop_eq_nil_of_le (by omega), show decide (i + 2 < s.size) = false from by simp; omega]
      simp [List.isPrefixOf]
  · rw [List.drop_eq_nil_of_le (by omega), show decide (i + 2 < s.size) = false from by simp; omega]
    simp [List.isPrefixOf]

theorem pre3 (s : ByteArray) (q i : Nat) (hq : q < 256) (hi : i < s.size) {b : Bool} (hb : three (byt s) s.size q i = b) (w : World) : Calls Try.prog 31 #[.string (s.extract i s.size), .string (dl q)] w fun e w' => e = .returned (.bool b) ∧ w' = w := by
  have h := Try.strings_HasPrefix (s.extract i s.size) (dl q) w
  rw [has3 s q i hq hi, hb] at h
  exact h

theorem conv (q : Nat) (hq : q = 34 ∨ q = 39) (w : World) : (convert 5 9 (.int .u8 q)).run Try.prog w = .ok (.string (one q)) w := by
  rcases hq with rfl | rfl
  · kernel_rfl
  · kernel_rfl

/-- The quotes that follow, at most two. -/
theorem more2 {B : Nat → Nat} {n q f k : Nat} (hk : k ≤ 2) (hall : ∀ j, j < k → f + j < n ∧ B (f + j) = q) (hend : k = 2 ∨ ¬ (f + k < n ∧ B (f + k) = q)) : more B n q f = k := by
  have c : k = 0 ∨ k = 1 ∨ k = 2 := by omega
  unfold more
  rcases c with rfl | rfl | rfl
  · rcases hend with h | h
    · omega
    · exact if_neg h
  · have e : f < n ∧ B f = q := hall 0 (by omega)
    rcases hend with h | h
    · omega
    · rw [if_pos e, if_neg h]
  · have e : f < n ∧ B f = q := hall 0 (by omega)
    have e2 := hall 1 (by omega)
    rw [if_pos e, if_pos e2]

set_option maxRecDepth 10000 in
set_option maxHeartbeats 1000000 in
theorem end_walk (s : ByteArray) (st q : Nat) (hs : s.size ≤ 1048576) (hst : st < s.size) (hq : s[st].toNat = q) (hq2 : q = 34 ∨ q = 39) (multi : Bool) (hm : three (byt s) s.size q st = multi) (p0 : Nat) (hp0 : p0 = if multi then st + 3 else st + 1) (w : World) :
    Calls Try.prog 26 #[.string s, .int .i64 st] w fun e w' => e = .returned (.int .i64 (out (se (byt s) s.size q multi p0))) ∧ Below w.heap.size w w' := by
  have hcv := conv q hq2
  have hpn : p0 ≤ s.size := by
    cases multi
    · simp at hp0; omega
    · simp at hp0; have := (three_iff.1 hm).1; omega
  have q256 : q < 256 := by omega
  have q10 : q ≠ 10 := by omega
  have q92 : q ≠ 92 := by omega
  have hpre := pre3 s q st q256 hst hm
  have HP : Hid (p0 = if multi then st + 3 else st + 1) := hp0
  have HQ : Hid (s[st].toNat = q) := hq
  clear hp0 hm hq2
  go_enter Try.func26, Try.ntmps26
  go_wp2_with fail
  refine (rep3 q w).mono ?_
  rintro e w1 ⟨rfl, hbel⟩
  have HB : Hid (Below w.heap.size w w1) := hbel
  clear hbel hcv
  go_wp2_with fail
  refine (hpre w1).mono ?_
  rintro e w2 ⟨rfl, rfl⟩
  clear hpre
  go_upto_if 24 with fail
  go_cut [8] from 11 (fun s8 wc => s8 = .int .i64 p0 ∧ wc = w2)
  case first =>
    cases multi
    · go_wp2
      go_meet
      case rel => exact ⟨by have h := HP.out; rw [if_neg (by decide)] at h; rw [h]; rfl, rfl⟩
    · go_wp2
      go_meet
      case rel => exact ⟨by have h := HP.out; rw [if_pos trivial] at h; rw [h]; rfl, rfl⟩
  case rest =>
  obtain ⟨rfl, rfl⟩ := hcut
  clear HP hq
  go_wp2
  go_loopg [8] (s.size - p0) (fun g s8 wr => ∃ i : Nat, i + g = s.size ∧ s8 = .int .i64 i ∧ se (byt s) s.size q multi i = se (byt s) s.size q multi p0 ∧ wc = wr)
  case atStart => exact ⟨p0, by omega, rfl, rfl, rfl⟩
  case round =>
    obtain ⟨i, hk, rfl, hse, rfl⟩ := hrel
    have HE : Hid (se (byt s) s.size q multi i = se (byt s) s.size q multi p0) := hse
    have HK : Hid (i + gk = s.size) := hk
    clear hse
    by_cases hlt : i < s.size
    · obtain ⟨x, hx⟩ : ∃ x, s[i].toNat = x := ⟨_, rfl⟩
      have HX : Hid (byt s i = x) := (byt_at hlt).trans hx
      have z : (i : Int) < (s.size : Int) := by omega
      clear hk
      go_upto_region 10 with fail
      go_cut [36] from 27 to 103 (fun s36 wd => s36 = .bool (esc (byt s) s.size q i) ∧ wd = wc)
      case first =>
        by_cases h92 : x = 92
        · subst h92
          by_cases h34 : q = 34
          · subst h34
            by_cases hi1 : i + 1 < s.size
            · obtain ⟨y, hy⟩ : ∃ y, s[i + 1].toNat = y := ⟨_, rfl⟩
              have HY : Hid (byt s (i + 1) = y) := (byt_at hi1).trans hy
              have z1 : (i : Int) + 1 < (s.size : Int) := by omega
              by_cases h10 : y = 10
              · subst h10
                go_wp2
                go_meet
                case rel => exact ⟨by rw [esc_false (fun h => h.2.2.2 HY.out)]; try rfl, rfl⟩
              · have g10 : ((y : Int) == 10) = false := by simp; omega
                go_wp2
                go_meet
                case rel => exact ⟨by rw [esc_iff.2 ⟨HX.out, rfl, hi1, by rw [HY.out]; exact h10⟩]; simp; omega, rfl⟩
            · have z1 : ¬ (i : Int) + 1 < (s.size : Int) := by omega
              go_wp2
              go_meet
              case rel => exact ⟨by rw [esc_false (fun h => hi1 h.2.2.1)]; try rfl, rfl⟩
          · have g34 : ((q : Int) == 34) = false := by simp; omega
            go_wp2
            go_meet
            case rel => exact ⟨by rw [esc_false (fun h => h34 h.2.1)]; try rfl, rfl⟩
        · have g92 : ((x : Int) == 92) = false := by simp; omega
          go_wp2
          go_meet
          case rel => exact ⟨by rw [esc_false (fun h => h92 (HX.out.symm.trans h.1))]; try rfl, rfl⟩
      case rest =>
      obtain ⟨eb, heb⟩ : ∃ eb, esc (byt s) s.size q i = eb := ⟨_, rfl⟩
      rw [heb] at hcut
      obtain ⟨rfl, rfl⟩ := hcut
      have HEB : Hid (esc (byt s) s.size q i = eb) := heb
      clear heb
      cases eb
      case true =>
        have hi1 := (esc_iff.1 HEB.out).2.2.1
        have HO : Hid (se (byt s) s.size q multi (i + 2) = se (byt s) s.size q multi p0) := (se_esc hlt HEB.out).symm.trans HE.out
        clear HE
        go_wp2
        go_roundg (gk - 2)
        case measure => have := HK.out; omega
        case rel => exact ⟨i + 2, by have := HK.out; omega, by go_num, HO.out, rfl⟩
      by_cases h10 : x = 10
      · subst h10
        have h3 : three (byt s) s.size q i = false := three_false (fun h => q10 (h.2.1.symm.trans HX.out))
        have gq : ((10 : Int) == (q : Int)) = false := by simp; omega
        cases multi
        · have HZ : Hid (se (byt s) s.size q false p0 = none) := HE.out.symm.trans (se_line hlt HEB.out HX.out rfl)
          clear HE
          go_wp2
          go_ret
          exact ⟨by rw [HZ.out]; rfl, HB.out⟩
        · have HO : Hid (se (byt s) s.size q true (i + 1) = se (byt s) s.size q true p0) := (se_next hlt HEB.out (fun _ => rfl) (fun _ => rfl) h3).symm.trans HE.out
          have hp := pre3 s q i q256 hlt h3
          clear HE h3
          go_wp2_with fail
          refine (hp _).mono ?_
          rintro e w3 ⟨rfl, rfl⟩
          go_wp2
          go_roundg (gk - 1)
          case measure => have := HK.out; omega
          case rel => exact ⟨i + 1, by have := HK.out; omega, by go_num, HO.out, rfl⟩
      have g10 : ((x : Int) == 10) = false := by simp; omega
      by_cases hxq : x = q
      · subst hxq
        cases multi
        · have HZ : Hid (se (byt s) s.size x false p0 = some (i + 1)) := HE.out.symm.trans (se_quote hlt HEB.out q10 HX.out rfl)
          clear HE
          go_wp2
          go_ret
          exact ⟨by rw [HZ.out]; rfl, HB.out⟩
        · by_cases h3 : three (byt s) s.size x i = true
          · have HZ : Hid (se (byt s) s.size x true p0 = some (i + 3 + more (byt s) s.size x (i + 3))) := HE.out.symm.trans (se_three hlt HEB.out rfl h3)
            have hi3 := (three_iff.1 h3).1
            have hp := pre3 s x i q256 hlt h3
            clear HE h3
            go_wp2_with fail
            refine (hp _).mono ?_
            rintro e w3 ⟨rfl, rfl⟩
            clear hp
            go_wp2
            go_loopg [8, 10] 2 (fun g s8 s10 wr => ∃ k : Nat, k + g = 2 ∧ s8 = .int .i64 ((i : Int) + 3 + k) ∧ s10 = .int .i64 k ∧ (∀ j, j < k → i + 3 + j < s.size ∧ byt s (i + 3 + j) = x) ∧ w3 = wr)
            case atStart => exact ⟨0, rfl, by go_num, rfl, fun j hj => absurd hj (Nat.not_lt_zero _), rfl⟩
            case round =>
              obtain ⟨k, hk, rfl, rfl, hall, rfl⟩ := hrel
              have HA : Hid (∀ j, j < k → i + 3 + j < s.size ∧ byt s (i + 3 + j) = x) := hall
              clear hall
              have fin : ∀ (hend : k = 2 ∨ ¬ (i + 3 + k < s.size ∧ byt s (i + 3 + k) = x)), out (se (byt s) s.size x true p0) = (i : Int) + 3 + (k : Int) := by
                intro hend
                rw [HZ.out, more2 (by omega) HA.out hend]
                simp only [out]
                omega
              have HF : Hid (∀ (hend : k = 2 ∨ ¬ (i + 3 + k < s.size ∧ byt s (i + 3 + k) = x)), out (se (byt s) s.size x true p0) = (i : Int) + 3 + (k : Int)) := fin
              clear fin HZ
              by_cases h2 : k < 2
              · have z2 : (k : Int) < 2 := by omega
                by_cases hfk : i + 3 + k < s.size
                · have zf : (i : Int) + 3 + k < s.size := by omega
                  obtain ⟨y, hy⟩ : ∃ y, s[i + 3 + k].toNat = y := ⟨_, rfl⟩
                  have HY : Hid (byt s (i + 3 + k) = y) := (byt_at hfk).trans hy
                  by_cases hyx : y = x
                  · subst hyx
                    go_wp2
                    go_roundg (1 - k)
                    case measure => omega
                    case rel => exact ⟨k + 1, by omega, by go_num, by go_num, fun j hj => by
                      by_cases e : j = k
                      · subst e; exact ⟨hfk, HY.out⟩
                      · exact HA.out j (by omega), rfl⟩
                  · have gy : ((y : Int) == (x : Int)) = false := by simp; omega
                    go_wp2
                    go_ret
                    exact ⟨by rw [HF.out (Or.inr (fun h => hyx (HY.out.symm.trans h.2)))]; rfl, HB.out⟩
                · have zf : ¬ (i : Int) + 3 + k < s.size := by omega
                  go_wp2
                  go_ret
                  exact ⟨by rw [HF.out (Or.inr (fun h => hfk h.1))]; rfl, HB.out⟩
              · have z2 : ¬ (k : Int) < 2 := by omega
                go_wp2
                go_ret
                exact ⟨by rw [HF.out (Or.inl (by omega))]; rfl, HB.out⟩
          · have h3' : three (byt s) s.size x i = false := by simpa using h3
            have HO : Hid (se (byt s) s.size x true (i + 1) = se (byt s) s.size x true p0) := (se_next hlt HEB.out (fun _ => rfl) (fun _ => rfl) h3').symm.trans HE.out
            have hp := pre3 s x i q256 hlt h3'
            clear HE h3 h3'
            go_wp2_with fail
            refine (hp _).mono ?_
            rintro e w3 ⟨rfl, rfl⟩
            go_wp2
            go_roundg (gk - 1)
            case measure => have := HK.out; omega
            case rel => exact ⟨i + 1, by have := HK.out; omega, by go_num, HO.out, rfl⟩
      · have h3 : three (byt s) s.size q i = false := three_false (fun h => hxq (HX.out.symm.trans h.2.1))
        have gq : ((x : Int) == (q : Int)) = false := by simp; omega
        have HO : Hid (se (byt s) s.size q multi (i + 1) = se (byt s) s.size q multi p0) := (se_next hlt HEB.out (fun h => absurd (HX.out.symm.trans h) h10) (fun h => absurd (HX.out.symm.trans h) hxq) h3).symm.trans HE.out
        have hp := pre3 s q i q256 hlt h3
        clear HE h3
        go_wp2_with fail
        refine (hp _).mono ?_
        rintro e w3 ⟨rfl, rfl⟩
        go_wp2
        go_roundg (gk - 1)
        case measure => have := HK.out; omega
        case rel => exact ⟨i + 1, by have := HK.out; omega, by go_num, HO.out, rfl⟩
    · have e : i = s.size := by omega
      have HZ : Hid (se (byt s) s.size q multi p0 = none) := HE.out.symm.trans (se_end _ hlt)
      have z : ¬ (i : Int) < (s.size : Int) := by omega
      clear hk e HE hlt HK
      go_wp2
      go_ret
      exact ⟨by rw [HZ.out]; rfl, HB.out⟩
end Go.Proofs.Qxb6600491a.Sc
