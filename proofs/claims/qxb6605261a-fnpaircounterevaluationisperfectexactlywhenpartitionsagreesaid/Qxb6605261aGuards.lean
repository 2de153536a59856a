import Derived.Test.Qxb6605261aBrute
namespace Go.Proofs.Qxb6605261a.Pc
open Go.Maps Go.RowKit

/-- What is known of the slice of truths: it is empty, or its cells lie at a plain address. -/
def StrRow (w : World) (a : Option Addr) (len : Nat) (T : Nat → ByteArray) : Prop :=
  len = 0 ∨ ∃ b o, a = some ⟨b, o, none⟩ ∧ b < w.heap.size ∧ (∀ i, i < len → w.cell? ⟨b, o + i, none⟩ = some (.string (T i))) ∧ ∀ i, i < len → (T i).size ≤ maxLen

theorem bytes3 (w : World) (a0 a1 : Option Addr) (len0 cap0 len1 cap1 : Nat) (T : Nat → ByteArray) (hl0 : len0 ≤ maxLen) (hl1 : len1 ≤ maxLen) (hT : StrRow w a1 len1 T) :
    Calls Try.prog 7 #[.slice a0 len0 cap0, .slice a1 len1 cap1] w fun ex w' => ∃ b, ex = .returned (.bool b) ∧ w' = w := by
  unfold maxLen at hl0 hl1
  by_cases g1 : len0 ≤ 1048576
  · by_cases g2 : len1 ≤ 1048576
    · by_cases g3 : len0 + len1 ≤ 1048576
      · go_enter Try.func7, Try.ntmps7
        go_wp2
        go_loopg [5, 6] len1 (fun g s5 s6 wr => ∃ (i : Nat) (x : Int), i + g = len1 ∧ s6 = .int .i64 i ∧ s5 = .int .i64 x ∧ wr = w)
        case atStart => exact ⟨0, _, Nat.zero_add _, rfl, rfl, rfl⟩
        case round =>
          obtain ⟨i, x, hi, rfl, rfl, rfl⟩ := hrel
          by_cases hlt : i < len1
          · rcases hT with h0 | ⟨b, o, rfl, hb, hc, hs⟩
            · omega
            · have hc := hc i hlt
              have hs := hs i hlt
              have z : (i : Int) < (len1 : Int) := by omega
              have HI : Hid (i + gk = len1) := hi
              unfold maxLen at hs
              clear hi
              go_wp2
              all_goals first
                | (go_ret; exact ⟨_, rfl, rfl⟩)
                | (go_roundg (len1 - (i + 1))
                   case measure => have := HI.out; omega
                   case rel => exact ⟨i + 1, _, by omega, by go_num, rfl, rfl⟩)
          · clear hi
            go_wp2
            go_ret
            exact ⟨_, rfl, rfl⟩
      · go_enter Try.func7, Try.ntmps7
        go_wp2
        go_ret
        exact ⟨_, rfl, rfl⟩
    · go_enter Try.func7, Try.ntmps7
      go_wp2
      go_ret
      exact ⟨_, rfl, rfl⟩
  · go_enter Try.func7, Try.ntmps7
    go_wp2
    go_ret
    exact ⟨_, rfl, rfl⟩

theorem bytes4 (w : World) (a0 a1 : Option Addr) (len0 cap0 len1 cap1 : Nat) (T : Nat → ByteArray) (hl0 : len0 ≤ maxLen) (hl1 : len1 ≤ maxLen) (hT : StrRow w a1 len1 T) :
    Calls Try.prog 11 #[.slice a0 len0 cap0, .slice a1 len1 cap1] w fun ex w' => ∃ b, ex = .returned (.bool b) ∧ w' = w := by
  unfold maxLen at hl0 hl1
  by_cases g1 : len0 ≤ 1048576
  · by_cases g2 : len1 ≤ 1048576
    · by_cases g3 : len0 + len1 ≤ 1048576
      · go_enter Try.func11, Try.ntmps11
        go_wp2
        go_loopg [5, 6] len1 (fun g s5 s6 wr => ∃ (i : Nat) (x : Int), i + g = len1 ∧ s6 = .int .i64 i ∧ s5 = .int .i64 x ∧ wr = w)
        case atStart => exact ⟨0, _, Nat.zero_add _, rfl, rfl, rfl⟩
        case round =>
          obtain ⟨i, x, hi, rfl, rfl, rfl⟩ := hrel
          by_cases hlt : i < len1
          · rcases hT with h0 | ⟨b, o, rfl, hb, hc, hs⟩
            · omega
            · have hc := hc i hlt
              have hs := hs i hlt
              have z : (i : Int) < (len1 : Int) := by omega
              have HI : Hid (i + gk = len1) := hi
              unfold maxLen at hs
              clear hi
              go_wp2
              all_goals first
                | (go_ret; exact ⟨_, rfl, rfl⟩)
                | (go_roundg (len1 - (i + 1))
                   case measure => have := HI.out; omega
                   case rel => exact ⟨i + 1, _, by omega, by go_num, rfl, rfl⟩)
          · clear hi
            go_wp2
            go_ret
            exact ⟨_, rfl, rfl⟩
      · go_enter Try.func11, Try.ntmps11
        go_wp2
        go_ret
        exact ⟨_, rfl, rfl⟩
    · go_enter Try.func11, Try.ntmps11
      go_wp2
      go_ret
      exact ⟨_, rfl, rfl⟩
  · go_enter Try.func11, Try.ntmps11
    go_wp2
    go_ret
    exact ⟨_, rfl, rfl⟩

theorem fits (w : World) (a0 a1 : Option Addr) (len0 cap0 len1 cap1 : Nat) (T : Nat → ByteArray) (hl0 : len0 ≤ maxLen) (hl1 : len1 ≤ maxLen) (hT : StrRow w a1 len1 T) :
    Calls Try.prog 8 #[.slice a0 len0 cap0, .slice a1 len1 cap1] w fun ex w' => ∃ b, ex = .returned (.bool b) ∧ w' = w ∧ (b = true → len0 ≤ 4096 ∧ len1 ≤ 4096) := by
  unfold maxLen at hl0 hl1
  by_cases g1 : len0 ≤ 4096
  · by_cases g2 : len1 ≤ 4096
    · go_enter Try.func8, Try.ntmps8
      go_wp2
      go_loopg [5, 6] len1 (fun g s5 s6 wr => ∃ (i : Nat) (x : Int), i + g = len1 ∧ s6 = .int .i64 i ∧ s5 = .int .i64 x ∧ wr = w)
      case atStart => exact ⟨0, _, Nat.zero_add _, rfl, rfl, rfl⟩
      case round =>
        obtain ⟨i, x, hi, rfl, rfl, rfl⟩ := hrel
        by_cases hlt : i < len1
        · rcases hT with h0 | ⟨b, o, rfl, hb, hc, hs⟩
          · omega
          · have hc := hc i hlt
            have hs := hs i hlt
            have z : (i : Int) < (len1 : Int) := by omega
            have HI : Hid (i + gk = len1) := hi
            unfold maxLen at hs
            clear hi
            go_wp2
            all_goals first
              | (go_ret; exact ⟨_, rfl, rfl, fun _ => ⟨g1, g2⟩⟩)
              | (go_roundg (len1 - (i + 1))
                 case measure => have := HI.out; omega
                 case rel => exact ⟨i + 1, _, by omega, by go_num, rfl, rfl⟩)
        · clear hi
          go_wp2
          go_ret
          exact ⟨_, rfl, rfl, fun _ => ⟨g1, g2⟩⟩
    · go_enter Try.func8, Try.ntmps8
      go_wp2
      go_ret
      exact ⟨_, rfl, rfl, fun h => by cases h⟩
  · go_enter Try.func8, Try.ntmps8
    go_wp2
    go_ret
    exact ⟨rfl, rfl⟩
end Go.Proofs.Qxb6605261a.Pc
