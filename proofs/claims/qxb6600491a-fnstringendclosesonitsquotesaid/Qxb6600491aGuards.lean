import Derived.Test.Qxb6600491aFields
namespace Go.Proofs.Qxb6600491a.Fd
open Go.RowKit

/-- It answers, and nothing turns. -/
def SomeBool (w : World) (e : Ending) (w' : World) : Prop := ∃ b, e = .returned (.bool b) ∧ w' = w

set_option maxHeartbeats 1000000 in
theorem bytes17 (w : World) (a0 : Option Addr) (len0 cap0 : Nat) (T0 : Nat → ByteArray) (a1 : Option Addr) (len1 cap1 : Nat) (T1 : Nat → ByteArray) (l0 : len0 ≤ maxLen) (h0 : StrRow w a0 len0 T0) (l1 : len1 ≤ maxLen) (h1 : StrRow w a1 len1 T1) :
    Calls Try.prog 17 #[.slice a0 len0 cap0, .slice a1 len1 cap1] w fun e w' => SomeBool w e w' := by
  unfold maxLen at l0 l1
  go_enter Try.func17, Try.ntmps17
  go_wp2
  all_goals first
    | (go_ret; exact ⟨_, rfl, rfl⟩)
    | skip
  go_loopg [5, 6] len0 (fun g s5 s6 wr => ∃ (i : Nat) (x : Int), i + g = len0 ∧ s6 = .int .i64 i ∧ s5 = .int .i64 x ∧ w = wr)
  case atStart => exact ⟨0, _, Nat.zero_add _, rfl, rfl, rfl⟩
  case round =>
    obtain ⟨i, x, hi, rfl, rfl, rfl⟩ := hrel
    by_cases hlt : i < len0
    · rcases h0 with h | ⟨b, o, rfl, hb, hc, hs⟩
      · omega
      have hc := hc i hlt
      have hs := hs i hlt
      have z : (i : Int) < (len0 : Int) := by omega
      have HI : Hid (i + gk = len0) := hi
      unfold maxLen at hs
      clear hi
      go_wp2
      all_goals first
        | (go_ret; exact ⟨_, rfl, rfl⟩)
        | (go_roundg (len0 - (i + 1))
           case measure => have := HI.out; omega
           case rel => exact ⟨i + 1, _, by omega, by go_num, rfl, rfl⟩)
    · clear hi
      go_wp2
      all_goals first
        | (go_ret; exact ⟨_, rfl, rfl⟩)
        | skip
      go_loopg [5, 7] len1 (fun g s5 s6 wr => ∃ (i : Nat) (x : Int), i + g = len1 ∧ s6 = .int .i64 i ∧ s5 = .int .i64 x ∧ w = wr)
      case atStart => exact ⟨0, _, Nat.zero_add _, rfl, rfl, rfl⟩
      case round =>
        obtain ⟨i, x, hi, rfl, rfl, rfl⟩ := hrel
        by_cases hlt : i < len1
        · rcases h1 with h | ⟨b, o, rfl, hb, hc, hs⟩
          · omega
          have hc := hc i hlt
          have hs := hs i hlt
          have z : (i : Int) < (len1 : Int) := by omega
          have HI : Hid (i + gk = len1) := hi
          unfold maxLen at hs
          clear hi
          go_wp2
          all_goals first
            | (go_ret; exact ⟨_, rfl, rfl⟩)
            | (go_roundg (len1 - (i + 1))
               case measure => have := HI.out; omega
               case rel => exact ⟨i + 1, _, by omega, by go_num, rfl, rfl⟩)
        · clear hi
          go_wp2
          go_ret
          exact ⟨_, rfl, rfl⟩

set_option maxHeartbeats 1000000 in
theorem bytes23 (w : World) (a0 : Option Addr) (len0 cap0 : Nat) (T0 : Nat → ByteArray) (a1 : Option Addr) (len1 cap1 : Nat) (T1 : Nat → ByteArray) (a2 : Option Addr) (len2 cap2 : Nat) (T2 : Nat → ByteArray) (l0 : len0 ≤ maxLen) (h0 : StrRow w a0 len0 T0) (l1 : len1 ≤ maxLen) (h1 : StrRow w a1 len1 T1) (l2 : len2 ≤ maxLen) (h2 : StrRow w a2 len2 T2) :
    Calls Try.prog 23 #[.slice a0 len0 cap0, .slice a1 len1 cap1, .slice a2 len2 cap2] w fun e w' => SomeBool w e w' := by
  unfold maxLen at l0 l1 l2
  go_enter Try.func23, Try.ntmps23
  go_wp2
  all_goals first
    | (go_ret; exact ⟨_, rfl, rfl⟩)
    | skip
  go_loopg [7, 8] len0 (fun g s5 s6 wr => ∃ (i : Nat) (x : Int), i + g = len0 ∧ s6 = .int .i64 i ∧ s5 = .int .i64 x ∧ w = wr)
  case atStart => exact ⟨0, _, Nat.zero_add _, rfl, rfl, rfl⟩
  case round =>
    obtain ⟨i, x, hi, rfl, rfl, rfl⟩ := hrel
    by_cases hlt : i < len0
    · rcases h0 with h | ⟨b, o, rfl, hb, hc, hs⟩
      · omega
      have hc := hc i hlt
      have hs := hs i hlt
      have z : (i : Int) < (len0 : Int) := by omega
      have HI : Hid (i + gk = len0) := hi
      unfold maxLen at hs
      clear hi
      go_wp2
      all_goals first
        | (go_ret; exact ⟨_, rfl, rfl⟩)
        | (go_roundg (len0 - (i + 1))
           case measure => have := HI.out; omega
           case rel => exact ⟨i + 1, _, by omega, by go_num, rfl, rfl⟩)
    · clear hi
      go_wp2
      all_goals first
        | (go_ret; exact ⟨_, rfl, rfl⟩)
        | skip
      go_loopg [7, 9] len1 (fun g s5 s6 wr => ∃ (i : Nat) (x : Int), i + g = len1 ∧ s6 = .int .i64 i ∧ s5 = .int .i64 x ∧ w = wr)
      case atStart => exact ⟨0, _, Nat.zero_add _, rfl, rfl, rfl⟩
      case round =>
        obtain ⟨i, x, hi, rfl, rfl, rfl⟩ := hrel
        by_cases hlt : i < len1
        · rcases h1 with h | ⟨b, o, rfl, hb, hc, hs⟩
          · omega
          have hc := hc i hlt
          have hs := hs i hlt
          have z : (i : Int) < (len1 : Int) := by omega
          have HI : Hid (i + gk = len1) := hi
          unfold maxLen at hs
          clear hi
          go_wp2
          all_goals first
            | (go_ret; exact ⟨_, rfl, rfl⟩)
            | (go_roundg (len1 - (i + 1))
               case measure => have := HI.out; omega
               case rel => exact ⟨i + 1, _, by omega, by go_num, rfl, rfl⟩)
        · clear hi
          go_wp2
          all_goals first
            | (go_ret; exact ⟨_, rfl, rfl⟩)
            | skip
          go_loopg [7, 10] len2 (fun g s5 s6 wr => ∃ (i : Nat) (x : Int), i + g = len2 ∧ s6 = .int .i64 i ∧ s5 = .int .i64 x ∧ w = wr)
          case atStart => exact ⟨0, _, Nat.zero_add _, rfl, rfl, rfl⟩
          case round =>
            obtain ⟨i, x, hi, rfl, rfl, rfl⟩ := hrel
            by_cases hlt : i < len2
            · rcases h2 with h | ⟨b, o, rfl, hb, hc, hs⟩
              · omega
              have hc := hc i hlt
              have hs := hs i hlt
              have z : (i : Int) < (len2 : Int) := by omega
              have HI : Hid (i + gk = len2) := hi
              unfold maxLen at hs
              clear hi
              go_wp2
              all_goals first
                | (go_ret; exact ⟨_, rfl, rfl⟩)
                | (go_roundg (len2 - (i + 1))
                   case measure => have := HI.out; omega
                   case rel => exact ⟨i + 1, _, by omega, by go_num, rfl, rfl⟩)
            · clear hi
              go_wp2
              go_ret
              exact ⟨_, rfl, rfl⟩

/-- The bytes of the first k strings. -/
def sumSz (T : Nat → ByteArray) : Nat → Nat
  | 0 => 0
  | k + 1 => sumSz T k + (T k).size

/-- What 'zzSize' answers. -/
def Sized (w : World) (len : Nat) (T : Nat → ByteArray) (e : Ending) (w' : World) : Prop :=
  ∃ x : Nat, e = .returned (.int .i64 x) ∧ w' = w ∧ x ≤ 2097152 ∧ (x ≤ 1048576 → 16 * len + sumSz T len = x)

set_option maxHeartbeats 400000 in
theorem size_walk (w : World) (a : Option Addr) (len cap : Nat) (T : Nat → ByteArray) (h : StrRow w a len T) (l : len ≤ 65536) :
    Calls Try.prog 18 #[.slice a len cap] w fun e w' => Sized w len T e w' := by
  go_enter Try.func18, Try.ntmps18
  go_wp2
  go_loopg [3, 4] len (fun g s3 s4 wr => ∃ k : Nat, k + g = len ∧ s4 = .int .i64 k ∧ s3 = .int .i64 ((16 * len + sumSz T k : Nat) : Int) ∧ 16 * len + sumSz T k ≤ 1048576 ∧ wr = w)
  case atStart => exact ⟨0, Nat.zero_add _, rfl, rfl, by simp only [sumSz]; omega, rfl⟩
  case round =>
    obtain ⟨k, hk, rfl, rfl, hle, rfl⟩ := hrel
    by_cases hlt : k < len
    · rcases h with h | ⟨b, o, rfl, hb, hc, hs⟩
      · omega
      have c := hc k hlt
      have z : (k : Int) < (len : Int) := by omega
      have HK : Hid (k + gk = len) := hk
      by_cases g1 : (T k).size ≤ 1048576
      · by_cases g2 : 16 * len + sumSz T k + (T k).size ≤ 1048576
        · have HN : Hid (16 * len + sumSz T (k + 1) ≤ 1048576) := by unfold Hid; simp only [sumSz]; omega
          have HV : Hid (((16 * len + sumSz T k : Nat) : Int) + ((T k).size : Int) = ((16 * len + sumSz T (k + 1) : Nat) : Int)) := by unfold Hid; simp only [sumSz]; omega
          clear hk hc hs
          go_wp2
          go_roundg (len - (k + 1))
          case measure => have := HK.out; omega
          case rel => exact ⟨k + 1, by omega, by go_num, by rw [← HV.out]; go_num, HN.out, rfl⟩
        · clear hk hc hs
          go_wp2
          go_ret
          exact ⟨2097152, rfl, rfl, Nat.le_refl _, fun h => absurd h (by decide)⟩
      · clear hk hc hs
        go_wp2
        go_ret
        exact ⟨2097152, rfl, rfl, Nat.le_refl _, fun h => absurd h (by decide)⟩
    · have e : k = len := by omega
      have HV : Hid (16 * len + sumSz T k = 16 * len + sumSz T len) := by unfold Hid; rw [e]
      clear hk e
      go_wp2
      go_ret
      exact ⟨16 * len + sumSz T k, rfl, rfl, by omega, fun _ => HV.out.symm⟩
end Go.Proofs.Qxb6600491a.Fd
