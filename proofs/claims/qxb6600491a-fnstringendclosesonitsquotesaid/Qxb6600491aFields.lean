import Derived.Test.Qxb6600491aRows
import Derived.WalkKit
import Derived.ProofKit
import Derived.Below
import Derived.Deep.QuietTactic
import Derived.BigQuiet
import Derived.Deep.LoopGhost
import Derived.WalkSmall
import Derived.Laws.MakeOwn
import Derived.WalkLawsBesides
namespace Go.Proofs.Qxb6600491a.Fd
open Go.RowKit

/-- What is known of a slice of strings: it is empty, or its cells lie at a plain address. -/
def StrRow (w : World) (a : Option Addr) (len : Nat) (T : Nat → ByteArray) : Prop :=
  len = 0 ∨ ∃ b o, a = some ⟨b, o, none⟩ ∧ b < w.heap.size ∧ (∀ i, i < len → w.cell? ⟨b, o + i, none⟩ = some (.string (T i))) ∧ ∀ i, i < len → (T i).size ≤ maxLen

theorem StrRow.below {w w' : World} {a : Option Addr} {len : Nat} {T : Nat → ByteArray} (h : StrRow w a len T) (hb : Below w.heap.size w w') : StrRow w' a len T := by
  rcases h with h | ⟨b, o, e, hlt, hc, hs⟩
  · exact Or.inl h
  · exact Or.inr ⟨b, o, e, Nat.lt_of_lt_of_le hlt hb.size, fun i hi => (hb.cell (p := ⟨b, o + i, none⟩) hlt).trans (hc i hi), hs⟩

theorem StrRow.small {w : World} {a : Option Addr} {len : Nat} {T : Nat → ByteArray} (h : StrRow w a len T) : ∀ i, i < len → (T i).size ≤ maxLen := by
  rcases h with h | ⟨_, _, _, _, _, hs⟩
  · intro i hi; omega
  · exact hs

theorem str_eq {a b : ByteArray} (h : a = b) : (a.toList == b.toList) = true := by rw [h]; simp
theorem str_ne {a b : ByteArray} (h : a ≠ b) : (a.toList == b.toList) = false := by
  rw [beq_eq_false_iff_ne]
  intro e
  rw [Go.ByteArray.toList_eq, Go.ByteArray.toList_eq] at e
  exact h (ByteArray.ext (Array.toList_inj.1 e))

/-- The two lists are one. -/
def Same (len0 : Nat) (T0 : Nat → ByteArray) (len1 : Nat) (T1 : Nat → ByteArray) : Prop := len0 = len1 ∧ ∀ i, i < len0 → T0 i = T1 i

set_option maxHeartbeats 400000 in
theorem same_walk (w : World) (a0 a1 : Option Addr) (len0 cap0 len1 cap1 : Nat) (T0 T1 : Nat → ByteArray) (h0 : StrRow w a0 len0 T0) (h1 : StrRow w a1 len1 T1) (l0 : len0 ≤ 65536) (l1 : len1 ≤ 65536) :
    Calls Try.prog 28 #[.slice a0 len0 cap0, .slice a1 len1 cap1] w fun e w' => ∃ b, e = .returned (.bool b) ∧ (b = true ↔ Same len0 T0 len1 T1) ∧ ∃ m, w' = w.drewN m := by
  by_cases hl : len0 = len1
  · subst hl
    go_enter Try.func28, Try.ntmps28
    go_wp2
    go_loopg [13] len0 (fun g s13 wr => ∃ k m : Nat, k + g = len0 ∧ s13 = .int .i64 k ∧ (∀ i, i < k → T0 i = T1 i) ∧ wr = w.drewN m)
    case atStart => exact ⟨0, 0, Nat.zero_add _, rfl, fun i hi => absurd hi (Nat.not_lt_zero _), rfl⟩
    case round =>
      obtain ⟨k, m, hk, rfl, heq, rfl⟩ := hrel
      have HQ : Hid (∀ i, i < k → T0 i = T1 i) := heq
      clear heq
      by_cases hlt : k < len0
      · rcases h0 with h0 | ⟨b0, o0, rfl, hb0, hc0, hs0⟩
        · omega
        rcases h1 with h1 | ⟨b1, o1, rfl, hb1, hc1, hs1⟩
        · omega
        have c0 := hc0 k hlt
        have c1 := hc1 k hlt
        have z : (k : Int) < (len0 : Int) := by omega
        have HK : Hid (k + gk = len0) := hk
        clear hk hc0 hc1 hs0 hs1
        by_cases he : T0 k = T1 k
        · have HE : Hid (T0 k = T1 k) := he
          have he' := str_eq he
          clear he
          go_wp2
          go_quiet (fail)
          go_wp2
          go_roundg (len0 - (k + 1))
          case measure => have := HK.out; omega
          case rel => exact ⟨k + 1, _, by omega, by go_num, fun i hi => by
            by_cases e : i = k
            · rw [e]; exact HE.out
            · exact HQ.out i (by omega), rfl⟩
        · have he' := str_ne he
          have HE : Hid (T0 k ≠ T1 k) := he
          clear he
          go_wp2
          go_quiet (fail)
          go_wp2
          go_ret
          exact ⟨false, rfl, ⟨fun h => absurd h (by decide), fun h => absurd (h.2 k hlt) HE.out⟩, m + nq, by simp [World.drewN_drewN]⟩
      · have e : k = len0 := by omega
        have HE : Hid (Same len0 T0 len0 T1) := ⟨rfl, fun i hi => HQ.out i (by omega)⟩
        clear hk
        go_wp2
        go_ret
        exact ⟨true, rfl, ⟨fun _ => HE.out, fun _ => rfl⟩, _, rfl⟩
  · have hl' : ((len0 : Int) == (len1 : Int)) = false := by simpa using fun h : (len0 : Int) = (len1 : Int) => hl (by omega)
    have HL : Hid (len0 ≠ len1) := hl
    clear hl
    go_enter Try.func28, Try.ntmps28
    go_wp2
    go_ret
    exact ⟨false, rfl, ⟨fun h => absurd h (by decide), fun h => absurd h.1 HL.out⟩, 0, rfl⟩

theorem zzsame_walk (w : World) (a0 a1 : Option Addr) (len0 cap0 len1 cap1 : Nat) (T0 T1 : Nat → ByteArray) (h0 : StrRow w a0 len0 T0) (h1 : StrRow w a1 len1 T1) (l0 : len0 ≤ 65536) (l1 : len1 ≤ 65536) :
    Calls Try.prog 20 #[.slice a0 len0 cap0, .slice a1 len1 cap1] w fun e w' => ∃ b, e = .returned (.bool b) ∧ (b = true ↔ Same len0 T0 len1 T1) ∧ ∃ m, w' = w.drewN m := by
  go_enter Try.func20, Try.ntmps20
  go_wp2_with fail
  refine (same_walk w a0 a1 len0 cap0 len1 cap1 T0 T1 h0 h1 l0 l1).mono ?_
  rintro e w' ⟨b, rfl, hb, m, rfl⟩
  have HB : Hid (b = true ↔ Same len0 T0 len1 T1) := hb
  clear hb
  go_wp2
  go_ret
  exact ⟨b, rfl, HB.out, m, rfl⟩

theorem info9 : (Try.prog.info? 9).map (fun i => (i.zero, i.size, i.bytes)) = some (some (.string ByteArray.empty), 1, 16) := by kernel_rfl

/-- 'make([]string, n)'. -/
theorem make_run (w : World) (n : Nat) (h : n ≤ 65536) : ∃ C : Array Value, C.size = n ∧ (∀ i, i < n → ∃ x, C[i]? = some x) ∧
    (Instr.makeSlice 27 (.int .i64 n) (.int .i64 n)).run Try.prog w = .ok (.slice (some ⟨w.heap.size, 0, none⟩) n n) (w.alloc (.cells C 9)) := by
  obtain ⟨i, hi, hx⟩ := Option.map_eq_some_iff.1 info9
  simp only [Prod.mk.injEq] at hx
  obtain ⟨hz, hsz, hby⟩ := hx
  have hr := run_make (P := Try.prog) w 27 9 i _ Try.underlying27 hi hz .i64 .i64 n n (by omega) (Int.le_refl _) (by rw [hby]; omega) (by omega)
  simp only [Int.toNat_natCast, hsz, Nat.mul_one] at hr
  refine ⟨_, size_madeCells _ n, fun i hi => ?_, hr⟩
  have : i < (madeCells (Value.string ByteArray.empty).cells n).size := by rw [size_madeCells]; exact hi
  exact ⟨_, Array.getElem?_eq_getElem this⟩

/-- A new row that holds the first k strings. -/
def Filled (C : Array Value) (len k : Nat) (T : Nat → ByteArray) : Prop := C.size = len ∧ (∀ i, i < len → ∃ x, C[i]? = some x) ∧ ∀ i, i < k → C[i]? = some (.string (T i))

theorem Filled.next {C : Array Value} {len k : Nat} {T : Nat → ByteArray} (h : Filled C len k T) (hk : k < len) : Filled (C.setIfInBounds k (.string (T k))) len (k + 1) T := by
  obtain ⟨h1, h2, h3⟩ := h
  refine ⟨by simpa using h1, fun i hi => ?_, fun i hi => ?_⟩
  · have : i < (C.setIfInBounds k (.string (T k))).size := by simp; omega
    exact ⟨_, Array.getElem?_eq_getElem this⟩
  · by_cases e : i = k
    · subst e; simp [h1, hk]
    · rw [Array.getElem?_setIfInBounds_ne (Ne.symm e)]
      exact h3 i (by omega)

theorem Filled.row {C : Array Value} {len : Nat} {T : Nat → ByteArray} (h : Filled C len len T) (w : World) (hs : ∀ i, i < len → (T i).size ≤ maxLen) : StrRow (w.alloc (.cells C 9)) (some ⟨w.heap.size, 0, none⟩) len T := by
  refine Or.inr ⟨w.heap.size, 0, rfl, by simp, fun i hi => ?_, hs⟩
  have := h.2.2 i hi
  simp [go_sem, this]

/-- What a copy leaves. -/
def Copied (w : World) (len : Nat) (T : Nat → ByteArray) (e : Ending) (w' : World) : Prop := ∃ a' cap', e = .returned (.slice a' len cap') ∧ StrRow w' a' len T ∧ (a' = none → len = 0) ∧ Below w.heap.size w w'

set_option maxHeartbeats 400000 in
theorem fresh_walk (w : World) (a : Option Addr) (len cap : Nat) (T : Nat → ByteArray) (h : StrRow w a len T) (l : len ≤ 65536) :
    Calls Try.prog 24 #[.slice a len cap] w fun e w' => Copied w len T e w' := by
  obtain ⟨C0, hC, hC', hmk⟩ := make_run w len l
  have hF : Filled C0 len 0 T := ⟨hC, hC', fun i hi => absurd hi (Nat.not_lt_zero _)⟩
  clear hC hC'
  go_enter Try.func24, Try.ntmps24
  go_wp2
  clear hmk
  go_loopg [4] len (fun g s4 wr => ∃ (k : Nat) (C : Array Value), k + g = len ∧ s4 = .int .i64 k ∧ Filled C len k T ∧ wr = w.alloc (.cells C 9))
  case atStart => exact ⟨0, C0, Nat.zero_add _, rfl, hF, rfl⟩
  case round =>
    obtain ⟨k, C, hk, rfl, hf, rfl⟩ := hrel
    by_cases hlt : k < len
    · rcases h with h | ⟨b, o, rfl, hb, hc, hs⟩
      · omega
      have c := hc k hlt
      obtain ⟨x, hx⟩ := hf.2.1 k hlt
      have hsz : k < C.size := by rw [hf.1]; exact hlt
      have z : (k : Int) < (len : Int) := by omega
      have HK : Hid (k + gk = len) := hk
      have F2 := hf.next hlt
      clear hk hc hf hF
      go_wp2
      go_roundg (len - (k + 1))
      case measure => have := HK.out; omega
      case rel => exact ⟨k + 1, _, by omega, by go_num, F2, rfl⟩
    · have e : k = len := by omega
      have HR : Hid (StrRow (w.alloc (.cells C 9)) (some ⟨w.heap.size, 0, none⟩) len T) := Filled.row (by rw [e] at hf; exact hf) w h.small
      clear hk hf e hF
      go_wp2
      go_ret
      exact ⟨_, _, rfl, HR.out, (fun h => by cases h), (Below.refl _ _).alloc (Nat.le_refl _) _⟩

theorem eql_nil (w : World) (a : Option Addr) (l c : Nat) : (binOp .eql 27 (.slice a l c) (.slice none 0 0)).run Try.prog w = .ok (.bool a.isNone) w := by
  simp [binOp, run_equal_slice_nil w 27 9 a l c Try.underlying27, Result.andThen]

set_option maxHeartbeats 400000 in
theorem clone_walk (w : World) (a : Option Addr) (len cap : Nat) (T : Nat → ByteArray) (h : StrRow w a len T) (l : len ≤ 65536) (hnil : a = none → len = 0) :
    Calls Try.prog 19 #[.slice a len cap] w fun e w' => Copied w len T e w' := by
  cases a with
  | none =>
    have := hnil rfl
    subst this
    have he := eql_nil w none 0 cap
    go_enter Try.func19, Try.ntmps19
    go_wp2
    go_ret
    exact ⟨_, _, rfl, Or.inl rfl, fun _ => rfl, Below.refl _ _⟩
  | some ad =>
    obtain ⟨C0, hC, hC', hmk⟩ := make_run w len l
    have hF : Filled C0 len 0 T := ⟨hC, hC', fun i hi => absurd hi (Nat.not_lt_zero _)⟩
    clear hC hC'
    have he := eql_nil w (some ad) len cap
    go_enter Try.func19, Try.ntmps19
    go_wp2
    clear hmk he
    go_loopg [4] len (fun g s4 wr => ∃ (k : Nat) (C : Array Value), k + g = len ∧ s4 = .int .i64 k ∧ Filled C len k T ∧ wr = w.alloc (.cells C 9))
    case atStart => exact ⟨0, C0, Nat.zero_add _, rfl, hF, rfl⟩
    case round =>
      obtain ⟨k, C, hk, rfl, hf, rfl⟩ := hrel
      by_cases hlt : k < len
      · rcases h with h | ⟨b, o, e, hb, hc, hs⟩
        · omega
        cases e
        have c := hc k hlt
        obtain ⟨x, hx⟩ := hf.2.1 k hlt
        have hsz : k < C.size := by rw [hf.1]; exact hlt
        have z : (k : Int) < (len : Int) := by omega
        have HK : Hid (k + gk = len) := hk
        have F2 := hf.next hlt
        clear hk hc hf hF
        go_wp2
        go_roundg (len - (k + 1))
        case measure => have := HK.out; omega
        case rel => exact ⟨k + 1, _, by omega, by go_num, F2, rfl⟩
      · have e : k = len := by omega
        have HR : Hid (StrRow (w.alloc (.cells C 9)) (some ⟨w.heap.size, 0, none⟩) len T) := Filled.row (by rw [e] at hf; exact hf) w h.small
        clear hk hf e hF
        go_wp2
        go_ret
        exact ⟨_, _, rfl, HR.out, (fun h => by cases h), (Below.refl _ _).alloc (Nat.le_refl _) _⟩
end Go.Proofs.Qxb6600491a.Fd
