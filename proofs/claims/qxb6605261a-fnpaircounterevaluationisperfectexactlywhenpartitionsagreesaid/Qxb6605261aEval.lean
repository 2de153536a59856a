import Derived.Test.Qxb6605261aRows
import Derived.WalkKit
import Derived.ProofKit
import Derived.OpenShut
import Derived.Laws.FloatArith
import Derived.Below
namespace Go.Proofs.Qxb6605261a.Ev
open Go.RowKit

/-- What 'ratio(n, d)' gives. -/
def RatioIs (n d : Int) (r : Nat) : Prop := (d = 0 ∧ r = 4607182418800017408) ∨ ((d == 0) = false ∧ floatBits .quo .f64 (floatOfInt .f64 n) (floatOfInt .f64 d) = some r)

theorem ratio_any (n d : Int) (r : Nat) (w : World) (h : RatioIs n d r) :
    Calls Try.prog 21 #[.int .i64 n, .int .i64 d] w fun e w' => e = .returned (.float .f64 r) ∧ w' = w := by
  rcases h with ⟨rfl, rfl⟩ | ⟨hd, hq⟩
  · go_enter Try.func21, Try.ntmps21
    go_wp2
    go_ret
    exact ⟨rfl, rfl⟩
  · have hop : ∀ t w, (binOp .quo t (.float .f64 (floatOfInt .f64 n)) (.float .f64 (floatOfInt .f64 d))).run Try.prog w = .ok (.float .f64 r) w := fun t w => run_float_arith w .quo t .f64 _ _ r hq
    go_enter Try.func21, Try.ntmps21
    go_wp2
    go_ret
    exact ⟨rfl, rfl⟩

theorem unary_neg_float (x : Nat) : Op.unary .neg (.float .f64 x) = pure (.float .f64 (x ^^^ 2 ^ 63)) := rfl
attribute [local go_sem] unary_neg_float
theorem abs_neg (x : Nat) (w : World) (h : (FloatKind.f64.format.order x 0 == some .lt) = true) :
    Calls Try.prog 19 #[.float .f64 x] w fun e w' => e = .returned (.float .f64 (x ^^^ 2 ^ 63)) ∧ w' = w := by
  go_enter Try.func19, Try.ntmps19
  go_wp2
  go_ret
  exact ⟨rfl, rfl⟩
theorem abs_pos (x : Nat) (w : World) (h : (FloatKind.f64.format.order x 0 == some .lt) = false) :
    Calls Try.prog 19 #[.float .f64 x] w fun e w' => e = .returned (.float .f64 x) ∧ w' = w := by
  go_enter Try.func19, Try.ntmps19
  go_wp2
  go_ret
  exact ⟨rfl, rfl⟩
theorem run_store_float {P : Program} (w : World) (a : Addr) (m : Mode) (k : FloatKind) (b : Nat) : (store a (.float k b) m).run P w = stored P w a (.float k b) m := run_store P w a _ m rfl
attribute [local go_sem] run_store_float

/-- What a call of 'newEvaluation' leaves: the evaluation, and two new blocks that hold it. -/
def EvalIs (rec pt pf tp : Int) (P Q f : Nat) : Prop := ∀ w : World,
    Calls Try.prog 18 #[.int .i64 rec, .int .i64 pt, .int .i64 pf, .int .i64 tp] w fun e w' =>
      e = .returned (.agg #[.int .i64 rec, .int .i64 pt, .int .i64 pf, .int .i64 tp, .float .f64 P, .float .f64 Q, .float .f64 f]) ∧ w' = (w.alloc (.cells #[.int .i64 rec, .int .i64 pt, .int .i64 pf, .int .i64 tp, .float .f64 P, .float .f64 Q, .float .f64 f] 31)).alloc (.cells #[.int .i64 rec, .int .i64 pt, .int .i64 pf, .int .i64 tp, .float .f64 P, .float .f64 Q, .float .f64 f] 31)

theorem eval_some (rec pt pf tp : Int) (P Q S A2 A f : Nat) (hP : RatioIs tp pf P) (hQ : RatioIs tp pt Q)
    (hS : floatBits .add .f64 P Q = some S) (hg : (FloatKind.f64.format.order S 0 == some .gt) = true)
    (hA2 : floatBits .mul .f64 4611686018427387904 P = some A2) (hA : floatBits .mul .f64 A2 Q = some A) (hf : floatBits .quo .f64 A S = some f) : EvalIs rec pt pf tp P Q f := by
  intro w
  have o1 : ∀ t w, (binOp .add t (.float .f64 P) (.float .f64 Q)).run Try.prog w = .ok (.float .f64 S) w := fun t w => run_float_arith w .add t .f64 _ _ _ hS
  have o2 : ∀ t w, (binOp .mul t (.float .f64 4611686018427387904) (.float .f64 P)).run Try.prog w = .ok (.float .f64 A2) w := fun t w => run_float_arith w .mul t .f64 _ _ _ hA2
  have o3 : ∀ t w, (binOp .mul t (.float .f64 A2) (.float .f64 Q)).run Try.prog w = .ok (.float .f64 A) w := fun t w => run_float_arith w .mul t .f64 _ _ _ hA
  have o4 : ∀ t w, (binOp .quo t (.float .f64 A) (.float .f64 S)).run Try.prog w = .ok (.float .f64 f) w := fun t w => run_float_arith w .quo t .f64 _ _ _ hf
  clear hS hA2 hA hf
  go_enter Try.func18, Try.ntmps18
  go_wp2_with fail
  refine (ratio_any _ _ _ _ hP).mono ?_
  rintro e w' ⟨rfl, rfl⟩
  go_wp2_with fail
  refine (ratio_any _ _ _ _ hQ).mono ?_
  rintro e w' ⟨rfl, rfl⟩
  go_wp2
  exact bodyPost_ret (v := .agg #[Value.int .i64 rec, .int .i64 pt, .int .i64 pf, .int .i64 tp, .float .f64 P, .float .f64 Q, .float .f64 f]) (by simp [results, Try.results18, go_sem]) rfl ⟨rfl, rfl⟩

/-- Precision and recall are both 0: F1 stays 0. -/
theorem eval_none (rec pt pf tp : Int) (hP : RatioIs tp pf 0) (hQ : RatioIs tp pt 0) : EvalIs rec pt pf tp 0 0 0 := by
  intro w
  have hS : floatBits .add .f64 0 0 = some 0 := by decide
  have o1 : ∀ t w, (binOp .add t (.float .f64 0) (.float .f64 0)).run Try.prog w = .ok (.float .f64 0) w := fun t w => run_float_arith w .add t .f64 _ _ _ hS
  have hg : (FloatKind.f64.format.order 0 0 == some .gt) = false := by decide
  clear hS
  go_enter Try.func18, Try.ntmps18
  go_wp2_with fail
  refine (ratio_any _ _ _ _ hP).mono ?_
  rintro e w' ⟨rfl, rfl⟩
  go_wp2_with fail
  refine (ratio_any _ _ _ _ hQ).mono ?_
  rintro e w' ⟨rfl, rfl⟩
  go_wp2
  exact bodyPost_ret (v := .agg #[Value.int .i64 rec, .int .i64 pt, .int .i64 pf, .int .i64 tp, .float .f64 0, .float .f64 0, .float .f64 0]) (by simp [results, Try.results18, go_sem]) rfl ⟨rfl, rfl⟩

/-- 'ZZNewEvaluation': the same, one block more. -/
theorem zz_eval (rec pt pf tp : Int) (P Q f : Nat) (w : World) (h : EvalIs rec pt pf tp P Q f) :
    Calls Try.prog 12 #[.int .i64 rec, .int .i64 pt, .int .i64 pf, .int .i64 tp] w fun e w' =>
      e = .returned (.agg #[.int .i64 rec, .int .i64 pt, .int .i64 pf, .int .i64 tp, .float .f64 P, .float .f64 Q, .float .f64 f]) ∧ w' = ((w.alloc (.cells #[.int .i64 rec, .int .i64 pt, .int .i64 pf, .int .i64 tp, .float .f64 P, .float .f64 Q, .float .f64 f] 31)).alloc (.cells #[.int .i64 rec, .int .i64 pt, .int .i64 pf, .int .i64 tp, .float .f64 P, .float .f64 Q, .float .f64 f] 31)).alloc (.cells #[.int .i64 rec, .int .i64 pt, .int .i64 pf, .int .i64 tp, .float .f64 P, .float .f64 Q, .float .f64 f] 31) := by
  go_enter Try.func12, Try.ntmps12
  go_wp2_with fail
  refine (h _).mono ?_
  rintro e w' ⟨rfl, rfl⟩
  go_wp2
  exact bodyPost_ret (v := .agg #[Value.int .i64 rec, .int .i64 pt, .int .i64 pf, .int .i64 tp, .float .f64 P, .float .f64 Q, .float .f64 f]) (by simp [results, Try.results12, go_sem]) rfl ⟨rfl, rfl⟩

theorem ret_true {a : Bool} (h : a = true) : Ending.returned (.bool a) = .returned (.bool true) := by rw [h]

/-- 'ratioMatches(x, n, d)' says yes. -/
def RatioOk (x : Nat) (n d : Int) : Prop := ∀ w : World,
  Calls Try.prog 13 #[.float .f64 x, .int .i64 n, .int .i64 d] w fun e w' => e = .returned (.bool true) ∧ w' = w

theorem ratioOk_d0 (x : Nat) (n : Int) (h : (FloatKind.f64.format.order x 4607182418800017408 == some .eq) = true) : RatioOk x n 0 := by
  intro w
  go_enter Try.func13, Try.ntmps13
  go_wp2
  go_ret
  exact ⟨rfl, rfl⟩
theorem ratioOk_n0 (x : Nat) (d : Int) (hd : (d == 0) = false) (h : (FloatKind.f64.format.order x 0 == some .eq) = true) : RatioOk x 0 d := by
  intro w
  go_enter Try.func13, Try.ntmps13
  go_wp2
  go_ret
  exact ⟨rfl, rfl⟩
theorem ratioOk_same (x : Nat) (d : Int) (hd : (d == 0) = false) (h : (FloatKind.f64.format.order x 4607182418800017408 == some .eq) = true) : RatioOk x d d := by
  intro w
  go_enter Try.func13, Try.ntmps13
  go_wp2
  go_ret
  exact ⟨rfl, rfl⟩
theorem ratioOk_near (x : Nat) (n d : Int) (z s c a : Nat) (hd : (d == 0) = false) (hn : (n == 0) = false) (hnd : (n == d) = false)
    (h1 : floatBits .mul .f64 x (floatOfInt .f64 d) = some z) (h2 : floatBits .sub .f64 z (floatOfInt .f64 n) = some s) (h3 : floatBits .mul .f64 4427486594234968593 (floatOfInt .f64 n) = some c)
    (ha : ((FloatKind.f64.format.order s 0 == some .lt) = true ∧ a = s ^^^ 2 ^ 63) ∨ ((FloatKind.f64.format.order s 0 == some .lt) = false ∧ a = s))
    (h : (FloatKind.f64.format.order a c == some .lt || FloatKind.f64.format.order a c == some .eq) = true) : RatioOk x n d := by
  intro w
  have o1 : ∀ t w, (binOp .mul t (.float .f64 x) (.float .f64 (floatOfInt .f64 d))).run Try.prog w = .ok (.float .f64 z) w := fun t w => run_float_arith w .mul t .f64 _ _ _ h1
  have o2 : ∀ t w, (binOp .sub t (.float .f64 z) (.float .f64 (floatOfInt .f64 n))).run Try.prog w = .ok (.float .f64 s) w := fun t w => run_float_arith w .sub t .f64 _ _ _ h2
  have o3 : ∀ t w, (binOp .mul t (.float .f64 4427486594234968593) (.float .f64 (floatOfInt .f64 n))).run Try.prog w = .ok (.float .f64 c) w := fun t w => run_float_arith w .mul t .f64 _ _ _ h3
  have habs : ∀ w : World, Calls Try.prog 19 #[.float .f64 s] w fun e w' => e = .returned (.float .f64 a) ∧ w' = w := by
    intro w
    rcases ha with ⟨hz, e⟩ | ⟨hz, e⟩
    · rw [e]; exact abs_neg s w hz
    · rw [e]; exact abs_pos s w hz
  have hle : Hid ((FloatKind.f64.format.order a c == some .lt || FloatKind.f64.format.order a c == some .eq) = true) := h
  clear h1 h2 h3 ha h
  go_enter Try.func13, Try.ntmps13
  go_wp2_with fail
  refine (habs _).mono ?_
  rintro e w' ⟨rfl, rfl⟩
  go_wp2
  go_ret
  exact ⟨ret_true hle.out, rfl⟩

/-- 'f1Matches(f, tp, pf, pt)' says yes. -/
def F1Ok (f : Nat) (tp pf pt : Int) : Prop := ∀ w : World,
  Calls Try.prog 14 #[.float .f64 f, .int .i64 tp, .int .i64 pf, .int .i64 pt] w fun e w' => e = .returned (.bool true) ∧ w' = w

theorem f1Ok_none (f : Nat) (tp : Int) (h : (FloatKind.f64.format.order f 4607182418800017408 == some .eq) = true) : F1Ok f tp 0 0 := by
  intro w
  go_enter Try.func14, Try.ntmps14
  go_wp2
  go_ret
  exact ⟨rfl, rfl⟩
theorem f1Ok_zero (f : Nat) (pf pt : Int) (hz : (pf == 0) = false ∨ (pt == 0) = false) (h : (FloatKind.f64.format.order f 0 == some .eq) = true) : F1Ok f 0 pf pt := by
  intro w
  by_cases hp : (pf == 0) = true
  · have hq : (pt == 0) = false := by simpa [hp] using hz
    clear hz
    go_enter Try.func14, Try.ntmps14
    go_wp2
    go_ret
    exact ⟨rfl, rfl⟩
  · have hp' : (pf == 0) = false := by simpa using hp
    clear hz hp
    go_enter Try.func14, Try.ntmps14
    go_wp2
    go_ret
    exact ⟨rfl, rfl⟩
theorem f1Ok_same (f : Nat) (d : Int) (hd : (d == 0) = false) (h : (FloatKind.f64.format.order f 4607182418800017408 == some .eq) = true) : F1Ok f d d d := by
  intro w
  go_enter Try.func14, Try.ntmps14
  go_wp2
  go_ret
  exact ⟨rfl, rfl⟩
theorem f1Ok_near (f : Nat) (tp pf pt : Int) (wnt g got s c a : Nat) (ht : (tp == 0) = false) (hpf : (pf == 0) = false) (hs : (tp == pf) = false ∨ (tp == pt) = false)
    (h1 : floatBits .mul .f64 4611686018427387904 (floatOfInt .f64 tp) = some wnt) (h2 : floatBits .add .f64 (floatOfInt .f64 pf) (floatOfInt .f64 pt) = some g) (h3 : floatBits .mul .f64 f g = some got)
    (h4 : floatBits .sub .f64 got wnt = some s) (h5 : floatBits .mul .f64 4427486594234968593 wnt = some c)
    (ha : ((FloatKind.f64.format.order s 0 == some .lt) = true ∧ a = s ^^^ 2 ^ 63) ∨ ((FloatKind.f64.format.order s 0 == some .lt) = false ∧ a = s))
    (h : (FloatKind.f64.format.order a c == some .lt || FloatKind.f64.format.order a c == some .eq) = true) : F1Ok f tp pf pt := by
  intro w
  have o1 : ∀ t w, (binOp .mul t (.float .f64 4611686018427387904) (.float .f64 (floatOfInt .f64 tp))).run Try.prog w = .ok (.float .f64 wnt) w := fun t w => run_float_arith w .mul t .f64 _ _ _ h1
  have o2 : ∀ t w, (binOp .add t (.float .f64 (floatOfInt .f64 pf)) (.float .f64 (floatOfInt .f64 pt))).run Try.prog w = .ok (.float .f64 g) w := fun t w => run_float_arith w .add t .f64 _ _ _ h2
  have o3 : ∀ t w, (binOp .mul t (.float .f64 f) (.float .f64 g)).run Try.prog w = .ok (.float .f64 got) w := fun t w => run_float_arith w .mul t .f64 _ _ _ h3
  have o4 : ∀ t w, (binOp .sub t (.float .f64 got) (.float .f64 wnt)).run Try.prog w = .ok (.float .f64 s) w := fun t w => run_float_arith w .sub t .f64 _ _ _ h4
  have o5 : ∀ t w, (binOp .mul t (.float .f64 4427486594234968593) (.float .f64 wnt)).run Try.prog w = .ok (.float .f64 c) w := fun t w => run_float_arith w .mul t .f64 _ _ _ h5
  have habs : ∀ w : World, Calls Try.prog 19 #[.float .f64 s] w fun e w' => e = .returned (.float .f64 a) ∧ w' = w := by
    intro w
    rcases ha with ⟨hz, e⟩ | ⟨hz, e⟩
    · rw [e]; exact abs_neg s w hz
    · rw [e]; exact abs_pos s w hz
  have hle : Hid ((FloatKind.f64.format.order a c == some .lt || FloatKind.f64.format.order a c == some .eq) = true) := h
  clear h1 h2 h3 h4 h5 ha h
  by_cases hp : (tp == pf) = true
  · have hq : (tp == pt) = false := by simpa [hp] using hs
    clear hs
    go_enter Try.func14, Try.ntmps14
    go_wp2_with fail
    refine (habs _).mono ?_
    rintro e w' ⟨rfl, rfl⟩
    go_wp2
    go_ret
    exact ⟨ret_true hle.out, rfl⟩
  · have hp' : (tp == pf) = false := by simpa using hp
    clear hs hp
    go_enter Try.func14, Try.ntmps14
    go_wp2_with fail
    refine (habs _).mono ?_
    rintro e w' ⟨rfl, rfl⟩
    go_wp2
    go_ret
    exact ⟨ret_true hle.out, rfl⟩
end Go.Proofs.Qxb6605261a.Ev
