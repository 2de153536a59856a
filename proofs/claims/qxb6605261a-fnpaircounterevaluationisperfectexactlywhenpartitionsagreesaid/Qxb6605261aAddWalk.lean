import Derived.Test.Qxb6605261aAdd
namespace Go.Proofs.Qxb6605261a.Pc
open Go.Maps Go.RowKit

set_option maxHeartbeats 1000000 in
theorem add_walk (w : World) (B n : Nat) (r pt pf tp : Int) (fT fE fB fT' fE' fB' : Value → Int) (e : Int) (s : ByteArray) (cT cE cB : Int) (eT : fT (.string s) = cT) (eE : fE (.int .i64 e) = cE) (eB : fB (.agg #[.int .i64 e, .string s]) = cB)
    (gT : fT' (.string s) = cT + 1) (gT' : ∀ v, v ≠ .string s → fT' v = fT v) (gE : fE' (.int .i64 e) = cE + 1) (gE' : ∀ v, v ≠ .int .i64 e → fE' v = fE v)
    (gB : fB' (.agg #[.int .i64 e, .string s]) = cB + 1) (gB' : ∀ v, v ≠ .agg #[.int .i64 e, .string s] → fB' v = fB v)
    (h : Cnt w B n n n r pt pf tp fT fE fB) (hr : 0 ≤ r ∧ r ≤ 1000000000) (b1 : 0 ≤ pt ∧ pt ≤ 1000000000) (b2 : 0 ≤ pf ∧ pf ≤ 1000000000) (b3 : 0 ≤ tp ∧ tp ≤ 1000000000)
    (d1 : 0 ≤ cT ∧ cT ≤ 1000000000) (d2 : 0 ≤ cE ∧ cE ≤ 1000000000) (d3 : 0 ≤ cB ∧ cB ≤ 1000000000) (he : (Lit.int .i64 e).wf = true) (hs : s.size ≤ maxLen) (hn : n < maxLen) :
    Calls Try.prog 20 #[.pointer (some ⟨B + 3, 0, none⟩), .int .i64 e, .string s] w fun ex w' => ex = .returned (.tuple #[]) ∧ Cnt w' B (n + 1) (n + 1) (n + 1) (r + 1) (pt + cT) (pf + cE) (tp + cB) fT' fE' fB' ∧ Below B w w' := by
  obtain ⟨klB, hkB0⟩ := keyB he hs
  have hkB : Hid (keyOf Try.prog 49 (.agg #[.int .i64 e, .string s]) = some klB) := hkB0
  have ET : Hid (fT (.string s) = cT) := eT
  have EE : Hid (fE (.int .i64 e) = cE) := eE
  have EB : Hid (fB (.agg #[.int .i64 e, .string s]) = cB) := eB
  have GT : Hid (fT' (.string s) = cT + 1 ∧ ∀ v, v ≠ .string s → fT' v = fT v) := ⟨gT, gT'⟩
  have GE : Hid (fE' (.int .i64 e) = cE + 1 ∧ ∀ v, v ≠ .int .i64 e → fE' v = fE v) := ⟨gE, gE'⟩
  have GB : Hid (fB' (.agg #[.int .i64 e, .string s]) = cB + 1 ∧ ∀ v, v ≠ .agg #[.int .i64 e, .string s] → fB' v = fB v) := ⟨gB, gB'⟩
  have HE : Hid ((Lit.int .i64 e).wf = true) := he
  clear hkB0 eT eE eB gT gT' gE gE' gB gB' he
  have M0 : Mid w ((w.setCell ⟨B + 3, 0, none⟩ (.int .i64 (r + 1))).alloc (.cells #[.int .i64 e, .string s] 49)) B w.heap.size n n n e s (r + 1) pt pf tp fT fE fB := by
    have h1 := Mid.start (h.set0 (r + 1)) e s
    have e1 : (w.setCell ⟨B + 3, 0, none⟩ (.int .i64 (r + 1))).heap.size = w.heap.size := by simp [World.setCell]
    rw [e1] at h1
    exact ⟨h1.cnt, h1.k0, h1.k1, h1.nl, h1.ln, ((Below.refl _ _).setCell (by show B ≤ B + 3; omega) _).alloc (by rw [e1]; have := h.lt; omega) _⟩
  have c0 := h.c0
  have f0 := h.f0
  have lt := h.lt
  obtain ⟨N, hN⟩ : ∃ N, w.heap.size = N := ⟨_, rfl⟩
  rw [hN] at M0 lt
  go_enter Try.func20, Try.ntmps20
  go_wp2
  clear c0 f0 h hN
  go_cut [] from 7 to 78 (fun wx => Mid w wx B N n n n e s (r + 1) (pt + cT) pf tp fT fE fB)
  case first =>
    have LT := M0.drew.cnt.mT.lookup lawT Try.underlying41 (keyT hs)
    rw [ET.out] at LT
    have c1 := M0.cnt.c1
    have c4 := M0.cnt.c4
    have f1 := M0.cnt.f1
    have M1 := (M0.store (M0.cnt.set1 (pt + cT))).drew
    generalize ((w.setCell ⟨B + 3, 0, none⟩ (.int .i64 (r + 1))).alloc (.cells #[.int .i64 e, .string s] 49)) = W at M0 LT c1 c4 f1 M1 ⊢
    clear M0
    go_big_region
    go_wp2
    go_meet
    case rel => exact M1
  case rest =>
    clear M0
    go_wp2
    go_cut [] from 7 to 78 (fun wx => Mid w wx B N n n n e s (r + 1) (pt + cT) (pf + cE) tp fT fE fB)
    case first =>
      have LE := hcut.drew.cnt.mE.lookup lawE Try.underlying42 (keyE HE.out)
      rw [EE.out] at LE
      have c2 := hcut.cnt.c2
      have c5 := hcut.cnt.c5
      have f2 := hcut.cnt.f2
      have M1 := (hcut.store (hcut.cnt.set2 (pf + cE))).drew
      clear hcut
      go_big_region
      go_wp2
      go_meet
      case rel => exact M1
    case rest =>
      go_wp2
      go_cut [] from 7 to 78 (fun wx => Mid w wx B N n n n e s (r + 1) (pt + cT) (pf + cE) (tp + cB) fT fE fB)
      case first =>
        have LB := hcut.drew.cnt.mB.lookup lawB Try.underlying43 hkB.out
        rw [EB.out] at LB
        have c3 := hcut.cnt.c3
        have c6 := hcut.cnt.c6
        have f3 := hcut.cnt.f3
        have k0 := hcut.k0
        have k1 := hcut.k1
        have M1 := (hcut.store (hcut.cnt.set3 (tp + cB))).drew
        clear hcut
        go_big_region
        go_wp2
        go_meet
        case rel => exact M1
      case rest =>
        have wfc : ∀ x : Int, 0 ≤ x ∧ x ≤ 1000000000 → (Lit.int .i64 (x + 1)).wf = true := fun x hx => WalkArith.wf_i64 (by omega)
        have c4 := hcut.cnt.c4
        have LT := hcut.cnt.mT.lookup lawT Try.underlying41 (keyT hs)
        rw [ET.out] at LT
        obtain ⟨w5, U5, m5, g5⟩ := hcut.cnt.mT.update lawT Try.underlying41 hn (keyT hs) (wfc cT d1) GT.out.1 GT.out.2
        have M5 := hcut.turned g5 (by omega) (by omega) m5 (hcut.cnt.mE.kept g5 (by intro x; have := Option.some.inj x; omega)) (hcut.cnt.mB.kept g5 (by intro x; have := Option.some.inj x; omega))
        have c5 := M5.cnt.c5
        have LE := M5.cnt.mE.lookup lawE Try.underlying42 (keyE HE.out)
        rw [EE.out] at LE
        obtain ⟨w6, U6, m6, g6⟩ := M5.cnt.mE.update lawE Try.underlying42 hn (keyE HE.out) (wfc cE d2) GE.out.1 GE.out.2
        have M6 := (M5.turned g6 (by omega) (by omega) (M5.cnt.mT.kept g6 (by intro x; have := Option.some.inj x; omega)) m6 (M5.cnt.mB.kept g6 (by intro x; have := Option.some.inj x; omega)))
        have M7 := M6.drew
        have c6 := M6.cnt.c6
        have k0 := M6.k0
        have k1 := M6.k1
        have LB := M7.cnt.mB.lookup lawB Try.underlying43 hkB.out
        rw [EB.out] at LB
        obtain ⟨v0, st, we, wf, Z1, Z2, Z3, m7, g7⟩ := M7.cnt.mB.entry hn hkB.out (wfc cB d3) GB.out.1 GB.out.2
        rw [EB.out] at Z2
        have M8 := M7.turned g7 (by omega) (by omega) (M7.cnt.mT.kept g7 (by intro x; have := Option.some.inj x; omega)) (M7.cnt.mE.kept g7 (by intro x; have := Option.some.inj x; omega)) m7
        have fin : Hid (Cnt wf B (n + 1) (n + 1) (n + 1) (r + 1) (pt + cT) (pf + cE) (tp + cB) fT' fE' fB' ∧ Below B w wf) := ⟨M8.cnt, M8.bel⟩
        clear hcut M5 M6 M7 M8 m5 m6 m7 g5 g6 g7
        go_wp2
        go_big_region
        all_goals (go_wp2; go_end0; exact ⟨rfl, fin.out⟩)
end Go.Proofs.Qxb6605261a.Pc
