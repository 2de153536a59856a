import Derived.Test.Qxb6605261aMaps
import Derived.Below
import Derived.Deep.CutRange
import Derived.RegionTactic
import Derived.ChangeAlike
import Derived.BigRegion
namespace Go.Proofs.Qxb6605261a.Pc
open Go.Maps Go.RowKit

/-- The counter behind the pointer: four numbers, three maps. -/
structure Cnt (w : World) (B nT nE nB : Nat) (r pt pf tp : Int) (fT fE fB : Value → Int) : Prop where
  c0 : w.cell? ⟨B + 3, 0, none⟩ = some (.int .i64 r)
  c1 : w.cell? ⟨B + 3, 1, none⟩ = some (.int .i64 pt)
  c2 : w.cell? ⟨B + 3, 2, none⟩ = some (.int .i64 pf)
  c3 : w.cell? ⟨B + 3, 3, none⟩ = some (.int .i64 tp)
  c4 : w.cell? ⟨B + 3, 4, none⟩ = some (.map (some B))
  c5 : w.cell? ⟨B + 3, 5, none⟩ = some (.map (some (B + 1)))
  c6 : w.cell? ⟨B + 3, 6, none⟩ = some (.map (some (B + 2)))
  f0 : w.frozen? ⟨B + 3, 0, none⟩ = false
  f1 : w.frozen? ⟨B + 3, 1, none⟩ = false
  f2 : w.frozen? ⟨B + 3, 2, none⟩ = false
  f3 : w.frozen? ⟨B + 3, 3, none⟩ = false
  lt : B + 3 < w.heap.size
  mT : MapIs w 9 B nT fT
  mE : MapIs w 2 (B + 1) nE fE
  mB : MapIs w 49 (B + 2) nB fB

/-- .. and, in the middle of 'add', the key's own block N. -/
structure Mid (w0 w : World) (B N nT nE nB : Nat) (e : Int) (s : ByteArray) (r pt pf tp : Int) (fT fE fB : Value → Int) : Prop where
  cnt : Cnt w B nT nE nB r pt pf tp fT fE fB
  k0 : w.cell? ⟨N, 0, none⟩ = some (.int .i64 e)
  k1 : w.cell? ⟨N, 1, none⟩ = some (.string s)
  nl : B + 3 < N
  ln : N < w.heap.size
  bel : Below B w0 w

section
variable {w0 w : World} {B N nT nE nB : Nat} {e : Int} {s : ByteArray} {r pt pf tp : Int} {fT fE fB : Value → Int}

theorem MapIs.at3 {k b n : Nat} {f : Value → Int} (h : MapIs w k b n f) (B : Nat) (hb : b < B + 3) (o : Nat) (u : Value) : MapIs (w.setCell ⟨B + 3, o, none⟩ u) k b n f :=
  h.setCell (by show b ≠ B + 3; omega) u

theorem cell_set_other {a b : Addr} {u : Value} (h : a ≠ b) : (w.setCell b u).cell? a = w.cell? a := World.cell?_setCell_other w b a u (Ne.symm h)

theorem Cnt.drew (h : Cnt w B nT nE nB r pt pf tp fT fE fB) : Cnt w.drew B nT nE nB r pt pf tp fT fE fB := by
  obtain ⟨c0, c1, c2, c3, c4, c5, c6, f0, f1, f2, f3, lt, mT, mE, mB⟩ := h
  exact ⟨c0, c1, c2, c3, c4, c5, c6, f0, f1, f2, f3, lt, mT, mE, mB⟩
theorem Mid.drew (h : Mid w0 w B N nT nE nB e s r pt pf tp fT fE fB) : Mid w0 w.drew B N nT nE nB e s r pt pf tp fT fE fB :=
  ⟨h.cnt.drew, h.k0, h.k1, h.nl, h.ln, h.bel.drew⟩

/-- A world that parts from 'w' in one map's block alone. -/
theorem Cnt.turned {w' : World} {b : Nat} (h : Cnt w B nT nE nB r pt pf tp fT fE fB) (hg : w.grownBy w' (some b)) (hb : b ≠ B + 3) {nT' nE' nB' : Nat} {fT' fE' fB' : Value → Int}
    (mT : MapIs w' 9 B nT' fT') (mE : MapIs w' 2 (B + 1) nE' fE') (mB : MapIs w' 49 (B + 2) nB' fB') : Cnt w' B nT' nE' nB' r pt pf tp fT' fE' fB' := by
  have hblk : w'.heap[B + 3]? = w.heap[B + 3]? := hg.block (B + 3) h.lt (by intro e; exact hb (Option.some.inj e).symm)
  have hc : ∀ o, w'.cell? ⟨B + 3, o, none⟩ = w.cell? ⟨B + 3, o, none⟩ := fun o => World.cell?_of_block (w := w) hblk
  have hf : ∀ o, w'.frozen? ⟨B + 3, o, none⟩ = w.frozen? ⟨B + 3, o, none⟩ := fun o => World.frozen?_of_block (w := w) hblk
  obtain ⟨c0, c1, c2, c3, c4, c5, c6, f0, f1, f2, f3, lt, _, _, _⟩ := h
  exact ⟨(hc 0).trans c0, (hc 1).trans c1, (hc 2).trans c2, (hc 3).trans c3, (hc 4).trans c4, (hc 5).trans c5, (hc 6).trans c6, (hf 0).trans f0, (hf 1).trans f1, (hf 2).trans f2, (hf 3).trans f3, Nat.lt_of_lt_of_le lt hg.size, mT, mE, mB⟩

theorem Mid.turned {w' : World} {b : Nat} (h : Mid w0 w B N nT nE nB e s r pt pf tp fT fE fB) (hg : w.grownBy w' (some b)) (hb : b < B + 3) (hb2 : B ≤ b) {nT' nE' nB' : Nat} {fT' fE' fB' : Value → Int}
    (mT : MapIs w' 9 B nT' fT') (mE : MapIs w' 2 (B + 1) nE' fE') (mB : MapIs w' 49 (B + 2) nB' fB') : Mid w0 w' B N nT' nE' nB' e s r pt pf tp fT' fE' fB' := by
  have hnl := h.nl
  have hblk : w'.heap[N]? = w.heap[N]? := hg.block N h.ln (by intro e; have := Option.some.inj e; omega)
  have hc : ∀ o, w'.cell? ⟨N, o, none⟩ = w.cell? ⟨N, o, none⟩ := fun o => World.cell?_of_block (w := w) hblk
  have hlt := h.cnt.lt
  exact ⟨h.cnt.turned hg (by omega) mT mE mB, (hc 0).trans h.k0, (hc 1).trans h.k1, h.nl, Nat.lt_of_lt_of_le h.ln hg.size, h.bel.grown hg (by omega) (fun k hk => by have := Option.some.inj hk; omega)⟩

theorem Cnt.set0 (h : Cnt w B nT nE nB r pt pf tp fT fE fB) (x : Int) : Cnt (w.setCell ⟨B + 3, 0, none⟩ (.int .i64 x)) B nT nE nB x pt pf tp fT fE fB := by
  obtain ⟨c0, c1, c2, c3, c4, c5, c6, f0, f1, f2, f3, lt, mT, mE, mB⟩ := h
  have hc : ∀ o, o ≠ 0 → (w.setCell ⟨B + 3, 0, none⟩ (.int .i64 x)).cell? ⟨B + 3, o, none⟩ = w.cell? ⟨B + 3, o, none⟩ := fun o ho => cell_set_other (fun e => ho (congrArg Addr.off e))
  exact ⟨World.cell?_setCell_same w _ _ c0, (hc 1 (by omega)).trans c1, (hc 2 (by omega)).trans c2, (hc 3 (by omega)).trans c3, (hc 4 (by omega)).trans c4, (hc 5 (by omega)).trans c5, (hc 6 (by omega)).trans c6,
    (World.frozen?_setCell _ _ _ _).trans f0, (World.frozen?_setCell _ _ _ _).trans f1, (World.frozen?_setCell _ _ _ _).trans f2, (World.frozen?_setCell _ _ _ _).trans f3, by simpa [World.setCell] using lt, mT.at3 B (by omega) _ _, mE.at3 B (by omega) _ _, mB.at3 B (by omega) _ _⟩
theorem Cnt.set1 (h : Cnt w B nT nE nB r pt pf tp fT fE fB) (x : Int) : Cnt (w.setCell ⟨B + 3, 1, none⟩ (.int .i64 x)) B nT nE nB r x pf tp fT fE fB := by
  obtain ⟨c0, c1, c2, c3, c4, c5, c6, f0, f1, f2, f3, lt, mT, mE, mB⟩ := h
  have hc : ∀ o, o ≠ 1 → (w.setCell ⟨B + 3, 1, none⟩ (.int .i64 x)).cell? ⟨B + 3, o, none⟩ = w.cell? ⟨B + 3, o, none⟩ := fun o ho => cell_set_other (fun e => ho (congrArg Addr.off e))
  exact ⟨(hc 0 (by omega)).trans c0, World.cell?_setCell_same w _ _ c1, (hc 2 (by omega)).trans c2, (hc 3 (by omega)).trans c3, (hc 4 (by omega)).trans c4, (hc 5 (by omega)).trans c5, (hc 6 (by omega)).trans c6,
    (World.frozen?_setCell _ _ _ _).trans f0, (World.frozen?_setCell _ _ _ _).trans f1, (World.frozen?_setCell _ _ _ _).trans f2, (World.frozen?_setCell _ _ _ _).trans f3, by simpa [World.setCell] using lt, mT.at3 B (by omega) _ _, mE.at3 B (by omega) _ _, mB.at3 B (by omega) _ _⟩
theorem Cnt.set2 (h : Cnt w B nT nE nB r pt pf tp fT fE fB) (x : Int) : Cnt (w.setCell ⟨B + 3, 2, none⟩ (.int .i64 x)) B nT nE nB r pt x tp fT fE fB := by
  obtain ⟨c0, c1, c2, c3, c4, c5, c6, f0, f1, f2, f3, lt, mT, mE, mB⟩ := h
  have hc : ∀ o, o ≠ 2 → (w.setCell ⟨B + 3, 2, none⟩ (.int .i64 x)).cell? ⟨B + 3, o, none⟩ = w.cell? ⟨B + 3, o, none⟩ := fun o ho => cell_set_other (fun e => ho (congrArg Addr.off e))
  exact ⟨(hc 0 (by omega)).trans c0, (hc 1 (by omega)).trans c1, World.cell?_setCell_same w _ _ c2, (hc 3 (by omega)).trans c3, (hc 4 (by omega)).trans c4, (hc 5 (by omega)).trans c5, (hc 6 (by omega)).trans c6,
    (World.frozen?_setCell _ _ _ _).trans f0, (World.frozen?_setCell _ _ _ _).trans f1, (World.frozen?_setCell _ _ _ _).trans f2, (World.frozen?_setCell _ _ _ _).trans f3, by simpa [World.setCell] using lt, mT.at3 B (by omega) _ _, mE.at3 B (by omega) _ _, mB.at3 B (by omega) _ _⟩
theorem Cnt.set3 (h : Cnt w B nT nE nB r pt pf tp fT fE fB) (x : Int) : Cnt (w.setCell ⟨B + 3, 3, none⟩ (.int .i64 x)) B nT nE nB r pt pf x fT fE fB := by
  obtain ⟨c0, c1, c2, c3, c4, c5, c6, f0, f1, f2, f3, lt, mT, mE, mB⟩ := h
  have hc : ∀ o, o ≠ 3 → (w.setCell ⟨B + 3, 3, none⟩ (.int .i64 x)).cell? ⟨B + 3, o, none⟩ = w.cell? ⟨B + 3, o, none⟩ := fun o ho => cell_set_other (fun e => ho (congrArg Addr.off e))
  exact ⟨(hc 0 (by omega)).trans c0, (hc 1 (by omega)).trans c1, (hc 2 (by omega)).trans c2, World.cell?_setCell_same w _ _ c3, (hc 4 (by omega)).trans c4, (hc 5 (by omega)).trans c5, (hc 6 (by omega)).trans c6,
    (World.frozen?_setCell _ _ _ _).trans f0, (World.frozen?_setCell _ _ _ _).trans f1, (World.frozen?_setCell _ _ _ _).trans f2, (World.frozen?_setCell _ _ _ _).trans f3, by simpa [World.setCell] using lt, mT.at3 B (by omega) _ _, mE.at3 B (by omega) _ _, mB.at3 B (by omega) _ _⟩

theorem Cnt.alloc (h : Cnt w B nT nE nB r pt pf tp fT fE fB) (o : Obj) : Cnt (w.alloc o) B nT nE nB r pt pf tp fT fE fB := by
  obtain ⟨c0, c1, c2, c3, c4, c5, c6, f0, f1, f2, f3, lt, mT, mE, mB⟩ := h
  have hb := Below.heap_alloc w o (B + 3) lt
  have hc : ∀ x, (w.alloc o).cell? ⟨B + 3, x, none⟩ = w.cell? ⟨B + 3, x, none⟩ := fun x => World.cell?_of_block (w := w) hb
  have hf : ∀ x, (w.alloc o).frozen? ⟨B + 3, x, none⟩ = w.frozen? ⟨B + 3, x, none⟩ := fun x => World.frozen?_of_block (w := w) hb
  exact ⟨(hc 0).trans c0, (hc 1).trans c1, (hc 2).trans c2, (hc 3).trans c3, (hc 4).trans c4, (hc 5).trans c5, (hc 6).trans c6, (hf 0).trans f0, (hf 1).trans f1, (hf 2).trans f2, (hf 3).trans f3, by simp; omega, mT.alloc o, mE.alloc o, mB.alloc o⟩

/-- A store into the counter's own cells. -/
theorem Mid.store (h : Mid w0 w B N nT nE nB e s r pt pf tp fT fE fB) {o : Nat} {u : Value} {r' pt' pf' tp' : Int} (hc : Cnt (w.setCell ⟨B + 3, o, none⟩ u) B nT nE nB r' pt' pf' tp' fT fE fB) :
    Mid w0 (w.setCell ⟨B + 3, o, none⟩ u) B N nT nE nB e s r' pt' pf' tp' fT fE fB := by
  have hnl := h.nl
  have hk : ∀ x, (w.setCell ⟨B + 3, o, none⟩ u).cell? ⟨N, x, none⟩ = w.cell? ⟨N, x, none⟩ := fun x => cell_set_other (fun e => by have := congrArg Addr.block e; simp only at this; omega)
  exact ⟨hc, (hk 0).trans h.k0, (hk 1).trans h.k1, h.nl, by simpa [World.setCell] using h.ln, h.bel.setCell (by show B ≤ B + 3; omega) u⟩

theorem Mid.start (h : Cnt w B nT nE nB r pt pf tp fT fE fB) (e : Int) (s : ByteArray) : Mid w (w.alloc (.cells #[.int .i64 e, .string s] 49)) B w.heap.size nT nE nB e s r pt pf tp fT fE fB := by
  have hl := h.lt
  refine ⟨h.alloc _, ?_, ?_, hl, by simp, (Below.refl _ _).alloc (by omega) _⟩ <;> simp [go_sem]
end
end Go.Proofs.Qxb6605261a.Pc
