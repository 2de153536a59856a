import Derived.Test.Qxb6605261aRows
import Derived.WalkKit
import Derived.ProofKit
import Derived.Maps.OwnSet
import Derived.Maps.Views
import Derived.WideKeyEntry
import Derived.DeepKeys4
import Derived.Deep.QuietTactic
import Derived.BigQuiet
import Derived.BigRegion
namespace Go.Proofs.Qxb6605261a.Pc
open Go.Maps Go.RowKit

theorem laidOut : laidOutB Try.prog = true := by kernel_rfl
theorem zero2 (w : World) : (zeroValue 2).run Try.prog w = .ok (.int .i64 0) w := by kernel_rfl
theorem lawT : Keyed Try.prog 9 := string_keyed Try.underlying9
theorem lawE : Keyed Try.prog 2 := int_keyed Try.underlying2
theorem row49 : (49 : TypeId) < Try.prog.types.size := of_decide_eq_true (by kernel_rfl)
theorem wide49 : (match Try.prog.underlying 49 with | some (.array _ _) | some (.struct _) => true | _ => false) = true := by kernel_rfl
theorem lawB0 : WideMaps.KeyLaw Try.prog 49 := deep_law_laid laidOut (m := 2) (by omega) row49 (by kernel_rfl) wide49
theorem lawB : Keyed Try.prog 49 := Keyed.of_law lawB0

/-- Block b is a map of at most n entries, keyed by type k, that holds 'f v' at the key v (0 where there is none). -/
def MapIs (w : World) (k b n : Nat) (f : Value → Int) : Prop :=
  ∃ D : DataW Unit, w.ownsMap Try.prog k (plainElem Try.prog 2) b n D ∧ ∀ v kl, keyOf Try.prog k v = some kl → D.atKey kl (.lit (.int .i64 0)) = .lit (.int .i64 (f v))

section
variable {w : World} {k b n : Nat} {f : Value → Int}

theorem MapIs.made (w : World) (k : Nat) : MapIs (w.alloc (.map #[] 0)) k w.heap.size 0 (fun _ => 0) :=
  ⟨.map [], World.ownsMap_made _ _ _ _, fun _ _ _ => rfl⟩
theorem MapIs.alloc (h : MapIs w k b n f) (o : Obj) : MapIs (w.alloc o) k b n f := by
  obtain ⟨D, h1, h2⟩ := h; exact ⟨D, h1.alloc o, h2⟩
theorem MapIs.drew (h : MapIs w k b n f) : MapIs w.drew k b n f := h
theorem MapIs.drewN (h : MapIs w k b n f) (m : Nat) : MapIs (w.drewN m) k b n f := h
theorem MapIs.setCell (h : MapIs w k b n f) {a : Addr} (ha : b ≠ a.block) (u : Value) : MapIs (w.setCell a u) k b n f := by
  obtain ⟨D, h1, h2⟩ := h; exact ⟨D, h1.setCell ha u, h2⟩
theorem MapIs.kept {w' : World} {row : Option Nat} (h : MapIs w k b n f) (hg : w.grownBy w' row) (hne : some b ≠ row) : MapIs w' k b n f := by
  obtain ⟨D, h1, h2⟩ := h; exact ⟨D, h1.kept hg hne, h2⟩
theorem MapIs.mono (h : MapIs w k b n f) {n' : Nat} (hn : n ≤ n') : MapIs w k b n' f := by
  obtain ⟨D, h1, h2⟩ := h; exact ⟨D, h1.mono hn, h2⟩
theorem MapIs.congr (h : MapIs w k b n f) {f' : Value → Int} (hf : ∀ v kl, keyOf Try.prog k v = some kl → f' v = f v) : MapIs w k b n f' := by
  obtain ⟨D, h1, h2⟩ := h; exact ⟨D, h1, fun v kl hv => by rw [hf v kl hv]; exact h2 v kl hv⟩

theorem MapIs.lookup {t : TypeId} (h : MapIs w k b n f) (K : Keyed Try.prog k) (ht : Try.prog.underlying t = some (.map k 2)) {key : Value} {kl : Lit} (hk : keyOf Try.prog k key = some kl) :
    (Instr.lookup t (.map (some b)) key false).run Try.prog w = .ok (.int .i64 (f key)) w := by
  obtain ⟨D, h1, h2⟩ := h
  obtain ⟨c, hrun, hat, _⟩ := h1.lookup_int K ht Try.underlying2 (zero2 w) hk
  rw [h2 key kl hk] at hat
  have : f key = c := by simpa using hat
  rw [this]; exact hrun

theorem MapIs.update {t : TypeId} (h : MapIs w k b n f) (K : Keyed Try.prog k) (ht : Try.prog.underlying t = some (.map k 2)) (hn : n < maxLen) {key : Value} {kl : Lit} (hk : keyOf Try.prog k key = some kl)
    {c : Int} (hc : (Lit.int .i64 c).wf = true) {f' : Value → Int} (e1 : f' key = c) (e2 : ∀ v, v ≠ key → f' v = f v) :
    ∃ w', (Instr.mapUpdate t (.map (some b)) key (.int .i64 c)).run Try.prog w = .ok () w' ∧ MapIs w' k b (n + 1) f' ∧ w.grownBy w' (some b) := by
  obtain ⟨D, h1, h2⟩ := h
  have hM : IsMap D := by obtain ⟨es, _, _, _, _, rfl⟩ := h1; exact ⟨_, rfl⟩
  obtain ⟨w', hrun, hown, hg⟩ := h1.update K ht hn hk (plainElem_int Try.underlying2 hc)
  refine ⟨w', hrun, ⟨_, hown, fun v l hv => ?_⟩, hg⟩
  by_cases e : l = kl
  · subst e
    have : v = key := K.inj hv hk
    subst this
    rw [atKey_put_same hM (K.key hk), e1]
  · rw [atKey_put_other e, h2 v l hv]
    have hne : v ≠ key := fun e' => e (by rw [e', hk] at hv; exact (Option.some.inj hv).symm)
    rw [e2 v hne]

/-- 'm[k]++' at a key that is a struct: the entry is made, then stored into; a look-up between the two reads what it read before. -/
theorem MapIs.entry (h : MapIs w 49 b n f) (hn : n < maxLen) {key : Value} {kl : Lit} (hk : keyOf Try.prog 49 key = some kl)
    {c : Int} (hc : (Lit.int .i64 c).wf = true) {f' : Value → Int} (e1 : f' key = c) (e2 : ∀ v, v ≠ key → f' v = f v) :
    ∃ (v0 : Value) (st : Nat) (we wf : World), (Instr.mapEntry 43 (.map (some b)) key).run Try.prog w = .ok (.tuple #[v0, .int .i64 st]) we ∧
      (Instr.lookup 43 (.map (some b)) key false).run Try.prog we = .ok (.int .i64 (f key)) we ∧
      (Instr.entryStore 43 (.map (some b)) (.int .i64 st) (.int .i64 c)).run Try.prog we = .ok () wf ∧ MapIs wf 49 b (n + 1) f' ∧ w.grownBy wf (some b) := by
  have ht := Try.underlying43
  have hlook := h.lookup lawB ht hk
  obtain ⟨w', hup, hM', hg'⟩ := h.update lawB ht hn hk hc e1 e2
  obtain ⟨D, ⟨es, clock, hb, F, hs, hD⟩, h2⟩ := h
  obtain ⟨v0, st, es1, clock1, hent, _, hst⟩ := WideElems.entry_then_store (R := plainElem Try.prog 2) lawB0 ht zero2 hb F hk
  have hwe : (ChangeMaps.setBlock w b (.map es1 clock1)).heap[b]? = some (.map es1 clock1) := ChangeMaps.heap_setBlock_same hb _
  obtain ⟨es', clock', hs1, hs2⟩ := hst _ (.int .i64 c) hwe
  have ew : w' = ChangeMaps.setBlock w b (.map es' clock') := by
    rw [hup] at hs2
    exact (Result.ok.inj hs2).2
  have et : ChangeMaps.setBlock (ChangeMaps.setBlock w b (.map es1 clock1)) b (.map es' clock') = ChangeMaps.setBlock w b (.map es' clock') := by
    simp [ChangeMaps.setBlock]
  refine ⟨v0, st, _, w', hent, ?_, by rw [ew, ← et]; exact hs1, hM', hg'⟩
  rcases lawB.find w hk es.toList F.keys with ⟨g1, _⟩ | ⟨j, e0, g1, g2, g3⟩
  · have hent2 : (Instr.mapEntry 43 (.map (some b)) key).run Try.prog w = .ok (.tuple #[.int .i64 0, goInt clock]) (ChangeMaps.setBlock w b (.map (es.push ⟨key, .int .i64 0, clock⟩) (clock + 1))) := by
      simp [Instr.mapEntry, run_underlying ht, MapKept.run_getObj_map hb, lawB.check w false hk, g1, MapKept.run_setObj_map _ hb, Result.andThen, ChangeMaps.setBlock]
    have hup2 : (Instr.mapUpdate 43 (.map (some b)) key (.int .i64 0)).run Try.prog w = .ok () (ChangeMaps.setBlock w b (.map (es.push ⟨key, .int .i64 0, clock⟩) (clock + 1))) := by
      simp [Instr.mapUpdate, run_underlying ht, MapKept.run_getObj_map hb, lawB.check w false hk, g1, MapKept.run_setObj_map _ hb, Result.andThen, ChangeMaps.setBlock]
    have hl2 : (Instr.lookup 43 (.map (some b)) key false).run Try.prog w = .ok (.int .i64 0) w := by
      simp [Instr.lookup, run_underlying ht, MapKept.run_getObj_map hb, lawB.check w _ hk, g1, Result.andThen]
    have f0 : f key = 0 := by
      rw [hlook] at hl2
      have := (Result.ok.inj hl2).1
      simpa using this
    have hMD : MapIs w 49 b n f := ⟨D, ⟨es, clock, hb, F, hs, hD⟩, h2⟩
    obtain ⟨w2, hu, hM2, _⟩ := hMD.update lawB ht hn hk (c := 0) (by decide) (f' := f) f0 (fun _ _ => rfl)
    have e3 : w2 = ChangeMaps.setBlock w b (.map es1 clock1) := by
      rw [hu] at hup2
      rw [hent] at hent2
      rw [(Result.ok.inj hup2).2, (Result.ok.inj hent2).2]
    rw [← e3]
    exact hM2.lookup lawB ht hk
  · have hj : es[j]? = some e0 := by simpa using g2
    have hsame : es.modify j (fun e => { e with key := key }) = es := by
      apply Array.ext'
      rw [Array.toList_modify, ChangeMaps.modify_eq_set _ _ _ _ g2]
      have : ({ e0 with key := key } : MapEntry) = e0 := by rw [← g3]
      rw [this]
      exact WideElems.set_self _ _ _ g2
    have hent2 : (Instr.mapEntry 43 (.map (some b)) key).run Try.prog w = .ok (.tuple #[e0.val, goInt e0.born]) (ChangeMaps.setBlock w b (.map es clock)) := by
      simp [Instr.mapEntry, run_underlying ht, MapKept.run_getObj_map hb, lawB.check w false hk, g1, hj, g3, lawB.stays w hk, hsame, MapKept.run_setObj_map _ hb, Result.andThen, ChangeMaps.setBlock]
    have e3 : ChangeMaps.setBlock w b (.map es1 clock1) = ChangeMaps.setBlock w b (.map es clock) := by
      rw [hent] at hent2
      exact (Result.ok.inj hent2).2
    rw [e3]
    have hMD : MapIs (ChangeMaps.setBlock w b (.map es clock)) 49 b n f := ⟨D, ⟨es, clock, ChangeMaps.heap_setBlock_same hb _, F, hs, hD⟩, h2⟩
    exact hMD.lookup lawB ht hk
end

theorem keyT {s : ByteArray} (hs : s.size ≤ maxLen) : keyOf Try.prog 9 (.string s) = some (.string s.data.toList) := by
  simp [keyOf, Try.underlying9, mapKey, hs]
theorem keyE {e : Int} (he : (Lit.int .i64 e).wf = true) : keyOf Try.prog 2 (.int .i64 e) = some (.int .i64 e) := keyOf_int_mk Try.underlying2 he
theorem cells49 : Try.prog.cellsOf 49 = 2 := by kernel_rfl
theorem cells2 : Try.prog.cellsOf 2 = 1 := by kernel_rfl
theorem cells9 : Try.prog.cellsOf 9 = 1 := by kernel_rfl
theorem key49 : Try.prog.keyType 49 = true := by kernel_rfl
theorem lits2 {e : Int} (he : (Lit.int .i64 e).wf = true) (m : Nat) : Try.prog.keyLits (m + 1) 2 [.int .i64 e] = some [.int .i64 e] := by
  unfold Program.keyLits
  rw [Try.underlying2]
  simp [he]
theorem lits9 {s : ByteArray} (hs : s.size ≤ maxLen) (m : Nat) : Try.prog.keyLits (m + 1) 9 [.string s] = some [.string s.data.toList] := by
  unfold Program.keyLits
  rw [Try.underlying9]
  simp [hs]
theorem lits49 {e : Int} {s : ByteArray} (he : (Lit.int .i64 e).wf = true) (hs : s.size ≤ maxLen) (m : Nat) : Try.prog.keyLits (m + 2) 49 [.int .i64 e, .string s] = some [.int .i64 e, .string s.data.toList] := by
  unfold Program.keyLits
  rw [Try.underlying49]
  simp [cells49, cells2, cells9, lits2 he, lits9 hs]
theorem formed49 (e : Int) (s : ByteArray) : (Value.agg #[.int .i64 e, .string s]).formed Try.prog 49 = true := by
  unfold Value.formed
  rw [Try.underlying49]
  simp [cells49]
theorem keyB {e : Int} {s : ByteArray} (he : (Lit.int .i64 e).wf = true) (hs : s.size ≤ maxLen) : ∃ kl, keyOf Try.prog 49 (.agg #[.int .i64 e, .string s]) = some kl := by
  obtain ⟨m, hm⟩ : ∃ m, Try.prog.types.size + 1 = m + 2 := ⟨Try.prog.types.size - 1, by have : 1 ≤ Try.prog.types.size := of_decide_eq_true (by kernel_rfl); omega⟩
  unfold keyOf
  rw [Try.underlying49]
  dsimp only
  rw [key49, formed49, hm]
  have : (Value.agg #[.int .i64 e, .string s]).cells.toList = [.int .i64 e, .string s] := rfl
  rw [this, lits49 he hs]
  exact ⟨_, rfl⟩
end Go.Proofs.Qxb6605261a.Pc
