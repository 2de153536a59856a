import Derived.Test.Qxb6600491aGuards
import Derived.Test.Qxb6600491aDec
import Derived.OwnWalk
import Derived.Lib.AppendStr
import Derived.Maps.AppendAt
namespace Go.Proofs.Qxb6600491a.Enc
open Go.RowKit

def bcells (bs : List UInt8) : List Value := bs.map fun b => .int .u8 b.toNat
/-- v is a slice of the call's own, from block 'base' on, that holds just these bytes. -/
def Own (w : World) (base : Nat) (v : Value) (bs : List UInt8) : Prop := w.ownsRow base 5 1 v bs.length (bcells bs)

theorem Own.nil (w : World) (base : Nat) : Own w base (.slice none 0 0) [] := World.ownsRow_nil w base 5 1
theorem Own.snoc {w : World} {base : Nat} {v : Value} {bs : List UInt8} {b : UInt8} (h : w.ownsRow base 5 1 v (bs.length + 1) (bcells bs ++ [.int .u8 b.toNat])) : Own w base v (bs ++ [b]) := by
  unfold Own bcells
  simpa [bcells] using h
theorem Own.alloc {w : World} {base : Nat} {v : Value} {bs : List UInt8} (h : Own w base v bs) (o : Obj) : Own (w.alloc o) base v bs := World.ownsRow.alloc h o

theorem info5 : (Try.prog.info? 5).map (fun i => (i.zero, i.size, i.bytes)) = some (some (.int .u8 0), 1, 1) := by kernel_rfl

/-- What an appending call leaves. -/
def Appended (base : Nat) (w : World) (bs : List UInt8) (e : Ending) (w' : World) : Prop := ∃ v', e = .returned v' ∧ Own w' base v' bs ∧ Below base w w'

theorem own_block {w : World} {base : Nat} {v : Value} {bs : List UInt8} (h : Own w base v bs) : ∀ k, v.ownBlock = some k → base ≤ k := by
  intro k hk
  rcases h.2 with ⟨rfl, _⟩ | ⟨g, cap, cur, rfl, hb, _⟩
  · cases hk
  · have : g = k := by simpa [Value.ownBlock] using hk
    omega

set_option maxHeartbeats 400000 in
theorem count_zero (w : World) (base : Nat) (v : Value) (bs : List UInt8) (hown : Own w base v bs) (hb : base ≤ w.heap.size) (hl : bs.length ≤ 100000000) :
    Calls Try.prog 29 #[v, .int .i64 0] w fun e w' => Appended base w (bs ++ dec 0) e w' := by
  obtain ⟨i0, hi, hz0, hz1, hz2⟩ := info_parts info5
  have hown' : w.ownsRow base 5 1 v bs.length (bcells bs) := hown
  go_enter Try.func29, Try.ntmps29
  go_wp2_with (first | (at_builtin; refine wpList_append_own _ rfl _ _ 32 rfl base 5 i0 (.int .u8 0) 1 1 Try.underlying32 hi hz0 hz1 hz2 rfl (by decide) _ _ _ rfl (hown'.alloc _) ⟨w.heap.size, 0, none⟩ 1 1 [.int .u8 48] rfl rfl (cell_one_new _ _ _) (ints_oneCell .u8 [48]) (by unfold maxLen; omega) (by omega) (by simp; omega) ?_))
  intro v' w' ho hg hn
  go_wp2
  go_ret
  exact ⟨v', rfl, Own.snoc (b := 48) ho, ((Below.refl _ _).alloc hb _).grown hg (by simp; omega) (own_block hown)⟩

/-- The digits that have been written into the local array: k of them; what is left is n'. -/
def Digs (n : Nat) (C : Array Value) (k f n' : Nat) : Prop :=
  ∃ ds : List UInt8, k + f = 20 ∧ n' < 10 ^ f ∧ ds.length = k ∧ ds ++ revDigs f n' = revDigs 20 n ∧ C.size = 20 ∧ ∀ i, i < k → C[i]? = some (.int .u8 (ds.getD i 0).toNat)

theorem Digs.lt {n : Nat} {C : Array Value} {k f n' : Nat} (h : Digs n C k f n') (hp : 0 < n') : k < 20 := by
  obtain ⟨ds, h1, h2, _⟩ := h
  rcases Nat.eq_zero_or_pos f with e | e
  · subst e; simp at h2; omega
  · omega
theorem Digs.filled {n : Nat} {C : Array Value} {k f n' : Nat} (h : Digs n C k f n') (hk : k < 20) : ∃ x, C[k]? = some x := by
  obtain ⟨ds, _, _, _, _, h5, _⟩ := h
  exact ⟨_, Array.getElem?_eq_getElem (by omega)⟩
theorem Digs.next {n : Nat} {C : Array Value} {k f n' : Nat} (h : Digs n C k f n') (hp : 0 < n') : f - 1 < f ∧ Digs n (C.setIfInBounds k (.int .u8 (48 + (n' : Int) % 10))) (k + 1) (f - 1) (n' / 10) := by
  have hk := h.lt hp
  obtain ⟨ds, h1, h2, h3, h4, h5, h6⟩ := h
  obtain ⟨f', rfl⟩ : ∃ f', f = f' + 1 := ⟨f - 1, by omega⟩
  refine ⟨by omega, ds ++ [UInt8.ofNat (48 + n' % 10)], by omega, ?_, by simp [h3], ?_, by simpa using h5, ?_⟩
  · rw [Nat.pow_succ] at h2
    simp only [Nat.add_sub_cancel]
    omega
  · simp only [Nat.add_sub_cancel]
    rw [List.append_assoc, List.singleton_append]
    have e : revDigs (f' + 1) n' = UInt8.ofNat (48 + n' % 10) :: revDigs f' (n' / 10) := by
      conv => lhs; unfold revDigs
      rw [if_neg (by omega)]
    rw [← e]; exact h4
  · intro i hi
    by_cases e : i = k
    · subst e
      have hsz : i < C.size := by omega
      have e2 : (ds ++ [UInt8.ofNat (48 + n' % 10)]).getD i 0 = UInt8.ofNat (48 + n' % 10) := by
        simp [List.getD, ← h3]
      rw [e2, (dig_of n').2]
      simp [hsz]
    · have hi' : i < k := by omega
      have e2 : (ds ++ [UInt8.ofNat (48 + n' % 10)]).getD i 0 = ds.getD i 0 := by
        simp [List.getD, List.getElem?_append_left (show i < ds.length by omega)]
      rw [Array.getElem?_setIfInBounds_ne (Ne.symm e), e2]
      exact h6 i hi'
/-- The first loop is through: the array holds all digits, the lowest first. -/
theorem Digs.done {n : Nat} {C : Array Value} {k f : Nat} (h : Digs n C k f 0) : (revDigs 20 n).length = k ∧ ∀ i, i < k → C[i]? = some (.int .u8 ((revDigs 20 n).getD i 0).toNat) := by
  obtain ⟨ds, h1, h2, h3, h4, h5, h6⟩ := h
  have e : revDigs f 0 = [] := by cases f <;> simp [revDigs]
  rw [e, List.append_nil] at h4
  subst h4
  exact ⟨h3, h6⟩

theorem drop_rev (ds : List UInt8) (k : Nat) (h : k < ds.length) : (ds.drop k).reverse = (ds.drop (k + 1)).reverse ++ [ds.getD k 0] := by
  rw [List.drop_eq_getElem_cons h, List.reverse_cons]
  simp [List.getD, h]

/-- The local array's block is none that the slice owns: the two rows are of other types. -/
theorem own_ne {w w0 : World} {base N : Nat} {v : Value} {bs : List UInt8} {C : Array Value} (h : Own w base v bs) (hN : w.heap[N]? = (w0.alloc (.cells C 38)).heap[w0.heap.size]?) : some N ≠ v.ownBlock := by
  intro e
  rcases h.2 with ⟨rfl, _⟩ | ⟨g, cap, cur, rfl, hb, hg, _⟩
  · cases e
  · have : N = g := by simpa [Value.ownBlock] using e
    subst this
    rw [hN, (MapKept.heap_alloc w0 _).1] at hg
    simp at hg

set_option maxHeartbeats 1000000 in
theorem count_pos (w : World) (base n : Nat) (v : Value) (bs : List UInt8) (hown : Own w base v bs) (hb : base ≤ w.heap.size) (hl : bs.length ≤ 100000000) (hn0 : 0 < n) (hn : n ≤ 100000000) :
    Calls Try.prog 29 #[v, .int .i64 n] w fun e w' => Appended base w (bs ++ dec n) e w' := by
  have hz : ((n : Int) == 0) = false := by simp; omega
  obtain ⟨i0, hi, hz0, hz1, hz2⟩ := info_parts info5
  have HI : Hid (Try.prog.info? 5 = some i0 ∧ i0.zero = some (.int .u8 0) ∧ i0.size = 1 ∧ i0.bytes = 1) := ⟨hi, hz0, hz1, hz2⟩
  clear hi hz0 hz1 hz2
  go_enter Try.func29, Try.ntmps29
  go_wp2
  go_loopg [1, 6] 20 (fun f s1 s6 wr => ∃ (k n' : Nat) (C : Array Value), n' ≤ 100000000 ∧ k ≤ 20 ∧ s1 = .int .i64 n' ∧ s6 = .int .i64 k ∧ Digs n C k f n' ∧ wr = w.alloc (.cells C 38))
  case atStart =>
    exact ⟨0, n, _, hn, by omega, rfl, rfl, ⟨[], rfl, Nat.lt_of_le_of_lt hn (by decide), rfl, rfl, rfl, fun i hi => absurd hi (Nat.not_lt_zero _)⟩, rfl⟩
  case round =>
    obtain ⟨k, n', C, hn', hk, rfl, rfl, hd, rfl⟩ := hrel
    by_cases hp : 0 < n'
    · have hk20 := hd.lt hp
      obtain ⟨x, hx⟩ := hd.filled hk20
      have D2 := hd.next hp
      clear hd
      go_wp2
      go_roundg (gk - 1)
      case measure => exact D2.1
      case rel => exact ⟨k + 1, n' / 10, _, by omega, by omega, by go_num, by go_num, D2.2, rfl⟩
    · have e : n' = 0 := by omega
      subst e
      obtain ⟨hlen, hdig⟩ := hd.done
      have HL : Hid ((revDigs 20 n).length = k) := hlen
      have HD : Hid (∀ i, i < k → C[i]? = some (.int .u8 ((revDigs 20 n).getD i 0).toNat)) := hdig
      have HO : Hid (Own w base v bs) := hown
      clear hd hlen hdig hown hz
      go_wp2
      go_loopg [0, 6] k (fun g s0 s6 wr => ∃ vv, vv = s0 ∧ g ≤ k ∧ s6 = .int .i64 g ∧ Own wr base vv (bs ++ ((revDigs 20 n).drop g).reverse) ∧ wr.heap[w.heap.size]? = (w.alloc (.cells C 38)).heap[w.heap.size]? ∧ w.heap.size < wr.heap.size ∧ Below base w wr)
      case atStart =>
        refine ⟨v, rfl, Nat.le_refl _, rfl, ?_, rfl, by simp, (Below.refl _ _).alloc hb _⟩
        rw [← HL.out, List.drop_length, List.reverse_nil, List.append_nil]
        exact HO.out.alloc _
      case round =>
        obtain ⟨vv, rfl, hgk, rfl, ho, hN, hlt, hbel⟩ := hrel
        by_cases hg0 : 0 < gk
        · obtain ⟨j, hj⟩ : ∃ j, gk = j + 1 := ⟨gk - 1, by omega⟩
          subst hj
          have hc : wr.cell? ⟨w.heap.size, j, none⟩ = some (.int .u8 ((revDigs 20 n).getD j 0).toNat) := by
            have e1 : wr.cell? ⟨w.heap.size, j, none⟩ = (w.alloc (.cells C 38)).cell? ⟨w.heap.size, j, none⟩ := World.cell?_of_block (w := w.alloc (.cells C 38)) hN
            rw [e1]
            have := HD.out j (by omega)
            simp [go_sem, this]
          have hdr := drop_rev (revDigs 20 n) j (by rw [HL.out]; omega)
          generalize hx : (revDigs 20 n).getD j 0 = x at hc hdr
          have HX : Hid (((revDigs 20 n).drop j).reverse = ((revDigs 20 n).drop (j + 1)).reverse ++ [x]) := hdr
          have HN : Hid (wr.heap[w.heap.size]? = (w.alloc (.cells C 38)).heap[w.heap.size]?) := hN
          have HO2 : Hid (Own wr base vv (bs ++ ((revDigs 20 n).drop (j + 1)).reverse)) := ho
          have hne := own_ne ho hN
          have ho' : wr.ownsRow base 5 1 vv (bs ++ ((revDigs 20 n).drop (j + 1)).reverse).length (bcells (bs ++ ((revDigs 20 n).drop (j + 1)).reverse)) := ho
          have hlen : (bs ++ ((revDigs 20 n).drop (j + 1)).reverse).length ≤ 100000100 := by
            have := revDigs_len 20 n
            simp only [List.length_append, List.length_reverse, List.length_drop]
            omega
          generalize hbs : bs ++ ((revDigs 20 n).drop (j + 1)).reverse = cur at ho' hlen
          have HB : Hid (bs ++ ((revDigs 20 n).drop (j + 1)).reverse = cur) := hbs
          have b1 : cur.length + 1 ≤ maxLen := by unfold maxLen; omega
          have b2 : (cur.length + 1) * 1 ≤ 140737488355328 := by omega
          have b3 : base ≤ (wr.alloc (.cells #[.int .u8 x.toNat] 5)).heap.size := by simp; omega
          have hj20 : j < 20 := by omega
          have HR := HI.out
          obtain ⟨hi, hz0, hz1, hz2⟩ := HR
          clear hx hN ho hdr hbs
          go_wp2_with (first | (at_builtin; refine wpList_append_own _ rfl _ _ 32 rfl base 5 i0 (.int .u8 0) 1 1 Try.underlying32 hi hz0 hz1 hz2 rfl (by decide) _ _ _ rfl (ho'.alloc _) ⟨wr.heap.size, 0, none⟩ 1 1 [.int .u8 x.toNat] rfl rfl (cell_one_new _ _ _) (ints_oneCell .u8 [(x.toNat : Int)]) b1 b2 b3 ?_))
          intro v' w' hO hG hnl
          go_wp2
          go_roundg j
          case measure => exact Nat.lt_succ_self _
          case rel =>
            have hS : Own w' base v' (cur ++ [x]) := Own.snoc hO
            have hlt2 : w.heap.size < (wr.alloc (.cells #[.int .u8 x.toNat] 5)).heap.size := by simp; omega
            refine ⟨v', rfl, by omega, by go_num, ?_, ?_, Nat.lt_of_lt_of_le hlt2 hG.size, ?_⟩
            · rw [HX.out, ← List.append_assoc, HB.out]; exact hS
            · rw [hG.block _ hlt2 hne, Below.heap_alloc _ _ _ hlt]; exact HN.out
            · exact (hbel.alloc (by have := hbel.size; omega) _).grown hG b3 (own_block HO2.out)
        · have e : gk = 0 := by omega
          subst e
          have HO2 : Hid (Own wr base vv (bs ++ dec n)) := by
            have : dec n = (revDigs 20 n).reverse := by unfold dec; rw [if_neg (by omega)]
            unfold Hid
            rw [this]
            simpa using ho
          clear ho hN
          go_wp2
          go_ret
          exact ⟨vv, rfl, HO2.out, hbel⟩

theorem count_walk (w : World) (base n : Nat) (v : Value) (bs : List UInt8) (hown : Own w base v bs) (hb : base ≤ w.heap.size) (hl : bs.length ≤ 100000000) (hn : n ≤ 100000000) :
    Calls Try.prog 29 #[v, .int .i64 n] w fun e w' => Appended base w (bs ++ dec n) e w' := by
  rcases Nat.eq_zero_or_pos n with e | e
  · subst e; exact count_zero w base v bs hown hb hl
  · exact count_pos w base n v bs hown hb hl e hn
end Go.Proofs.Qxb6600491a.Enc
