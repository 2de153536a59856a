import Derived.Test.Qxb6600491aCount
namespace Go.Proofs.Qxb6600491a.Enc
open Go.RowKit Go.Proofs.Qxb6600491a.Fd

theorem sumSz_mono (T : Nat → ByteArray) {a b : Nat} (h : a ≤ b) : sumSz T a ≤ sumSz T b := by
  induction b with
  | zero => have : a = 0 := by omega
            rw [this]; exact Nat.le_refl _
  | succ b ih =>
    by_cases e : a = b + 1
    · rw [e]; exact Nat.le_refl _
    · have := ih (by omega)
      simp only [sumSz]
      omega
theorem encTo_bound (T : Nat → ByteArray) (len k : Nat) : (encTo T len k).length ≤ 20 + 22 * k + sumSz T k := by
  induction k with
  | zero => rw [encTo_zero]; have := dec_len len; omega
  | succ k ih => have := encTo_len T len k; simp only [sumSz]; omega

theorem Own.string {w : World} {base : Nat} {v : Value} {bs : List UInt8} {s : ByteArray} (h : w.ownsRow base 5 1 v (bs.length + s.size) (bcells bs ++ Lib.strCells s)) : Own w base v (bs ++ s.data.toList) := by
  unfold Own bcells
  have e : (bs ++ s.data.toList).length = bs.length + s.size := by
    rw [List.length_append, Array.length_toList]; rfl
  rw [e, List.map_append]
  exact h

theorem row_at {w w' : World} {b o k : Nat} {s : ByteArray} {base : Nat} (h : w.cell? ⟨b, o + k, none⟩ = some (.string s)) (hb : b < base) (hB : Below base w w') : w'.cell? ⟨b, o + k, none⟩ = some (.string s) :=
  (hB.cell (p := ⟨b, o + k, none⟩) hb).trans h

set_option maxHeartbeats 1000000 in
theorem encode_walk (w : World) (a : Option Addr) (len cap : Nat) (T : Nat → ByteArray) (h : StrRow w a len T) (l : len ≤ 65536) (hsum : sumSz T len ≤ 1048576) :
    Calls Try.prog 22 #[.slice a len cap] w fun e w' => Appended w.heap.size w (encTo T len len) e w' := by
  obtain ⟨i0, hi, hz0, hz1, hz2⟩ := info_parts info5
  have HI : Hid (Try.prog.info? 5 = some i0 ∧ i0.zero = some (.int .u8 0) ∧ i0.size = 1 ∧ i0.bytes = 1) := ⟨hi, hz0, hz1, hz2⟩
  clear hi hz0 hz1 hz2
  obtain ⟨base, hbase⟩ : ∃ base, w.heap.size = base := ⟨_, rfl⟩
  rw [hbase]
  go_enter Try.func22, Try.ntmps22
  go_wp2_with fail
  refine (count_walk w base len _ [] (Own.nil w base) (by omega) (by simp) (by omega)).mono ?_
  rintro e w1 ⟨v1, rfl, hO1, hB1⟩
  go_wp2
  go_loopg [3, 4] len (fun g s3 s4 wr => ∃ (k : Nat) (vv : Value), k + g = len ∧ vv = s3 ∧ s4 = .int .i64 k ∧ Own wr base vv (encTo T len k) ∧ Below base w wr)
  case atStart => exact ⟨0, v1, Nat.zero_add _, rfl, rfl, by rw [encTo_zero]; exact hO1, hB1⟩
  case round =>
    obtain ⟨k, vv, hk, rfl, rfl, ho, hbel⟩ := hrel
    clear hO1 hB1
    by_cases hlt : k < len
    · rcases h with h | ⟨b, o, rfl, hb, hc, hs⟩
      · omega
      have hbb : b < base := by omega
      have c0 := hc k hlt
      have hsz := encTo_bound T len k
      have hm1 := sumSz_mono T (Nat.le_of_lt hlt)
      have hm2 : sumSz T (k + 1) ≤ sumSz T len := sumSz_mono T hlt
      have hTk : (T k).size ≤ 1048576 := by simp only [sumSz] at hm2; omega
      have z : (k : Int) < (len : Int) := by omega
      have HK : Hid (k + gk = len) := hk
      have HS : Hid (encTo T len (k + 1) = encTo T len k ++ [59] ++ dec (T k).size ++ [58] ++ (T k).data.toList) := encTo_succ T len k
      have hlen : (encTo T len k).length ≤ 10000000 := by omega
      generalize encTo T len k = cur at ho hsz hlen HS
      have ho' : wr.ownsRow base 5 1 vv cur.length (bcells cur) := ho
      have HO : Hid (Own wr base vv cur) := ho
      have hws := hbel.size
      have b1 : cur.length + 1 ≤ maxLen := by unfold maxLen; omega
      have b2 : (cur.length + 1) * 1 ≤ 140737488355328 := by omega
      have b3 : base ≤ (wr.alloc (.cells #[.int .u8 59] 5)).heap.size := by simp; omega
      have HC : Hid (w.cell? ⟨b, o + k, none⟩ = some (.string (T k))) := c0
      have HBw : Hid (w.heap.size = base) := hbase
      obtain ⟨hi, hz0, hz1, hz2⟩ := HI.out
      clear hk hc hs ho c0 hm1 hm2 hsz hbase
      go_wp2_with (first | (at_builtin; refine wpList_append_own _ rfl _ _ 32 rfl base 5 i0 (.int .u8 0) 1 1 Try.underlying32 hi hz0 hz1 hz2 rfl (by decide) _ _ _ rfl (ho'.alloc _) ⟨wr.heap.size, 0, none⟩ 1 1 [.int .u8 59] rfl rfl (cell_one_new _ _ _) (ints_oneCell .u8 [59]) b1 b2 b3 ?_))
      intro v2 w2 hO2 hG2 _
      have hS2 : Own w2 base v2 (cur ++ [59]) := Own.snoc hO2
      have hb2 : Below base w w2 := (hbel.alloc (by have := HBw.out; omega) _).grown hG2 b3 (own_block HO.out)
      have c2 := row_at HC.out hbb hb2
      clear hO2 hG2 ho' b1 b2 b3
      go_wp2_with fail
      refine (count_walk w2 base (T k).size v2 (cur ++ [59]) hS2 (by have := hb2.size; have := HBw.out; omega) (by simp; omega) (by omega)).mono ?_
      rintro e w3 ⟨v3, rfl, hO3, hB3⟩
      have hd := dec_len (T k).size
      have hb3 : Below base w w3 := hb2.trans hB3
      have hlen3 : (cur ++ [59] ++ dec (T k).size).length ≤ 10000100 := by simp only [List.length_append, List.length_singleton]; omega
      generalize hcur : cur ++ [59] ++ dec (T k).size = cur3 at hO3 hlen3
      have HC3 : Hid (cur ++ [59] ++ dec (T k).size = cur3) := hcur
      have ho3 : w3.ownsRow base 5 1 v3 cur3.length (bcells cur3) := hO3
      have HO3 : Hid (Own w3 base v3 cur3) := hO3
      have b1 : cur3.length + 1 ≤ maxLen := by unfold maxLen; omega
      have b2 : (cur3.length + 1) * 1 ≤ 140737488355328 := by omega
      have b3 : base ≤ (w3.alloc (.cells #[.int .u8 58] 5)).heap.size := by have := hb3.size; have := HBw.out; simp; omega
      clear hcur hO3 hd hS2 c2
      go_wp2_with (first | (at_builtin; refine wpList_append_own _ rfl _ _ 32 rfl base 5 i0 (.int .u8 0) 1 1 Try.underlying32 hi hz0 hz1 hz2 rfl (by decide) _ _ _ rfl (ho3.alloc _) ⟨w3.heap.size, 0, none⟩ 1 1 [.int .u8 58] rfl rfl (cell_one_new _ _ _) (ints_oneCell .u8 [58]) b1 b2 b3 ?_))
      intro v4 w4 hO4 hG4 _
      have hS4 : Own w4 base v4 (cur3 ++ [58]) := Own.snoc hO4
      have hb4 : Below base w w4 := (hb3.alloc (by have := hb3.size; have := HBw.out; omega) _).grown hG4 b3 (own_block HO3.out)
      have c4 := row_at HC.out hbb hb4
      have ho4 : w4.ownsRow base 5 1 v4 (cur3 ++ [58]).length (bcells (cur3 ++ [58])) := hS4
      have d1 : (cur3 ++ [58]).length + (T k).size ≤ maxLen := by unfold maxLen; simp; omega
      have d2 : (cur3 ++ [58]).length + (T k).size ≤ 140737488355328 := by simp; omega
      have d3 : base ≤ w4.heap.size := by have := hb4.size; have := HBw.out; omega
      have HO4 : Hid (Own w4 base v4 (cur3 ++ [58])) := hS4
      clear hO4 hG4 ho3 b1 b2 b3 hS4
      go_wp2_with (first | (at_builtin; refine Lib.wpList_append_own_string _ rfl _ _ 32 9 rfl base 5 i0 Try.underlying32 Try.underlying9 hi hz0 hz1 hz2 _ _ _ rfl ho4 (T k) rfl d1 d2 d3 ?_))
      intro v5 w5 hO5 hG5 _
      have hS5 : Own w5 base v5 (cur3 ++ [58] ++ (T k).data.toList) := Own.string (by rw [List.length_append, List.length_singleton]; exact hO5)
      have hb5 : Below base w w5 := hb4.grown hG5 d3 (own_block HO4.out)
      clear hO5 hG5 ho4
      go_wp2
      go_roundg (len - (k + 1))
      case measure => have := HK.out; omega
      case rel => exact ⟨k + 1, v5, by omega, rfl, by go_num, by rw [HS.out, HC3.out]; exact hS5, hb5⟩
    · have e : k = len := by omega
      have HO : Hid (Own wr base vv (encTo T len len)) := by unfold Hid; rw [e] at ho; exact ho
      clear hk e ho
      go_wp2
      go_ret
      exact ⟨vv, rfl, HO.out, hbel⟩

/-- What is known of a slice of bytes. -/
def ByteRow (w : World) (v : Value) (bs : List UInt8) : Prop :=
  ∃ a cap, v = .slice a bs.length cap ∧ (bs.length = 0 ∨ ∃ g, a = some ⟨g, 0, none⟩ ∧ g < w.heap.size ∧ ∀ i, i < bs.length → w.cell? ⟨g, i, none⟩ = some (.int .u8 (bs.getD i 0).toNat))

theorem Own.row {w : World} {base : Nat} {v : Value} {bs : List UInt8} (h : Own w base v bs) : ByteRow w v bs := by
  rcases h.2 with ⟨rfl, h0⟩ | ⟨g, cap, cur, rfl, hb, hg, hn, hm, hcs, ht⟩
  · exact ⟨none, 0, by rw [h0], Or.inl h0⟩
  · refine ⟨some ⟨g, 0, none⟩, cap, rfl, Or.inr ⟨g, rfl, (Array.getElem?_eq_some_iff.1 hg).1, fun i hi => ?_⟩⟩
    have hc := h.cells (g := g) rfl i (.int .u8 (bs.getD i 0).toNat) (by simp [bcells, List.getD, hi])
    rw [Addr.add_lit, Nat.zero_add] at hc
    exact hc
theorem ByteRow.below {w w' : World} {v : Value} {bs : List UInt8} (h : ByteRow w v bs) (hb : Below w.heap.size w w') : ByteRow w' v bs := by
  obtain ⟨a, cap, e, h⟩ := h
  refine ⟨a, cap, e, ?_⟩
  rcases h with h | ⟨g, e2, hg, hc⟩
  · exact Or.inl h
  · exact Or.inr ⟨g, e2, Nat.lt_of_lt_of_le hg hb.size, fun i hi => (hb.cell (p := ⟨g, i, none⟩) hg).trans (hc i hi)⟩

theorem byte_eq {a b : UInt8} (h : a = b) : ((a.toNat : Int) == (b.toNat : Int)) = true := by rw [h]; simp
theorem byte_ne {a b : UInt8} (h : a ≠ b) : ((a.toNat : Int) == (b.toNat : Int)) = false := by
  rw [beq_eq_false_iff_ne]
  intro e
  exact h (UInt8.toNat_inj.1 (by omega))
theorem ext_getD {l l' : List UInt8} (hl : l.length = l'.length) (h : ∀ i, i < l.length → l.getD i 0 = l'.getD i 0) : l = l' := by
  refine List.ext_getElem hl fun i h1 h2 => ?_
  have := h i h1
  simpa [List.getD, h1, h2] using this

set_option maxHeartbeats 400000 in
theorem bytes_walk (w : World) (v0 v1 : Value) (bs0 bs1 : List UInt8) (h0 : ByteRow w v0 bs0) (h1 : ByteRow w v1 bs1) (l0 : bs0.length ≤ 100000000) :
    Calls Try.prog 21 #[v0, v1] w fun e w' => ∃ b, e = .returned (.bool b) ∧ (b = true ↔ bs0 = bs1) ∧ ∃ m, w' = w.drewN m := by
  obtain ⟨a0, cap0, rfl, h0⟩ := h0
  obtain ⟨a1, cap1, rfl, h1⟩ := h1
  by_cases hl : bs0.length = bs1.length
  · generalize hL : bs0.length = L at *
    have HL : Hid (bs0.length = L ∧ bs1.length = L) := ⟨hL, hl.symm⟩
    rw [← hl] at h1 ⊢
    clear hL hl
    go_enter Try.func21, Try.ntmps21
    go_wp2
    go_loopg [5] L (fun g s5 wr => ∃ k m : Nat, k + g = L ∧ s5 = .int .i64 k ∧ (∀ i, i < k → bs0.getD i 0 = bs1.getD i 0) ∧ wr = w.drewN m)
    case atStart => exact ⟨0, 0, Nat.zero_add _, rfl, fun i hi => absurd hi (Nat.not_lt_zero _), rfl⟩
    case round =>
      obtain ⟨k, m, hk, rfl, heq, rfl⟩ := hrel
      have HQ : Hid (∀ i, i < k → bs0.getD i 0 = bs1.getD i 0) := heq
      clear heq
      by_cases hlt : k < L
      · rcases h0 with h0 | ⟨g0, rfl, hb0, hc0⟩
        · omega
        rcases h1 with h1 | ⟨g1, rfl, hb1, hc1⟩
        · omega
        have c0 := hc0 k hlt
        have c1 := hc1 k hlt
        have z : (k : Int) < (L : Int) := by omega
        have HK : Hid (k + gk = L) := hk
        generalize hx0 : bs0.getD k 0 = x0 at c0
        generalize hx1 : bs1.getD k 0 = x1 at c1
        have HX : Hid (bs0.getD k 0 = x0 ∧ bs1.getD k 0 = x1) := ⟨hx0, hx1⟩
        clear hk hc0 hc1 hx0 hx1
        by_cases he : x0 = x1
        · have HE : Hid (x0 = x1) := he
          have he' := byte_eq he
          clear he
          go_wp2
          go_quiet (fail)
          go_wp2
          go_roundg (L - (k + 1))
          case measure => have := HK.out; omega
          case rel => exact ⟨k + 1, _, by omega, by go_num, fun i hi => by
            by_cases e : i = k
            · rw [e, HX.out.1, HX.out.2]; exact HE.out
            · exact HQ.out i (by omega), rfl⟩
        · have he' := byte_ne he
          have HE : Hid (x0 ≠ x1) := he
          clear he
          go_wp2
          go_quiet (fail)
          go_wp2
          go_ret
          exact ⟨false, rfl, ⟨fun h => absurd h (by decide), fun h => absurd (by rw [← HX.out.1, ← HX.out.2, h]) HE.out⟩, m + nq, by simp [World.drewN_drewN]⟩
      · have HE : Hid (bs0 = bs1) := ext_getD (by rw [HL.out.1, HL.out.2]) (fun i hi => HQ.out i (by have := HL.out.1; omega))
        clear hk
        go_wp2
        go_ret
        exact ⟨true, rfl, ⟨fun _ => HE.out, fun _ => rfl⟩, _, rfl⟩
  · have hl' : ((bs0.length : Int) == (bs1.length : Int)) = false := by simpa using fun h : (bs0.length : Int) = (bs1.length : Int) => hl (by omega)
    have HL : Hid (bs0.length ≠ bs1.length) := hl
    clear hl
    go_enter Try.func21, Try.ntmps21
    go_wp2
    go_ret
    exact ⟨false, rfl, ⟨fun h => absurd h (by decide), fun h => absurd (by rw [h]) HL.out⟩, 0, rfl⟩
end Go.Proofs.Qxb6600491a.Enc
