import Derived.Test.Qxb6600491aEncode
import Derived.Test.Qxb6600491aEquiv
namespace Go.Proofs.Qxb6600491a.Enc
open Go.RowKit Go.Proofs.Qxb6600491a.Fd

theorem enc_same {T0 T1 : Nat → ByteArray} {len0 len1 : Nat} (h : Same len0 T0 len1 T1) : encTo T0 len0 len0 = encTo T1 len1 len1 := by
  obtain ⟨rfl, h⟩ := h
  unfold encTo
  have : (List.range len0).map (fun i => (T0 i).data.toList) = (List.range len0).map (fun i => (T1 i).data.toList) :=
    List.map_congr_left fun i hi => by rw [h i (List.mem_range.1 hi)]
  rw [this]

set_option maxHeartbeats 2000000 in
theorem law7 (w : World) (a0 : Option Addr) (len0 cap0 : Nat) (T0 : Nat → ByteArray) (a1 : Option Addr) (len1 cap1 : Nat) (T1 : Nat → ByteArray)
    (l0 : len0 ≤ maxLen) (h0 : StrRow w a0 len0 T0) (n0 : a0 = none → len0 = 0) (l1 : len1 ≤ maxLen) (h1 : StrRow w a1 len1 T1) (n1 : a1 = none → len1 = 0) :
    Calls Try.prog 7 #[.slice a0 len0 cap0, .slice a1 len1 cap1] w fun e w' => e = .returned (.bool true) ∧ Below w.heap.size w w' := by
  have hbytes := bytes17 w a0 len0 cap0 T0 a1 len1 cap1 T1 l0 h0 l1 h1
  unfold maxLen at l0 l1
  go_enter Try.func7, Try.ntmps7
  go_wp2_with fail
  refine hbytes.mono ?_
  rintro e w' ⟨b, rfl, rfl⟩
  cases b
  · go_wp2
    go_ret
    exact ⟨rfl, Below.refl _ _⟩
  by_cases g0 : len0 ≤ 65536
  case neg =>
    go_wp2
    go_ret
    exact ⟨rfl, Below.refl _ _⟩
  by_cases g1 : len1 ≤ 65536
  case neg =>
    go_wp2
    go_ret
    exact ⟨rfl, Below.refl _ _⟩
  go_wp2_with fail
  refine (size_walk w' a0 len0 cap0 T0 h0 g0).mono ?_
  rintro e w1 ⟨x0, rfl, rfl, hx0, hs0⟩
  have HS0 : Hid (x0 ≤ 1048576 → 16 * len0 + sumSz T0 len0 = x0) := hs0
  clear hs0
  go_wp2_with fail
  refine (size_walk w1 a1 len1 cap1 T1 h1 g1).mono ?_
  rintro e w2 ⟨x1, rfl, rfl, hx1, hs1⟩
  have HS1 : Hid (x1 ≤ 1048576 → 16 * len1 + sumSz T1 len1 = x1) := hs1
  clear hs1
  by_cases gs : x0 + x1 ≤ 1048576
  case neg =>
    go_wp2
    go_ret
    exact ⟨rfl, Below.refl _ _⟩
  have q0 : sumSz T0 len0 ≤ 1048576 := by have := HS0.out (by omega); omega
  have q1 : sumSz T1 len1 ≤ 1048576 := by have := HS1.out (by omega); omega
  go_wp2_with fail
  refine (clone_walk w2 a0 len0 cap0 T0 h0 g0 n0).mono ?_
  rintro e wa ⟨b0, d0, rfl, r0, m0, k0⟩
  go_wp2_with fail
  refine (clone_walk wa a1 len1 cap1 T1 (h1.below k0) g1 n1).mono ?_
  rintro e wb ⟨b1, d1, rfl, r1, m1, k1⟩
  have R0 : StrRow wb b0 len0 T0 := r0.below k1
  have K : Below w2.heap.size w2 wb := k0.trans (k1.mono k0.size)
  clear hbytes h0 h1 n0 n1 hx0 hx1 gs r0 m0 m1 k0 k1 l0 l1 HS0 HS1
  go_wp2_with fail
  refine (zzsame_walk wb b0 b1 len0 d0 len1 d1 T0 T1 R0 r1 g0 g1).mono ?_
  rintro e wx ⟨t, rfl, ht, m, rfl⟩
  have HT : Hid (t = true ↔ Same len0 T0 len1 T1) := ht
  have R0 := R0.drewN m
  have R1 := r1.drewN m
  have K := below_drewN K m
  clear ht r1
  generalize wb.drewN m = wb at *
  go_wp2_with fail
  refine (encode_walk wb b0 len0 d0 T0 R0 g0 q0).mono ?_
  rintro e wc ⟨v0, rfl, o0, k0⟩
  go_wp2_with fail
  refine (encode_walk wc b1 len1 d1 T1 (R1.below k0) g1 q1).mono ?_
  rintro e wd ⟨v1, rfl, o1, k1⟩
  have B0 := encTo_bound T0 len0 len0
  go_wp2_with fail
  refine (bytes_walk wd v0 v1 _ _ (o0.row.below k1) o1.row (by omega)).mono ?_
  rintro e wx ⟨u, rfl, hu, m, rfl⟩
  have e2 : u = t := by
    rw [Bool.eq_iff_iff]
    constructor
    · intro h
      exact HT.out.2 (encTo_inj g0 g1 (fun i hi => R0.small i hi) (fun i hi => R1.small i hi) (hu.1 h))
    · intro h
      exact hu.2 (enc_same (HT.out.1 h))
  have KK : Hid (Below w2.heap.size w2 (wd.drewN m)) := below_drewN ((K.trans (k0.mono K.size)).trans (k1.mono (Nat.le_trans K.size k0.size))) m
  subst e2
  clear hu HT
  go_wp2
  go_ret
  exact ⟨by simp, KK.out⟩
end Go.Proofs.Qxb6600491a.Enc
