import Derived.Test.Qxb6600491aGuards
namespace Go.Proofs.Qxb6600491a.Fd
open Go.RowKit

theorem Same.refl (len : Nat) (T : Nat → ByteArray) : Same len T len T := ⟨rfl, fun _ _ => rfl⟩
theorem Same.symm {l0 l1 : Nat} {T0 T1 : Nat → ByteArray} (h : Same l0 T0 l1 T1) : Same l1 T1 l0 T0 := ⟨h.1.symm, fun i hi => (h.2 i (by have := h.1; omega)).symm⟩
theorem Same.trans {l0 l1 l2 : Nat} {T0 T1 T2 : Nat → ByteArray} (h : Same l0 T0 l1 T1) (k : Same l1 T1 l2 T2) : Same l0 T0 l2 T2 :=
  ⟨h.1.trans k.1, fun i hi => (h.2 i hi).trans (k.2 i (by have := h.1; omega))⟩

theorem StrRow.drewN {w : World} {a : Option Addr} {len : Nat} {T : Nat → ByteArray} (h : StrRow w a len T) (m : Nat) : StrRow (w.drewN m) a len T := h.below (below_drewN (Below.refl _ _) m)

/-- The law, behind its guards: in a world that holds the three lists' own copies and the twin. -/
def Laid (w0 w : World) (a0 a1 a2 at' : Option Addr) (len0 len1 len2 : Nat) (T0 T1 T2 : Nat → ByteArray) : Prop :=
  StrRow w a0 len0 T0 ∧ StrRow w a1 len1 T1 ∧ StrRow w a2 len2 T2 ∧ StrRow w at' len0 T0 ∧ Below w0.heap.size w0 w

theorem Laid.drewN {w0 w : World} {a0 a1 a2 at' : Option Addr} {len0 len1 len2 : Nat} {T0 T1 T2 : Nat → ByteArray} (h : Laid w0 w a0 a1 a2 at' len0 len1 len2 T0 T1 T2) (m : Nat) : Laid w0 (w.drewN m) a0 a1 a2 at' len0 len1 len2 T0 T1 T2 :=
  ⟨h.1.drewN m, h.2.1.drewN m, h.2.2.1.drewN m, h.2.2.2.1.drewN m, below_drewN h.2.2.2.2 m⟩

set_option maxHeartbeats 2000000 in
theorem law8 (w : World) (a0 : Option Addr) (len0 cap0 : Nat) (T0 : Nat → ByteArray) (a1 : Option Addr) (len1 cap1 : Nat) (T1 : Nat → ByteArray) (a2 : Option Addr) (len2 cap2 : Nat) (T2 : Nat → ByteArray)
    (l0 : len0 ≤ maxLen) (h0 : StrRow w a0 len0 T0) (n0 : a0 = none → len0 = 0) (l1 : len1 ≤ maxLen) (h1 : StrRow w a1 len1 T1) (n1 : a1 = none → len1 = 0) (l2 : len2 ≤ maxLen) (h2 : StrRow w a2 len2 T2) (n2 : a2 = none → len2 = 0) :
    Calls Try.prog 8 #[.slice a0 len0 cap0, .slice a1 len1 cap1, .slice a2 len2 cap2] w fun e w' => e = .returned (.bool true) ∧ Below w.heap.size w w' := by
  have hbytes := bytes23 w a0 len0 cap0 T0 a1 len1 cap1 T1 a2 len2 cap2 T2 l0 h0 l1 h1 l2 h2
  unfold maxLen at l0 l1 l2
  go_enter Try.func8, Try.ntmps8
  go_wp2_with fail
  refine hbytes.mono ?_
  rintro e w' ⟨b, rfl, rfl⟩
  cases b
  · go_wp2
    go_ret
    exact ⟨rfl, Below.refl _ _⟩
  by_cases g0 : len0 ≤ 65536
  case neg =>
    go_wp2
    go_ret
    exact ⟨rfl, Below.refl _ _⟩
  by_cases g1 : len1 ≤ 65536
  case neg =>
    go_wp2
    go_ret
    exact ⟨rfl, Below.refl _ _⟩
  by_cases g2 : len2 ≤ 65536
  case neg =>
    go_wp2
    go_ret
    exact ⟨rfl, Below.refl _ _⟩
  go_wp2_with fail
  refine (size_walk w' a0 len0 cap0 T0 h0 g0).mono ?_
  rintro e w1 ⟨x0, rfl, rfl, hx0, _⟩
  go_wp2_with fail
  refine (size_walk w1 a1 len1 cap1 T1 h1 g1).mono ?_
  rintro e w2 ⟨x1, rfl, rfl, hx1, _⟩
  go_wp2_with fail
  refine (size_walk w2 a2 len2 cap2 T2 h2 g2).mono ?_
  rintro e w3 ⟨x2, rfl, rfl, hx2, _⟩
  by_cases gs : x0 + x1 + x2 ≤ 1048576
  case neg =>
    go_wp2
    go_ret
    exact ⟨rfl, Below.refl _ _⟩
  go_wp2_with fail
  refine (clone_walk w3 a0 len0 cap0 T0 h0 g0 n0).mono ?_
  rintro e wa ⟨b0, d0, rfl, r0, m0, k0⟩
  go_wp2_with fail
  refine (clone_walk wa a1 len1 cap1 T1 (h1.below k0) g1 n1).mono ?_
  rintro e wb ⟨b1, d1, rfl, r1, m1, k1⟩
  go_wp2_with fail
  refine (clone_walk wb a2 len2 cap2 T2 ((h2.below k0).below k1) g2 n2).mono ?_
  rintro e wc ⟨b2, d2, rfl, r2, m2, k2⟩
  go_wp2_with fail
  refine (fresh_walk wc b0 len0 d0 T0 ((r0.below k1).below k2) g0).mono ?_
  rintro e wt ⟨b3, d3, rfl, r3, m3, k3⟩
  have L : Laid w3 wt b0 b1 b2 b3 len0 len1 len2 T0 T1 T2 :=
    ⟨((r0.below k1).below k2).below k3, (r1.below k2).below k3, r2.below k3, r3, ((k0.trans (k1.mono k0.size)).trans (k2.mono (Nat.le_trans k0.size k1.size))).trans (k3.mono (Nat.le_trans (Nat.le_trans k0.size k1.size) k2.size))⟩
  clear hbytes h0 h1 h2 n0 n1 n2 hx0 hx1 hx2 gs r0 r1 r2 r3 m0 m1 m2 m3 k0 k1 k2 k3 l0 l1 l2
  go_wp2_with fail
  refine (zzsame_walk wt b0 b3 len0 d0 len0 d3 T0 T0 L.1 L.2.2.2.1 g0 g0).mono ?_
  rintro e wx ⟨t, rfl, ht, m, rfl⟩
  have e1 : t = true := ht.2 (Same.refl _ _)
  subst e1
  have L := L.drewN m
  clear ht
  generalize wt.drewN m = wt at *
  go_wp2_with fail
  refine (zzsame_walk wt b3 b0 len0 d3 len0 d0 T0 T0 L.2.2.2.1 L.1 g0 g0).mono ?_
  rintro e wx ⟨t, rfl, ht, m, rfl⟩
  have e1 : t = true := ht.2 (Same.refl _ _)
  subst e1
  have L := L.drewN m
  clear ht
  generalize wt.drewN m = wt at *
  go_wp2_with fail
  refine (zzsame_walk wt b0 b1 len0 d0 len1 d1 T0 T1 L.1 L.2.1 g0 g1).mono ?_
  rintro e wx ⟨ab, rfl, hab, m, rfl⟩
  have HAB : Hid (ab = true ↔ Same len0 T0 len1 T1) := hab
  have L := L.drewN m
  clear hab
  generalize wt.drewN m = wt at *
  go_wp2_with fail
  refine (zzsame_walk wt b1 b0 len1 d1 len0 d0 T1 T0 L.2.1 L.1 g1 g0).mono ?_
  rintro e wx ⟨ba, rfl, hba, m, rfl⟩
  have L := L.drewN m
  have e2 : ba = ab := by
    rw [Bool.eq_iff_iff]
    exact ⟨fun h => HAB.out.2 (hba.1 h).symm, fun h => hba.2 (HAB.out.1 h).symm⟩
  subst e2
  clear hba
  generalize wt.drewN m = wt at *
  cases ba
  · go_wp2
    go_ret
    exact ⟨rfl, L.2.2.2.2⟩
  · go_wp2_with fail
    refine (zzsame_walk wt b1 b2 len1 d1 len2 d2 T1 T2 L.2.1 L.2.2.1 g1 g2).mono ?_
    rintro e wx ⟨bc, rfl, hbc, m, rfl⟩
    have HBC : Hid (bc = true ↔ Same len1 T1 len2 T2) := hbc
    have L := L.drewN m
    clear hbc
    generalize wt.drewN m = wt at *
    cases bc
    · go_wp2
      go_ret
      exact ⟨rfl, L.2.2.2.2⟩
    · go_wp2_with fail
      refine (zzsame_walk wt b0 b2 len0 d0 len2 d2 T0 T2 L.1 L.2.2.1 g0 g2).mono ?_
      rintro e wx ⟨ac, rfl, hac, m, rfl⟩
      have e3 : ac = true := hac.2 ((HAB.out.1 (by trivial)).trans (HBC.out.1 (by trivial)))
      have L := L.drewN m
      subst e3
      clear hac
      go_wp2
      go_ret
      exact ⟨rfl, L.2.2.2.2⟩
end Go.Proofs.Qxb6600491a.Fd
