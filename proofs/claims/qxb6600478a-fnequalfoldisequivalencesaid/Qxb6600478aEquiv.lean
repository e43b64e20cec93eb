import Derived.Test.Qxb6600478aWalks
namespace Go.Proofs.Qxb6600478a
open Go.RowKit Plain

theorem bytes10_small (a0 : Option Addr) (len0 cap0 : Nat) (a1 : Option Addr) (len1 cap1 : Nat) (a2 : Option Addr) (len2 cap2 : Nat) (w : World) (h : len0 + len1 + len2 ≤ 1048576) :
    Calls Try.prog 10 #[.slice a0 len0 cap0, .slice a1 len1 cap1, .slice a2 len2 cap2] w fun e w' => e = .returned (.bool true) ∧ w = w' := by
  go_enter Try.func10, Try.ntmps10
  go_wp2
  go_ret
  exact ⟨rfl, rfl⟩

set_option maxHeartbeats 2000000 in
theorem equiv_big (a0 : Option Addr) (len0 cap0 : Nat) (a1 : Option Addr) (len1 cap1 : Nat) (a2 : Option Addr) (len2 cap2 : Nat) (w : World) (h0 : len0 ≤ maxLen) (h1 : len1 ≤ maxLen) (h2 : len2 ≤ maxLen) (hbig : 1048576 < len0 + len1 + len2) :
    Calls Try.prog 4 #[.slice a0 len0 cap0, .slice a1 len1 cap1, .slice a2 len2 cap2] w fun e w' => e = .returned (.bool true) ∧ Below w.heap.size w w' := by
  unfold maxLen at h0 h1 h2
  go_enter Try.func4, Try.ntmps4
  go_wp2
  all_goals (go_ret; exact ⟨rfl, Below.refl _ _⟩)

set_option maxHeartbeats 4000000 in
theorem equiv_small (a0 : Option Addr) (len0 cap0 : Nat) (xs : List Nat) (a1 : Option Addr) (len1 cap1 : Nat) (ys : List Nat) (a2 : Option Addr) (len2 cap2 : Nat) (zs : List Nat) (w : World) (hs : len0 + len1 + len2 ≤ 1048576)
    (hx : ∀ x ∈ xs, x < 256) (hy : ∀ x ∈ ys, x < 256) (hz : ∀ x ∈ zs, x < 256) (hr0 : RowAt .u8 w a0 len0 cap0 xs) (hr1 : RowAt .u8 w a1 len1 cap1 ys) (hr2 : RowAt .u8 w a2 len2 cap2 zs) :
    Calls Try.prog 4 #[.slice a0 len0 cap0, .slice a1 len1 cap1, .slice a2 len2 cap2] w fun e w' => e = .returned (.bool true) ∧ Below w.heap.size w w' := by
  have HX := hid hx
  have HY := hid hy
  have HZ := hid hz
  have R0 := hid hr0
  have R1 := hid hr1
  have R2 := hid hr2
  clear hr0 hr1 hr2 hx hy hz
  go_enter Try.func4, Try.ntmps4
  go_wp2_with fail
  refine (bytes10_small a0 len0 cap0 a1 len1 cap1 a2 len2 cap2 _ hs).mono ?_
  rintro e w' ⟨rfl, rfl⟩
  go_wp2_with fail
  refine (clone_sl a0 len0 cap0 xs _ (by omega) R0.out).mono ?_
  rintro e w1 ⟨b0, c0, rfl, Q0, d1⟩
  have R1' := hid (RowAt.below R1.out d1)
  have B1 := hid d1
  go_wp2_with fail
  refine (clone_sl a1 len1 cap1 ys _ (by omega) R1'.out).mono ?_
  rintro e w2 ⟨b1, c1, rfl, Q1, d2⟩
  have B2 := hid (B1.out.trans (d2.mono B1.out.size))
  have R2' := hid (RowAt.below R2.out B2.out)
  have Q0' := hid (RowAt.below Q0 d2)
  clear Q0 d1 d2 B1
  go_wp2_with fail
  refine (clone_sl a2 len2 cap2 zs _ (by omega) R2'.out).mono ?_
  rintro e w3 ⟨b2, c2, rfl, Q2, d3⟩
  have B3 := hid (B2.out.trans (d3.mono B2.out.size))
  have S0 := hid (RowAt.below Q0'.out d3)
  have S1 := hid (RowAt.below Q1 d3)
  have S2 := hid Q2
  clear Q2 Q1 d3 B2 Q0' R2' R1'
  go_wp2_with fail
  refine (zz_b b0 len0 c0 xs b0 len0 c0 xs true _ (by omega) (by omega) HX.out HX.out S0.out S0.out (foldEq_refl xs)).mono ?_
  rintro e w4 ⟨rfl, d4⟩
  have T0 := hid (RowAt.below S0.out d4)
  have T1 := hid (RowAt.below S1.out d4)
  have T2 := hid (RowAt.below S2.out d4)
  have B4 := hid (B3.out.trans (d4.mono B3.out.size))
  clear d4 S0 S1 S2 B3
  go_wp2_with fail
  cases hab : foldEq xs ys
  · have HAB := hid hab
    clear hab
    refine (zz_b b0 len0 c0 xs b1 len1 c1 ys false _ (by omega) (by omega) HX.out HY.out T0.out T1.out HAB.out).mono ?_
    rintro e w5 ⟨rfl, d5⟩
    have U0 := hid (RowAt.below T0.out d5)
    have U1 := hid (RowAt.below T1.out d5)
    have B5 := hid (B4.out.trans (d5.mono B4.out.size))
    clear d5 T0 T1 T2 B4
    go_wp2_with fail
    refine (zz_b b1 len1 c1 ys b0 len0 c0 xs false _ (by omega) (by omega) HY.out HX.out U1.out U0.out (by rw [foldEq_symm]; exact HAB.out)).mono ?_
    rintro e w6 ⟨rfl, d6⟩
    have B6 := hid (B5.out.trans (d6.mono B5.out.size))
    clear d6
    go_wp2
    go_ret
    exact ⟨rfl, B6.out⟩
  · have HAB := hid hab
    clear hab
    refine (zz_b b0 len0 c0 xs b1 len1 c1 ys true _ (by omega) (by omega) HX.out HY.out T0.out T1.out HAB.out).mono ?_
    rintro e w5 ⟨rfl, d5⟩
    have U0 := hid (RowAt.below T0.out d5)
    have U1 := hid (RowAt.below T1.out d5)
    have U2 := hid (RowAt.below T2.out d5)
    have B5 := hid (B4.out.trans (d5.mono B4.out.size))
    clear d5 T0 T1 T2 B4
    go_wp2_with fail
    refine (zz_b b1 len1 c1 ys b0 len0 c0 xs true _ (by omega) (by omega) HY.out HX.out U1.out U0.out (by rw [foldEq_symm]; exact HAB.out)).mono ?_
    rintro e w6 ⟨rfl, d6⟩
    have V0 := hid (RowAt.below U0.out d6)
    have V1 := hid (RowAt.below U1.out d6)
    have V2 := hid (RowAt.below U2.out d6)
    have B6 := hid (B5.out.trans (d6.mono B5.out.size))
    clear d6 U0 U1 U2 B5
    go_wp2_with fail
    cases hbc : foldEq ys zs
    · have HBC := hid hbc
      clear hbc
      refine (zz_b b1 len1 c1 ys b2 len2 c2 zs false _ (by omega) (by omega) HY.out HZ.out V1.out V2.out HBC.out).mono ?_
      rintro e w7 ⟨rfl, d7⟩
      have B7 := hid (B6.out.trans (d7.mono B6.out.size))
      clear d7
      go_wp2
      go_ret
      exact ⟨rfl, B7.out⟩
    · have HBC := hid hbc
      clear hbc
      refine (zz_b b1 len1 c1 ys b2 len2 c2 zs true _ (by omega) (by omega) HY.out HZ.out V1.out V2.out HBC.out).mono ?_
      rintro e w7 ⟨rfl, d7⟩
      have W0 := hid (RowAt.below V0.out d7)
      have W2 := hid (RowAt.below V2.out d7)
      have B7 := hid (B6.out.trans (d7.mono B6.out.size))
      clear d7
      go_wp2_with fail
      refine (zz_b b0 len0 c0 xs b2 len2 c2 zs true _ (by omega) (by omega) HX.out HZ.out W0.out W2.out (foldEq_trans xs ys zs HAB.out HBC.out)).mono ?_
      rintro e w8 ⟨rfl, d8⟩
      have B8 := hid (B7.out.trans (d8.mono B7.out.size))
      clear d8
      go_wp2
      go_ret
      exact ⟨rfl, B8.out⟩

end Go.Proofs.Qxb6600478a
