import Derived.Test.Qxb6600478aWalks
namespace Go.Proofs.Qxb6600478a
open Go.RowKit Plain

set_option maxHeartbeats 1000000 in
theorem model_any (a : Option Addr) (n cap : Nat) (xs : List Nat) (a' : Option Addr) (n' cap' : Nat) (ys : List Nat) (w : World) (hn : n ≤ 4194304) (hn' : n' ≤ 4194304) (hx : ∀ x ∈ xs, x < 256) (hy : ∀ x ∈ ys, x < 256) (hr : RowAt .u8 w a n cap xs) (hr' : RowAt .u8 w a' n' cap' ys) :
    Calls Try.prog 9 #[.slice a n cap, .slice a' n' cap'] w fun e w' => e = .returned (.bool (foldEq xs ys)) ∧ w = w' := by
  obtain ⟨hl, _, _, _, hcell⟩ := hr
  obtain ⟨hl', _, _, _, hcell'⟩ := hr'
  have HX := hid hx
  have HY := hid hy
  clear hx hy
  by_cases hne : n = n'
  · subst hne
    go_enter Try.func9, Try.ntmps9
    go_wp2
    go_loop [5] (fun i => ∃ k : Nat, k ≤ n ∧ i = .int .i64 k ∧ (∀ j, j < k → low (xs.getD j 0) = low (ys.getD j 0))) (fun i => n - (intOf i).toNat)
    case atStart => exact ⟨0, Nat.zero_le _, rfl, fun j h => by omega⟩
    case round =>
      obtain ⟨k, hk, rfl, hall⟩ := hrel
      have HALL := hid hall
      clear hall
      by_cases hlt : k < n
      · obtain ⟨b, off, rfl, hc⟩ := hcell (by omega)
        obtain ⟨b', off', rfl, hc'⟩ := hcell' (by omega)
        have h1 := hc k hlt
        have h2 := hc' k hlt
        have x1 := HX.out _ (mem_of_getD (show k < xs.length by omega))
        have x2 := HY.out _ (mem_of_getD (show k < ys.length by omega))
        have hkn : (k : Int) < (n : Int) := by omega
        have HM := hid (foldEq_miss (xs := xs) (ys := ys) (k := k) (by omega) (by omega))
        have HS : Hid (low (xs.getD k 0) = low (ys.getD k 0) → ∀ j, j < k + 1 → low (xs.getD j 0) = low (ys.getD j 0)) := fun h j hj => by
          by_cases e : j = k
          · rw [e]; exact h
          · exact HALL.out j (by omega)
        generalize xs.getD k 0 = x at h1 x1 HM HS
        generalize ys.getD k 0 = y at h2 x2 HM HS
        clear hc hc' hcell hcell'
        by_cases heq : x = y
        · subst heq
          go_wp2
          go_round
          case rel => exact ⟨k + 1, by omega, by go_num, HS.out rfl⟩
          case measure => simp [intOf]; omega
        · have g1 : ((x : Int) == (y : Int)) = false := by rw [beq_eq_false_iff_ne]; omega
          have hxor := u8_xor_nat x y x1 x2
          have hor : bits BinOp.or IntKind.u8 (x : Int) 32 = ((x ||| 32 : Nat) : Int) := u8_or_nat x 32 x1 (by omega)
          have HNO := hid (xor_no x y x1 x2 heq)
          have HYES := hid (xor_yes x y x1)
          clear heq
          have ho : x ||| 32 < 256 := Nat.or_lt_two_pow (n := 8) x1 (by omega)
          generalize x ^^^ y = u at hxor HNO HYES
          generalize x ||| 32 = o at hor HNO HYES ho
          by_cases hu : u = 32
          · have g2 : ((u : Int) != 32) = false := by rw [bne_eq_false_iff_eq]; omega
            by_cases ho1 : o < 97
            · have HF := hid (HM.out (fun h => by have := HNO.out h; omega))
              clear hu
              go_wp2
              go_ret
              exact ⟨by rw [HF.out]; rfl, rfl⟩
            · by_cases ho2 : 122 < o
              · have HF := hid (HM.out (fun h => by have := HNO.out h; omega))
                clear hu
                go_wp2
                go_ret
                exact ⟨by rw [HF.out]; rfl, rfl⟩
              · have HT := hid (HYES.out hu (by omega) (by omega))
                clear hu
                go_wp2
                go_round
                case rel => exact ⟨k + 1, by omega, by go_num, HS.out HT.out⟩
                case measure => simp [intOf]; omega
          · have g2 : ((u : Int) != 32) = true := by rw [bne_iff_ne]; omega
            have HF := hid (HM.out (fun h => by have := HNO.out h; omega))
            clear hu
            go_wp2
            go_ret
            exact ⟨by rw [HF.out]; rfl, rfl⟩
      · have HP := hid (foldEq_all (xs := xs) (ys := ys) (by omega) (fun i hi => HALL.out i (by omega)))
        clear hcell hcell'
        go_wp2
        go_ret
        exact ⟨by rw [HP.out]; rfl, rfl⟩
  · have HP := hid (foldEq_short (xs := xs) (ys := ys) (by omega))
    have g0 : ((n : Int) != (n' : Int)) = true := by rw [bne_iff_ne]; omega
    clear hcell hcell'
    go_enter Try.func9, Try.ntmps9
    go_wp2
    go_ret
    exact ⟨by rw [HP.out]; rfl, rfl⟩

theorem bytes6_small (a0 : Option Addr) (len0 cap0 : Nat) (a1 : Option Addr) (len1 cap1 : Nat) (w : World) (h : len0 + len1 ≤ 1048576) :
    Calls Try.prog 6 #[.slice a0 len0 cap0, .slice a1 len1 cap1] w fun e w' => e = .returned (.bool true) ∧ w = w' := by
  go_enter Try.func6, Try.ntmps6
  go_wp2
  go_ret
  exact ⟨rfl, rfl⟩

set_option maxHeartbeats 2000000 in
theorem xor_big (a0 : Option Addr) (len0 cap0 : Nat) (a1 : Option Addr) (len1 cap1 : Nat) (w : World) (h0 : len0 ≤ maxLen) (h1 : len1 ≤ maxLen) (hbig : 1048576 < len0 + len1) :
    Calls Try.prog 3 #[.slice a0 len0 cap0, .slice a1 len1 cap1] w fun e w' => e = .returned (.bool true) ∧ Below w.heap.size w w' := by
  unfold maxLen at h0 h1
  go_enter Try.func3, Try.ntmps3
  go_wp2
  all_goals (go_ret; exact ⟨rfl, Below.refl _ _⟩)

set_option maxHeartbeats 4000000 in
theorem xor_small (a0 : Option Addr) (len0 cap0 : Nat) (xs : List Nat) (a1 : Option Addr) (len1 cap1 : Nat) (ys : List Nat) (w : World) (hs : len0 + len1 ≤ 1048576)
    (hx : ∀ x ∈ xs, x < 256) (hy : ∀ x ∈ ys, x < 256) (hr0 : RowAt .u8 w a0 len0 cap0 xs) (hr1 : RowAt .u8 w a1 len1 cap1 ys) :
    Calls Try.prog 3 #[.slice a0 len0 cap0, .slice a1 len1 cap1] w fun e w' => e = .returned (.bool true) ∧ Below w.heap.size w w' := by
  have HX := hid hx
  have HY := hid hy
  have R0 := hid hr0
  have R1 := hid hr1
  clear hr0 hr1 hx hy
  go_enter Try.func3, Try.ntmps3
  go_wp2_with fail
  refine (bytes6_small a0 len0 cap0 a1 len1 cap1 _ hs).mono ?_
  rintro e w' ⟨rfl, rfl⟩
  go_wp2_with fail
  refine (clone_sl a0 len0 cap0 xs _ (by omega) R0.out).mono ?_
  rintro e w1 ⟨b0, c0, rfl, Q0, d1⟩
  have R1' := hid (RowAt.below R1.out d1)
  have B1 := hid d1
  go_wp2_with fail
  refine (clone_sl a1 len1 cap1 ys _ (by omega) R1'.out).mono ?_
  rintro e w2 ⟨b1, c1, rfl, Q1, d2⟩
  have B2 := hid (B1.out.trans (d2.mono B1.out.size))
  have S0 := hid (RowAt.below Q0 d2)
  have S1 := hid Q1
  clear Q0 Q1 d1 d2 B1 R1'
  go_wp2_with fail
  obtain ⟨r, HR⟩ : ∃ r, Hid (foldEq xs ys = r) := ⟨_, rfl⟩
  refine (zz_b b0 len0 c0 xs b1 len1 c1 ys r _ (by omega) (by omega) HX.out HY.out S0.out S1.out HR.out).mono ?_
  rintro e w3 ⟨rfl, d3⟩
  have T0 := hid (RowAt.below S0.out d3)
  have T1 := hid (RowAt.below S1.out d3)
  have B3 := hid (B2.out.trans (d3.mono B2.out.size))
  clear d3
  go_wp2_with fail
  refine (model_any b0 len0 c0 xs b1 len1 c1 ys _ (by omega) (by omega) HX.out HY.out T0.out T1.out).mono ?_
  rintro e w4 ⟨rfl, rfl⟩
  rw [HR.out]
  have hrr : (r == r) = true := by simp
  go_wp2
  go_ret
  exact ⟨by simp, B3.out⟩

end Go.Proofs.Qxb6600478a
