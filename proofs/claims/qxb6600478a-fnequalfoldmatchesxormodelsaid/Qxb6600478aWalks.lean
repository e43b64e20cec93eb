import Derived.Test.Qxb6600478aFold
import Derived.Test.Qxb6600478aClone
import Derived.WalkSmall
import Derived.BigQuiet
import Derived.Deep.QuietTactic
namespace Go.Proofs.Qxb6600478a
open Go.RowKit Plain

theorem hid {p : Prop} (h : p) : Hid p := h

/-- The copy, its value written out. -/
theorem clone_sl (a : Option Addr) (n cap : Nat) (zs : List Nat) (w : World) (hn : n ≤ 4194304) (hr : RowAt .u8 w a n cap zs) :
    Calls Try.prog 7 #[.slice a n cap] w fun e w' => ∃ a' cap', e = .returned (.slice a' n cap') ∧ RowAt .u8 w' a' n cap' zs ∧ Below w.heap.size w w' := by
  refine (clone_any a n cap zs w hn hr).mono ?_
  rintro e w' ⟨v, rfl, ho, hb⟩
  obtain ⟨a', cap', rfl, hR, _⟩ := own_row ho
  exact ⟨a', cap', rfl, hR, hb⟩

theorem mem_of_getD {xs : List Nat} {k : Nat} (h : k < xs.length) : xs.getD k 0 ∈ xs := by
  rw [List.getD_eq_getElem?_getD, List.getElem?_eq_getElem h]; simp

set_option maxHeartbeats 1000000 in
theorem fold_any (a : Option Addr) (n cap : Nat) (xs : List Nat) (a' : Option Addr) (n' cap' : Nat) (ys : List Nat) (w : World) (hn : n ≤ 4194304) (hn' : n' ≤ 4194304) (hx : ∀ x ∈ xs, x < 256) (hy : ∀ x ∈ ys, x < 256) (hr : RowAt .u8 w a n cap xs) (hr' : RowAt .u8 w a' n' cap' ys) :
    Calls Try.prog 14 #[.slice a n cap, .slice a' n' cap'] w fun e w' => e = .returned (.bool (foldEq xs ys)) ∧ ∃ m, w' = w.drewN m := by
  obtain ⟨hl, _, _, _, hcell⟩ := hr
  obtain ⟨hl', _, _, _, hcell'⟩ := hr'
  have HX := hid hx
  have HY := hid hy
  clear hx hy
  by_cases hne : n = n'
  · subst hne
    have g0 : ((n : Int) != (n : Int)) = false := by simp
    go_enter Try.func14, Try.ntmps14
    go_wp2
    go_loopw [15] (fun i wr => ∃ k : Nat, k ≤ n ∧ i = .int .i64 k ∧ (∀ j, j < k → low (xs.getD j 0) = low (ys.getD j 0)) ∧ ∃ m, wr = w.drewN m) (fun i _ => n - (intOf i).toNat)
    case atStart => exact ⟨0, Nat.zero_le _, rfl, fun j h => by omega, 0, rfl⟩
    case round =>
      obtain ⟨k, hk, rfl, hall, m, rfl⟩ := hrel
      have HALL := hid hall
      clear hall
      by_cases hlt : k < n
      · obtain ⟨b, off, rfl, hc⟩ := hcell (by omega)
        obtain ⟨b', off', rfl, hc'⟩ := hcell' (by omega)
        have h1 := hc k hlt
        have h2 := hc' k hlt
        have x1 := HX.out _ (mem_of_getD (show k < xs.length by omega))
        have x2 := HY.out _ (mem_of_getD (show k < ys.length by omega))
        have hkn : (k : Int) < (n : Int) := by omega
        have HM := hid (foldEq_miss (xs := xs) (ys := ys) (k := k) (by omega) (by omega))
        have HS : Hid (low (xs.getD k 0) = low (ys.getD k 0) → ∀ j, j < k + 1 → low (xs.getD j 0) = low (ys.getD j 0)) := fun h j hj => by
          by_cases e : j = k
          · rw [e]; exact h
          · exact HALL.out j (by omega)
        generalize xs.getD k 0 = x at h1 x1 HM HS
        generalize ys.getD k 0 = y at h2 x2 HM HS
        clear hc hc' hcell hcell'
        -- the four ways of the two letters
        obtain ⟨lx, hlx⟩ : ∃ lx : Int, lx = if 65 ≤ x ∧ x ≤ 90 then (x : Int) + 32 else x := ⟨_, rfl⟩
        obtain ⟨ly, hly⟩ : ∃ ly : Int, ly = if 65 ≤ y ∧ y ≤ 90 then (y : Int) + 32 else y := ⟨_, rfl⟩
        have ex : lx = ((low x : Nat) : Int) := by rw [hlx]; unfold low; split <;> simp
        have ey : ly = ((low y : Nat) : Int) := by rw [hly]; unfold low; split <;> simp
        have EX := hid ex
        have EY := hid ey
        clear ex ey
        by_cases heq : low x = low y
        · have HEQ := hid heq
          have hE := hid (show lx = ly by rw [EX.out, EY.out, heq])
          clear heq
          by_cases u1 : 65 ≤ x ∧ x ≤ 90
          · rw [if_pos u1] at hlx
            by_cases u2 : 65 ≤ y ∧ y ≤ 90
            · rw [if_pos u2] at hly
              have hxy : y = x := by have := hE.out; omega
              subst hxy
              obtain ⟨p1, p2⟩ := u1
              clear hlx hly u2
              go_wp2
              go_quiet (fail)
              go_wp2
              go_roundw
              case rel => exact ⟨k + 1, by omega, by go_num, HS.out HEQ.out, m + nq, by first | rfl | rw [World.drewN_drewN]⟩
              case measure => simp [intOf]; omega
            · rw [if_neg u2] at hly
              have hxy : y = x + 32 := by have := hE.out; omega
              have hd : ((x : Int) + 32 != (y : Int)) = false := by rw [bne_eq_false_iff_eq]; omega
              obtain ⟨p1, p2⟩ := u1
              have p3 : 90 < y := by omega
              clear hlx hly u2 hxy
              go_wp2
              go_quiet (fail)
              go_wp2
              go_roundw
              case rel => exact ⟨k + 1, by omega, by go_num, HS.out HEQ.out, m + nq, by first | rfl | rw [World.drewN_drewN]⟩
              case measure => simp [intOf]; omega
          · rw [if_neg u1] at hlx
            by_cases u2 : 65 ≤ y ∧ y ≤ 90
            · rw [if_pos u2] at hly
              have hxy : x = y + 32 := by have := hE.out; omega
              have hd : ((x : Int) != (y : Int) + 32) = false := by rw [bne_eq_false_iff_eq]; omega
              obtain ⟨p1, p2⟩ := u2
              have p3 : 90 < x := by omega
              clear hlx hly u1 hxy
              go_wp2
              go_quiet (fail)
              go_wp2
              go_roundw
              case rel => exact ⟨k + 1, by omega, by go_num, HS.out HEQ.out, m + nq, by first | rfl | rw [World.drewN_drewN]⟩
              case measure => simp [intOf]; omega
            · rw [if_neg u2] at hly
              have hxy : y = x := by have := hE.out; omega
              subst hxy
              clear hlx hly u2
              rcases (show y < 65 ∨ (65 ≤ y ∧ 90 < y) by omega) with p | ⟨p, p'⟩
              all_goals
                clear u1
                go_wp2
                go_quiet (fail)
                go_wp2
                go_roundw
                case rel => exact ⟨k + 1, by omega, by go_num, HS.out HEQ.out, m + nq, by first | rfl | rw [World.drewN_drewN]⟩
                case measure => simp [intOf]; omega
        · have HF := hid (HM.out heq)
          have hE := hid (show lx ≠ ly by rw [EX.out, EY.out]; omega)
          clear heq
          by_cases u1 : 65 ≤ x ∧ x ≤ 90
          · rw [if_pos u1] at hlx
            by_cases u2 : 65 ≤ y ∧ y ≤ 90
            · rw [if_pos u2] at hly
              have hd : ((x : Int) + 32 != (y : Int) + 32) = true := by rw [bne_iff_ne]; have := hE.out; omega
              obtain ⟨p1, p2⟩ := u1
              obtain ⟨p3, p4⟩ := u2
              clear hlx hly
              go_wp2
              go_quiet (fail)
              go_wp2
              go_ret
              exact ⟨by rw [HF.out]; rfl, m + nq, by first | rfl | rw [World.drewN_drewN]⟩
            · rw [if_neg u2] at hly
              have hd : ((x : Int) + 32 != (y : Int)) = true := by rw [bne_iff_ne]; have := hE.out; omega
              obtain ⟨p1, p2⟩ := u1
              clear hlx hly
              rcases (show y < 65 ∨ (65 ≤ y ∧ 90 < y) by omega) with p | ⟨p, p'⟩
              all_goals
                clear u2
                go_wp2
                go_quiet (fail)
                go_wp2
                go_ret
                exact ⟨by rw [HF.out]; rfl, m + nq, by first | rfl | rw [World.drewN_drewN]⟩
          · rw [if_neg u1] at hlx
            by_cases u2 : 65 ≤ y ∧ y ≤ 90
            · rw [if_pos u2] at hly
              have hd : ((x : Int) != (y : Int) + 32) = true := by rw [bne_iff_ne]; have := hE.out; omega
              obtain ⟨p1, p2⟩ := u2
              clear hlx hly
              rcases (show x < 65 ∨ (65 ≤ x ∧ 90 < x) by omega) with p | ⟨p, p'⟩
              all_goals
                clear u1
                go_wp2
                go_quiet (fail)
                go_wp2
                go_ret
                exact ⟨by rw [HF.out]; rfl, m + nq, by first | rfl | rw [World.drewN_drewN]⟩
            · rw [if_neg u2] at hly
              have hd : ((x : Int) != (y : Int)) = true := by rw [bne_iff_ne]; have := hE.out; omega
              clear hlx hly
              rcases (show x < 65 ∨ (65 ≤ x ∧ 90 < x) by omega) with p | ⟨p, p'⟩
              all_goals
                rcases (show y < 65 ∨ (65 ≤ y ∧ 90 < y) by omega) with q | ⟨q, q'⟩
              all_goals
                clear u1 u2
                go_wp2
                go_quiet (fail)
                go_wp2
                go_ret
                exact ⟨by rw [HF.out]; rfl, m + nq, by first | rfl | rw [World.drewN_drewN]⟩
      · have HP := hid (foldEq_all (xs := xs) (ys := ys) (by omega) (fun i hi => HALL.out i (by omega)))
        clear hcell hcell'
        go_wp2
        go_ret
        exact ⟨by rw [HP.out]; rfl, m, rfl⟩
  · have HP := hid (foldEq_short (xs := xs) (ys := ys) (by omega))
    have g0 : ((n : Int) != (n' : Int)) = true := by rw [bne_iff_ne]; omega
    clear hcell hcell'
    go_enter Try.func14, Try.ntmps14
    go_wp2
    go_ret
    exact ⟨by rw [HP.out]; rfl, 0, rfl⟩

/-- Through the shim; what it answers said by the caller. -/
theorem zz_is (a : Option Addr) (n cap : Nat) (xs : List Nat) (a' : Option Addr) (n' cap' : Nat) (ys : List Nat) (b : Bool) (w : World) (hn : n ≤ 4194304) (hn' : n' ≤ 4194304) (hx : ∀ x ∈ xs, x < 256) (hy : ∀ x ∈ ys, x < 256) (hr : RowAt .u8 w a n cap xs) (hr' : RowAt .u8 w a' n' cap' ys) (hb : foldEq xs ys = b) :
    Calls Try.prog 8 #[.slice a n cap, .slice a' n' cap'] w fun e w' => e = .returned (.bool b) ∧ ∃ m, w' = w.drewN m := by
  have H1 := hid hr
  have H2 := hid hr'
  have HX := hid hx
  have HY := hid hy
  have HB := hid hb
  clear hr hr' hx hy hb
  go_enter Try.func8, Try.ntmps8
  go_wp2_with fail
  refine (fold_any a n cap xs a' n' cap' ys _ hn hn' HX.out HY.out H1.out H2.out).mono ?_
  rintro e w' ⟨rfl, hm⟩
  go_wp2
  go_ret
  exact ⟨by rw [← HB.out]; rfl, hm⟩

theorem zz_b (a : Option Addr) (n cap : Nat) (xs : List Nat) (a' : Option Addr) (n' cap' : Nat) (ys : List Nat) (b : Bool) (w : World) (hn : n ≤ 4194304) (hn' : n' ≤ 4194304) (hx : ∀ x ∈ xs, x < 256) (hy : ∀ x ∈ ys, x < 256) (hr : RowAt .u8 w a n cap xs) (hr' : RowAt .u8 w a' n' cap' ys) (hb : foldEq xs ys = b) :
    Calls Try.prog 8 #[.slice a n cap, .slice a' n' cap'] w fun e w' => e = .returned (.bool b) ∧ Below w.heap.size w w' := by
  refine (zz_is a n cap xs a' n' cap' ys b w hn hn' hx hy hr hr' hb).mono ?_
  rintro e w' ⟨rfl, m, rfl⟩
  exact ⟨rfl, below_drewN (Below.refl _ _) m⟩

end Go.Proofs.Qxb6600478a
