import Derived.Test.Qxb6604992aProg
import Derived.Test.Qxb6604992aCal
import Derived.WalkKit
import Derived.WalkSpells
import Derived.WalkSmall
import Derived.Below
import Derived.KernelRfl
namespace Go.Proofs.Qxb6604992a
open Go.RowKit Plain

theorem hid {p : Prop} (h : p) : Hid p := h

set_option maxHeartbeats 400000 in
theorem leap_any (y : Int) (w : World) (y0 : 0 ≤ y) (y1 : y ≤ 10000) : Calls Try.prog 20 #[.int .i64 y] w fun e w' => e = .returned (.bool (leap y)) ∧ w = w' := by
  have HL := hid (show leap y = ((y % 4 == 0) && ((y % 100 != 0) || (y % 400 == 0))) from rfl)
  cases g4 : (y % 4 == 0)
  · rw [g4] at HL
    go_enter Try.func20, Try.ntmps20
    go_wp2
    go_ret
    exact ⟨by rw [HL.out]; rfl, rfl⟩
  · cases g100 : (y % 100 != 0)
    · cases g400 : (y % 400 == 0)
      · rw [g4, g100, g400] at HL
        go_enter Try.func20, Try.ntmps20
        go_wp2
        go_ret
        exact ⟨by rw [HL.out]; rfl, rfl⟩
      · rw [g4, g100, g400] at HL
        go_enter Try.func20, Try.ntmps20
        go_wp2
        go_ret
        exact ⟨by rw [HL.out]; rfl, rfl⟩
    · rw [g4, g100] at HL
      go_enter Try.func20, Try.ntmps20
      go_wp2
      go_ret
      exact ⟨by rw [HL.out]; rfl, rfl⟩

set_option maxHeartbeats 1000000 in
theorem dim_any (y m : Int) (w : World) (y0 : 0 ≤ y) (y1 : y ≤ 10000) : Calls Try.prog 16 #[.int .i64 y, .int .i64 m] w fun e w' => e = .returned (.int .i64 (dim y m)) ∧ w = w' := by
  by_cases h2 : m = 2
  · subst h2
    cases hl : leap y
    · have HD := hid (show dim y 2 = 28 by unfold dim; rw [if_pos rfl, if_neg (by rw [hl]; simp)])
      have HL := hid hl
      clear hl
      go_enter Try.func16, Try.ntmps16
      go_wp2_with fail
      refine (leap_any y _ y0 y1).mono ?_
      rintro e w' ⟨rfl, rfl⟩
      rw [HL.out]
      go_wp2
      go_ret
      exact ⟨by rw [HD.out]; rfl, rfl⟩
    · have HD := hid (show dim y 2 = 29 by unfold dim; rw [if_pos rfl, if_pos hl])
      have HL := hid hl
      clear hl
      go_enter Try.func16, Try.ntmps16
      go_wp2_with fail
      refine (leap_any y _ y0 y1).mono ?_
      rintro e w' ⟨rfl, rfl⟩
      rw [HL.out]
      go_wp2
      go_ret
      exact ⟨by rw [HD.out]; rfl, rfl⟩
  · by_cases h30 : m = 4 ∨ m = 6 ∨ m = 9 ∨ m = 11
    · have HD := hid (show dim y m = 30 by unfold dim; rw [if_neg h2, if_pos h30])
      rcases h30 with rfl | rfl | rfl | rfl
      all_goals
        go_enter Try.func16, Try.ntmps16
        go_wp2
        go_ret
        exact ⟨by rw [HD.out]; rfl, rfl⟩
    · have HD := hid (show dim y m = 31 by unfold dim; rw [if_neg h2, if_neg h30])
      have g2 : (m == 2) = false := by rw [beq_eq_false_iff_ne]; exact h2
      have g4 : (m == 4) = false := by rw [beq_eq_false_iff_ne]; omega
      have g6 : (m == 6) = false := by rw [beq_eq_false_iff_ne]; omega
      have g9 : (m == 9) = false := by rw [beq_eq_false_iff_ne]; omega
      have g11 : (m == 11) = false := by rw [beq_eq_false_iff_ne]; omega
      clear h2 h30
      go_enter Try.func16, Try.ntmps16
      go_wp2
      go_ret
      exact ⟨by rw [HD.out]; rfl, rfl⟩

/-- How the look at a date ends. -/
def VD (y m d : Int) (w : World) (e : Ending) (w' : World) : Prop := (e = .returned (.bool true) ∧ w = w' ∧ Valid y m d) ∨ (e = .returned (.bool false) ∧ w = w')

set_option maxHeartbeats 1000000 in
theorem valid_any (y m d : Int) (w : World) : Calls Try.prog 17 #[.int .i64 y, .int .i64 m, .int .i64 d] w fun e w' => VD y m d w e w' := by
  by_cases h : 0 ≤ y ∧ y ≤ 9999 ∧ 1 ≤ m ∧ m ≤ 12 ∧ 1 ≤ d
  · obtain ⟨y0, y1, m0, m1, d0⟩ := h
    go_enter Try.func17, Try.ntmps17
    go_wp2_with fail
    refine (dim_any y m _ y0 (by omega)).mono ?_
    rintro e w' ⟨rfl, rfl⟩
    by_cases hd : d ≤ dim y m
    · have HV := hid (show Valid y m d from ⟨y0, y1, m0, m1, d0, hd⟩)
      generalize dim y m = D at hd
      go_wp2
      go_ret
      exact Or.inl ⟨rfl, rfl, HV.out⟩
    · generalize dim y m = D at hd
      have hdd : decide (d ≤ D) = false := decide_eq_false hd
      go_wp2
      go_ret
      exact Or.inr ⟨rfl, rfl⟩
  · rcases (show y < 0 ∨ (0 ≤ y ∧ 9999 < y) ∨ (0 ≤ y ∧ y ≤ 9999 ∧ m < 1) ∨ (0 ≤ y ∧ y ≤ 9999 ∧ 1 ≤ m ∧ 12 < m) ∨ (0 ≤ y ∧ y ≤ 9999 ∧ 1 ≤ m ∧ m ≤ 12 ∧ d < 1) by omega) with p | ⟨p, q⟩ | ⟨p, q, r⟩ | ⟨p, q, r, s⟩ | ⟨p, q, r, s, t⟩
    all_goals
      clear h
      go_enter Try.func17, Try.ntmps17
      go_wp2
      go_ret
      exact Or.inr ⟨rfl, rfl⟩

/-- What a date-time in the domain is. -/
structure InDom (y m d h mi s : Int) (p : Int) (om : Int) : Prop where
  date : Valid y m d
  h0 : 0 ≤ h
  h1 : h ≤ 24
  mi0 : 0 ≤ mi
  mi1 : mi ≤ 59
  s0 : 0 ≤ s
  s1 : s ≤ 60
  p1 : p ≤ 7
  o0 : -1439 ≤ om
  o1 : om ≤ 1439

def DM (y m d h mi s : Int) (p : Int) (om : Int) (w : World) (e : Ending) (w' : World) : Prop := (e = .returned (.bool true) ∧ w = w' ∧ InDom y m d h mi s p om) ∨ (e = .returned (.bool false) ∧ w = w')

set_option maxHeartbeats 2000000 in
theorem dom_any (y m d h mi s : Int) (p : Int) (om : Int) (w : World) : Calls Try.prog 6 #[.int .i64 y, .int .i64 m, .int .i64 d, .int .i64 h, .int .i64 mi, .int .i64 s, .int .u8 p, .int .i64 om] w fun e w' => DM y m d h mi s p om w e w' := by
  by_cases hh : 0 ≤ h ∧ h ≤ 24 ∧ 0 ≤ mi ∧ mi ≤ 59 ∧ 0 ≤ s ∧ s ≤ 60 ∧ p ≤ 7 ∧ -1439 ≤ om ∧ om ≤ 1439
  · obtain ⟨a1, a2, a3, a4, a5, a6, a7, a8, a9⟩ := hh
    go_enter Try.func6, Try.ntmps6
    go_wp2_with fail
    refine (valid_any y m d _).mono ?_
    rintro e w' (⟨rfl, rfl, hv⟩ | ⟨rfl, rfl⟩)
    · have HV := hid (show InDom y m d h mi s p om from ⟨hv, a1, a2, a3, a4, a5, a6, a7, a8, a9⟩)
      clear hv
      go_wp2
      go_ret
      exact Or.inl ⟨rfl, rfl, HV.out⟩
    · go_wp2
      go_ret
      exact Or.inr ⟨rfl, rfl⟩
  · go_enter Try.func6, Try.ntmps6
    go_wp2_with fail
    refine (valid_any y m d _).mono ?_
    rintro e w' (⟨rfl, rfl, hv⟩ | ⟨rfl, rfl⟩)
    · clear hv
      rcases (show h < 0 ∨ (0 ≤ h ∧ 24 < h) ∨ (0 ≤ h ∧ h ≤ 24 ∧ mi < 0) ∨ (0 ≤ h ∧ h ≤ 24 ∧ 0 ≤ mi ∧ 59 < mi) ∨ (0 ≤ h ∧ h ≤ 24 ∧ 0 ≤ mi ∧ mi ≤ 59 ∧ s < 0) ∨ (0 ≤ h ∧ h ≤ 24 ∧ 0 ≤ mi ∧ mi ≤ 59 ∧ 0 ≤ s ∧ 60 < s) ∨ (0 ≤ h ∧ h ≤ 24 ∧ 0 ≤ mi ∧ mi ≤ 59 ∧ 0 ≤ s ∧ s ≤ 60 ∧ 7 < p) ∨ (0 ≤ h ∧ h ≤ 24 ∧ 0 ≤ mi ∧ mi ≤ 59 ∧ 0 ≤ s ∧ s ≤ 60 ∧ p ≤ 7 ∧ om < -1439) ∨ (0 ≤ h ∧ h ≤ 24 ∧ 0 ≤ mi ∧ mi ≤ 59 ∧ 0 ≤ s ∧ s ≤ 60 ∧ p ≤ 7 ∧ -1439 ≤ om ∧ 1439 < om) by omega) with a1 | ⟨a1, a2⟩ | ⟨a1, a2, a3⟩ | ⟨a1, a2, a3, a4⟩ | ⟨a1, a2, a3, a4, a5⟩ | ⟨a1, a2, a3, a4, a5, a6⟩ | ⟨a1, a2, a3, a4, a5, a6, a7⟩ | ⟨a1, a2, a3, a4, a5, a6, a7, a8⟩ | ⟨a1, a2, a3, a4, a5, a6, a7, a8, a9⟩
      all_goals
        clear hh
        try (have z9 : decide (om ≤ 1439) = false := decide_eq_false (by omega))
        go_wp2
        go_ret
        exact Or.inr ⟨rfl, rfl⟩
    · clear hh
      go_wp2
      go_ret
      exact Or.inr ⟨rfl, rfl⟩

end Go.Proofs.Qxb6604992a
