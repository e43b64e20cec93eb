import Derived.Test.Qxb6604992aLay
import Derived.Deep.RegionHeld3
import Derived.Deep.DrawnRows
namespace Go.Proofs.Qxb6604992a
open Go.RowKit Plain
attribute [local go_sem ↓] Go.wp_at_zero Go.wp_at_succ

/-- Behind the calls: old blocks as they were; the result's block as it was laid. -/
structure Res (w w' : World) : Prop where
  below : Below w.heap.size w w'
  size : w.heap.size < w'.heap.size
  c0 : w'.cell? ⟨w.heap.size, 0, none⟩ = some (.int .u64 0)
  c1 : w'.cell? ⟨w.heap.size, 1, none⟩ = some (.string { data := #[] })
  c2 : w'.cell? ⟨w.heap.size, 2, none⟩ = some (.pointer none)
  f0 : w'.frozen? ⟨w.heap.size, 0, none⟩ = false
  f1 : w'.frozen? ⟨w.heap.size, 1, none⟩ = false
  f2 : w'.frozen? ⟨w.heap.size, 2, none⟩ = false

theorem Res.next {w w1 w2 : World} (h : Res w w1) (hb : Below w1.heap.size w1 w2) : Res w w2 :=
  ⟨h.below.trans (hb.mono h.below.size), Nat.lt_of_lt_of_le h.size hb.size, (hb.cell (p := ⟨w.heap.size, 0, none⟩) h.size).trans h.c0, (hb.cell (p := ⟨w.heap.size, 1, none⟩) h.size).trans h.c1, (hb.cell (p := ⟨w.heap.size, 2, none⟩) h.size).trans h.c2,
    (hb.frozen (p := ⟨w.heap.size, 0, none⟩) h.size).trans h.f0, (hb.frozen (p := ⟨w.heap.size, 1, none⟩) h.size).trans h.f1, (hb.frozen (p := ⟨w.heap.size, 2, none⟩) h.size).trans h.f2⟩

theorem res_new (w : World) : Res w (w.alloc (.cells #[.int .u64 0, .string { data := #[] }, .pointer none] 36)).drew := by
  have hb := heap_alloc_new w (.cells #[.int .u64 0, .string { data := #[] }, .pointer none] 36)
  refine ⟨((Below.refl _ _).alloc (Nat.le_refl _) _).drew, by simp, ?_, ?_, ?_, ?_, ?_, ?_⟩
  all_goals first | (rw [show ∀ (x : World) a, x.drew.cell? a = x.cell? a from fun _ _ => rfl, cell_of_row _ _ _ _ _ _ hb]; rfl) | (rw [show ∀ (x : World) a, x.drew.frozen? a = x.frozen? a from fun _ _ => rfl]; exact frozen_of_row _ _ _ _ _ hb)

theorem res_below {w w2 : World} (hb : Below (w.alloc (.cells #[.int .u64 0, .string { data := #[] }, .pointer none] 36)).drew.heap.size (w.alloc (.cells #[.int .u64 0, .string { data := #[] }, .pointer none] 36)).drew w2) : Res w w2 := (res_new w).next hb

theorem clockBits_i (x : Int) (mn sec : Nat) (w : World) (hx : x = (mn : Int)) (h1 : mn ≤ 1499) (h2 : sec ≤ 60) : Calls Try.prog 24 #[.int .i64 x, .int .i64 (sec : Int)] w fun e w' => e = .returned (.int .u64 ((64 * mn + sec : Nat) : Int)) ∧ w = w' := by
  subst hx; exact clockBits_any mn sec w h1 h2

set_option maxHeartbeats 4000000 in
theorem new_any (g : Nat) (y m d h mi s : Nat) (frac : ByteArray) (ht : Bool) (p : Nat) (form : ByteArray) (om : Int) (D : Nat) (w : World)
    (hv : Valid y m d) (hD : model y m d = (D : Int)) (h1 : h ≤ 24) (mi1 : mi ≤ 59) (s1 : s ≤ 60) (p1 : p ≤ 7) (hg : g < w.heap.size)
    (hc0 : w.cell? ⟨g, 0, none⟩ = some (.int .i64 (y : Int))) (hc1 : w.cell? ⟨g, 1, none⟩ = some (.int .i64 (m : Int))) (hc2 : w.cell? ⟨g, 2, none⟩ = some (.int .i64 (d : Int)))
    (hc3 : w.cell? ⟨g, 3, none⟩ = some (.int .i64 (h : Int))) (hc4 : w.cell? ⟨g, 4, none⟩ = some (.int .i64 (mi : Int))) (hc5 : w.cell? ⟨g, 5, none⟩ = some (.int .i64 (s : Int)))
    (hc6 : w.cell? ⟨g, 6, none⟩ = some (.string frac)) (hc7 : w.cell? ⟨g, 7, none⟩ = some (.bool ht)) (hc8 : w.cell? ⟨g, 8, none⟩ = some (.int .u8 (p : Int)))
    (hc9 : w.cell? ⟨g, 9, none⟩ = some (.string form)) (hc10 : w.cell? ⟨g, 10, none⟩ = some (.int .i64 om)) :
    Calls Try.prog 18 #[.pointer (some ⟨g, 0, none⟩), .pointer none] w fun e w' => e = .returned (.agg #[.int .u64 ((lay D (60 * h + mi) s (om12 om) (fnum form) p ht.toNat : Nat) : Int), .string frac, .pointer none]) ∧ Below w.heap.size w w' := by
  have y1 : y ≤ 9999 := by have := hv.y1; omega
  have HV := hid hv
  have HD := hid hD
  have hDl : D ≤ 3652424 := by have := (model_lt y m d hv).2; omega
  have HCK := hid (clock_wrap h mi h1 mi1)
  clear hv hD
  go_enter Try.func18, Try.ntmps18
  go_wp2
  go_region_held3 (fun w' => w'.cell? ⟨g, 0, none⟩ = some (.int .i64 (y : Int)) ∧ w'.cell? ⟨g, 1, none⟩ = some (.int .i64 (m : Int)) ∧ w'.cell? ⟨g, 2, none⟩ = some (.int .i64 (d : Int)) ∧ w'.cell? ⟨g, 3, none⟩ = some (.int .i64 (h : Int)) ∧ w'.cell? ⟨g, 4, none⟩ = some (.int .i64 (mi : Int)) ∧ w'.cell? ⟨g, 5, none⟩ = some (.int .i64 (s : Int)) ∧ w'.cell? ⟨g, 8, none⟩ = some (.int .u8 (p : Int)) ∧ w'.cell? ⟨g, 9, none⟩ = some (.string form) ∧ w'.cell? ⟨g, 10, none⟩ = some (.int .i64 om)) (first | go_keep)
    (first
      | (go_at_call 23; refine (day_any y m d D _ HV.out HD.out).mono ?_; rintro e w2 ⟨rfl, hb2⟩; have hB2 := res_below hb2; have hx2 : ∀ o, w2.cell? ⟨g, o, none⟩ = w.cell? ⟨g, o, none⟩ := fun o => hB2.below.cell (p := ⟨g, o, none⟩) hg; clear hb2)
      | (go_at_call 22; refine (dayBits_any D _ hDl).mono ?_; rintro e w3 ⟨rfl, rfl⟩)
      | (go_at_call 24; refine (clockBits_i (IntKind.i64.wrap (IntKind.i64.wrap (60 * (h : Int)) + (mi : Int))) (60 * h + mi) s _ HCK.out (by omega) s1).mono ?_; rintro e w4 ⟨rfl, rfl⟩)
      | (go_at_call 25; refine (offsetBits_any form om _).mono ?_; rintro e w5 ⟨rfl, hb5⟩; have hB5 := hB2.next hb5; have hx5 : ∀ o, w5.cell? ⟨g, o, none⟩ = w.cell? ⟨g, o, none⟩ := fun o => hB5.below.cell (p := ⟨g, o, none⟩) hg; clear hb5))
  obtain ⟨hB, hsz, q0, q1, q2, f0, f1, f2⟩ := hB5
  have HL0 := hid (lay_bits0w D h mi s p (om12 om) (fnum form) hDl h1 mi1 s1 p1 (om12_lt om) (fnum_le form))
  have HL1 := hid (lay_bits1 D (60 * h + mi) s p (om12 om) (fnum form) hDl (by omega) s1 p1 (om12_lt om) (fnum_le form))
  rw [HL0.out]
  obtain ⟨X, HX⟩ : ∃ X, Hid (lay D (60 * h + mi) s (om12 om) (fnum form) p 0 = X) := ⟨_, rfl⟩
  rw [HX.out]
  rw [HX.out] at HL1
  clear HL0 hc0 hc1 hc2 hc3 hc4 hc5 hc8 hc9 hc10
  cases ht
  · clear HL1
    go_wp2
    refine bodyPost_ret (v := .agg #[.int .u64 ((X : Nat) : Int), .string frac, .pointer none]) ?_ rfl ⟨?_, ?_⟩
    · simp [results, Try.results18, go_sem, q0, q1, q2]
    · rw [← HX.out]; rfl
    · exact ((hB.setCell (by exact Nat.le_refl _) _).setCell (by exact Nat.le_refl _) _).setCell (by exact Nat.le_refl _) _
  · obtain ⟨Y, HY⟩ : ∃ Y, Hid (lay D (60 * h + mi) s (om12 om) (fnum form) p 1 = Y) := ⟨_, rfl⟩
    rw [HY.out] at HL1
    go_wp2
    refine bodyPost_ret (v := .agg #[.int .u64 ((Y : Nat) : Int), .string frac, .pointer none]) ?_ rfl ⟨?_, ?_⟩
    · rw [← HL1.out]; simp [results, Try.results18, go_sem, q0, q1, q2]
    · rw [← HY.out]; rfl
    · exact ((hB.setCell (by exact Nat.le_refl _) _).setCell (by exact Nat.le_refl _) _).setCell (by exact Nat.le_refl _) _

end Go.Proofs.Qxb6604992a
