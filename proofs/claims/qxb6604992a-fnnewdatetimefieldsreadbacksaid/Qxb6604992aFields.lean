import Derived.Test.Qxb6604992aRead
namespace Go.Proofs.Qxb6604992a
open Go.RowKit Plain
attribute [local go_sem ↓] Go.wp_at_zero Go.wp_at_succ

/-- The DateTime in memory: in block A; nothing beneath has turned since w0. -/
structure One (A : Nat) (X : Nat) (fr : ByteArray) (w0 w' : World) : Prop where
  lt : A < w'.heap.size
  a0 : w'.cell? ⟨A, 0, none⟩ = some (.int .u64 (X : Int))
  a1 : w'.cell? ⟨A, 1, none⟩ = some (.string fr)
  a2 : w'.cell? ⟨A, 2, none⟩ = some (.pointer none)
  since : Below w0.heap.size w0 w'

theorem One.next {A : Nat} {X : Nat} {fr : ByteArray} {w0 w' w'' : World} (h : One A X fr w0 w') (hb : Below w'.heap.size w' w'') : One A X fr w0 w'' := by
  have hcA : ∀ o, w''.cell? ⟨A, o, none⟩ = w'.cell? ⟨A, o, none⟩ := fun o => hb.cell (p := ⟨A, o, none⟩) h.lt
  exact ⟨Nat.lt_of_lt_of_le h.lt hb.size, (hcA 0).trans h.a0, (hcA 1).trans h.a1, (hcA 2).trans h.a2, h.since.trans (hb.mono h.since.size)⟩

theorem one_new (X : Nat) (fr : ByteArray) (w3 : World) : One w3.heap.size X fr w3 (w3.alloc (.cells #[.int .u64 (X : Int), .string fr, .pointer none] 36)) := by
  have h1 := heap_alloc_new w3 (.cells #[.int .u64 (X : Int), .string fr, .pointer none] 36)
  refine ⟨by simp, ?_, ?_, ?_, (Below.refl _ _).alloc (Nat.le_refl _) _⟩
  all_goals (rw [cell_of_row _ _ _ _ _ _ h1]; rfl)

set_option maxRecDepth 100000 in
set_option maxHeartbeats 4000000 in
theorem fields_in (y m d h mi s : Nat) (a6 : ByteArray) (a7 : Bool) (p : Nat) (a9 : ByteArray) (om : Int) (w : World) (h6 : a6.size ≤ 524288) (h9 : a9.size ≤ 524288) (hd : InDom y m d h mi s p om) :
    Calls Try.prog 3 #[.int .i64 (y : Int), .int .i64 (m : Int), .int .i64 (d : Int), .int .i64 (h : Int), .int .i64 (mi : Int), .int .i64 (s : Int), .string a6, .bool a7, .int .u8 (p : Int), .string a9, .int .i64 om] w fun e w' => e = .returned (.bool true) ∧ Below w.heap.size w w' := by
  obtain ⟨D, hDm⟩ := Int.eq_ofNat_of_zero_le (model_lt y m d hd.date).1
  have hDl : D ≤ 3652424 := by have := (model_lt y m d hd.date).2; omega
  have HV := hid hd.date
  have HM := hid hDm
  have HN := hid (show Nums y m d h mi s p D from ⟨hd.date, hDm, by have := hd.h1; omega, by have := hd.mi1; omega, by have := hd.s1; omega, by have := hd.p1; omega⟩)
  obtain ⟨X, HX⟩ : ∃ X, Hid (lay D (60 * h + mi) s (om12 om) (fnum a9) p a7.toNat = X) := ⟨_, rfl⟩
  have hF : Flds X D (60 * h + mi) s p (fnum a9) a7.toNat om := flds X D (60 * h + mi) s p (fnum a9) a7.toNat om HX.out hDl (by have := hd.h1; have := hd.mi1; omega) (by have := hd.s1; omega) (by have := hd.p1; omega) (fnum_le a9) (by cases a7 <;> decide) hd.o0 hd.o1
  have HFL := hid hF
  have h1 : h ≤ 24 := by have := hd.h1; omega
  have mi1 : mi ≤ 59 := by have := hd.mi1; omega
  have s1 : s ≤ 60 := by have := hd.s1; omega
  have p1 : p ≤ 7 := by have := hd.p1; omega
  clear hDm hd hF
  go_enter Try.func3, Try.ntmps3
  go_wp2_with fail
  refine (bytes5_small _ _ _ _ _ _ a6 a7 _ a9 om _ h6 h9).mono ?_
  rintro e w' ⟨rfl, rfl⟩
  go_wp2_with fail
  refine (dom_any _ _ _ _ _ _ _ om _).mono ?_
  rintro e w' (⟨rfl, rfl, hv⟩ | ⟨rfl, rfl⟩)
  · clear hv
    go_wp2_with fail
    refine (build_any (y : Int) (m : Int) (d : Int) (h : Int) (mi : Int) (s : Int) a6 a7 (p : Int) a9 om _).mono ?_
    rintro e w1 ⟨rfl, b1⟩
    have B1 := hid b1
    have K1 := hid (DT.new y m d h mi s a6 a7 p a9 om w1)
    clear b1
    go_wp2_with fail
    refine (zznew_any w1.heap.size y m d h mi s a6 a7 p a9 om D X _ K1.out HN.out HX.out).mono ?_
    rintro e w3 ⟨rfl, b3⟩
    have B3 := hid ((B1.out.alloc B1.out.size _).trans (b3.mono (by have := B1.out.size; simp; omega)))
    clear b3 K1 B1
    have T3 := hid (one_new X a6 w3)
    go_wp2_with fail
    refine (bits_any X a6 _).mono ?_
    rintro e w4 ⟨rfl, b4⟩
    have T4 := hid (T3.out.next b4)
    clear b4 T3
    go_wp2_with fail
    refine (model_any (y : Int) (m : Int) (d : Int) D _ HV.out HM.out).mono ?_
    rintro e w5 ⟨rfl, rfl⟩
    have hA := T4.out.lt
    have p0 := T4.out.a0
    have p1' := T4.out.a1
    have p2 := T4.out.a2
    cases a7
    all_goals
      have q1 := HFL.out.m1
      have q2 := HFL.out.m2
      have q3 := HFL.out.m3
      have q4 := HFL.out.m4
      have q5 := HFL.out.m5
      have q6 := HFL.out.m6
      have q7 := HFL.out.off
      have hFF : (a6.toList == a6.toList) = true := by simp
      have HD := hid HFL.out.day
      have hlt := HFL.out.lt
      go_wp2_with fail
      refine (zzday_any X D a6 _ hlt HD.out).mono ?_
      rintro e w6 ⟨rfl, b6⟩
      have T6 := hid (T4.out.next b6)
      clear b6
      have r0 := T6.out.a0
      have r1 := T6.out.a1
      have r2 := T6.out.a2
      go_wp2_with fail
      refine (form_any a9 _).mono ?_
      rintro e w7 ⟨rfl, rfl⟩
      go_wp2_with fail
      refine (frac_any X a6 _).mono ?_
      rintro e w8 ⟨rfl, b8⟩
      have T8 := hid (T6.out.next b8)
      clear b8
      have u0 := T8.out.a0
      have u1 := T8.out.a1
      have u2 := T8.out.a2
      go_wp2_with fail
      refine (leaps_any X a6 _).mono ?_
      rintro e w9 ⟨rfl, b9⟩
      have T9 := hid (T8.out.next b9)
      clear b9
      go_wp2
      go_ret
      exact ⟨rfl, B3.out.trans (T9.out.since.mono B3.out.size)⟩
  · go_wp2
    go_ret
    exact ⟨rfl, Below.refl _ _⟩

end Go.Proofs.Qxb6604992a
