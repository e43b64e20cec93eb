import Derived.Test.Qxb6604992aBuild
import Derived.Deep.DeepCutAuto
namespace Go.Proofs.Qxb6604992a
open Go.RowKit Plain
attribute [local go_sem ↓] Go.wp_at_zero Go.wp_at_succ

theorem build_n (yi mo di h mi s : Int) (frac : ByteArray) (ht : Bool) (p : Int) (form : ByteArray) (om : Int) (y m d h' mi' s' p' : Nat) (w : World) (e1 : yi = (y : Int)) (e2 : mo = (m : Int)) (e3 : di = (d : Int)) (e4 : h = (h' : Int)) (e5 : mi = (mi' : Int)) (e6 : s = (s' : Int)) (e7 : p = (p' : Int)) :
    Calls Try.prog 7 #[.int .i64 yi, .int .i64 mo, .int .i64 di, .int .i64 h, .int .i64 mi, .int .i64 s, .string frac, .bool ht, .int .u8 p, .string form, .int .i64 om] w fun e w' => e = .returned (.agg #[.int .i64 (y : Int), .int .i64 (m : Int), .int .i64 (d : Int), .int .i64 (h' : Int), .int .i64 (mi' : Int), .int .i64 (s' : Int), .string frac, .bool ht, .int .u8 (p' : Int), .string form, .int .i64 om]) ∧ Below w.heap.size w w' := by
  subst e1; subst e2; subst e3; subst e4; subst e5; subst e6; subst e7
  exact build_any _ _ _ _ _ _ _ _ _ _ _ _

theorem bytes15_small (a0 a1 a2 a3 a4 a5 : Int) (a6 : ByteArray) (a7 : Bool) (a8 : Int) (a9 : ByteArray) (a10 : Int) (w : World) (h6 : a6.size ≤ 524288) (h9 : a9.size ≤ 524288) :
    Calls Try.prog 15 #[.int .i64 a0, .int .i64 a1, .int .i64 a2, .int .i64 a3, .int .i64 a4, .int .i64 a5, .string a6, .bool a7, .int .u8 a8, .string a9, .int .i64 a10] w fun e w' => e = .returned (.bool true) ∧ w = w' := by
  go_enter Try.func15, Try.ntmps15
  go_wp2
  go_ret
  exact ⟨rfl, rfl⟩

set_option maxHeartbeats 1000000 in
theorem next_big (a0 a1 a2 a3 a4 a5 : Int) (a6 : ByteArray) (a7 : Bool) (a8 : Int) (a9 : ByteArray) (a10 : Int) (w : World) (h6 : a6.size ≤ maxLen) (h9 : a9.size ≤ maxLen) (hbig : ¬ (a6.size ≤ 524288 ∧ a9.size ≤ 524288)) :
    Calls Try.prog 4 #[.int .i64 a0, .int .i64 a1, .int .i64 a2, .int .i64 a3, .int .i64 a4, .int .i64 a5, .string a6, .bool a7, .int .u8 a8, .string a9, .int .i64 a10] w fun e w' => e = .returned (.bool true) ∧ Below w.heap.size w w' := by
  unfold maxLen at h6 h9
  rcases (show (524288 < a6.size) ∨ (a6.size ≤ 524288 ∧ 524288 < a9.size) by omega) with p | ⟨p, q⟩
  all_goals
    clear hbig
    go_enter Try.func4, Try.ntmps4
    go_wp2
    all_goals (go_ret; exact ⟨rfl, Below.refl _ _⟩)

set_option maxHeartbeats 1000000 in
theorem next_out (a0 a1 a2 a3 a4 a5 : Int) (a6 : ByteArray) (a7 : Bool) (a8 : Int) (a9 : ByteArray) (a10 : Int) (w : World) (h6 : a6.size ≤ 524288) (h9 : a9.size ≤ 524288) (hd : ¬ InDom a0 a1 a2 a3 a4 a5 a8 a10) :
    Calls Try.prog 4 #[.int .i64 a0, .int .i64 a1, .int .i64 a2, .int .i64 a3, .int .i64 a4, .int .i64 a5, .string a6, .bool a7, .int .u8 a8, .string a9, .int .i64 a10] w fun e w' => e = .returned (.bool true) ∧ Below w.heap.size w w' := by
  have HD := hid hd
  clear hd
  go_enter Try.func4, Try.ntmps4
  go_wp2_with fail
  refine (bytes15_small a0 a1 a2 a3 a4 a5 a6 a7 a8 a9 a10 _ h6 h9).mono ?_
  rintro e w' ⟨rfl, rfl⟩
  go_wp2_with fail
  refine (dom_any a0 a1 a2 a3 a4 a5 a8 a10 _).mono ?_
  rintro e w' (⟨rfl, rfl, hv⟩ | ⟨rfl, rfl⟩)
  · exact absurd hv HD.out
  · go_wp2
    go_ret
    exact ⟨rfl, Below.refl _ _⟩

/-- The two DateTimes in memory: one in block A, one in block C; nothing beneath B has turned since W. -/
structure Two (A C : Nat) (X X2 : Nat) (fr : ByteArray) (w0 w' : World) : Prop where
  lt4 : A < C
  ltC : C < w'.heap.size
  a0 : w'.cell? ⟨A, 0, none⟩ = some (.int .u64 (X : Int))
  a1 : w'.cell? ⟨A, 1, none⟩ = some (.string fr)
  a2 : w'.cell? ⟨A, 2, none⟩ = some (.pointer none)
  c0 : w'.cell? ⟨C, 0, none⟩ = some (.int .u64 (X2 : Int))
  c1 : w'.cell? ⟨C, 1, none⟩ = some (.string fr)
  c2 : w'.cell? ⟨C, 2, none⟩ = some (.pointer none)
  since : Below w0.heap.size w0 w'

theorem Two.next {A C : Nat} {X X2 : Nat} {fr : ByteArray} {w0 w' w'' : World} (h : Two A C X X2 fr w0 w') (hb : Below w'.heap.size w' w'') : Two A C X X2 fr w0 w'' := by
  have hA : A < w'.heap.size := by have := h.lt4; have := h.ltC; omega
  have hcA : ∀ o, w''.cell? ⟨A, o, none⟩ = w'.cell? ⟨A, o, none⟩ := fun o => hb.cell (p := ⟨A, o, none⟩) hA
  have hcC : ∀ o, w''.cell? ⟨C, o, none⟩ = w'.cell? ⟨C, o, none⟩ := fun o => hb.cell (p := ⟨C, o, none⟩) h.ltC
  exact ⟨h.lt4, Nat.lt_of_lt_of_le h.ltC hb.size, (hcA 0).trans h.a0, (hcA 1).trans h.a1, (hcA 2).trans h.a2, (hcC 0).trans h.c0, (hcC 1).trans h.c1, (hcC 2).trans h.c2, h.since.trans (hb.mono h.since.size)⟩

theorem two_new {X : Nat} {fr : ByteArray} {w3 w4 : World} (hb : Below (w3.alloc (.cells #[.int .u64 (X : Int), .string fr, .pointer none] 36)).heap.size (w3.alloc (.cells #[.int .u64 (X : Int), .string fr, .pointer none] 36)) w4) (X2 : Nat) :
    Two w3.heap.size w4.heap.size X X2 fr w4 (w4.alloc (.cells #[.int .u64 (X2 : Int), .string fr, .pointer none] 36)).drew := by
  have h1 := heap_alloc_new w3 (.cells #[.int .u64 (X : Int), .string fr, .pointer none] 36)
  have h2 := heap_alloc_new w4 (.cells #[.int .u64 (X2 : Int), .string fr, .pointer none] 36)
  have hlt : w3.heap.size < w4.heap.size := by have := hb.size; simp at this; omega
  have h3 : (w4.alloc (.cells #[.int .u64 (X2 : Int), .string fr, .pointer none] 36)).heap[w3.heap.size]? = some (.cells #[.int .u64 (X : Int), .string fr, .pointer none] 36 (0, 0)) := by
    rw [Below.heap_alloc _ _ _ hlt, hb.block _ (by simp)]; exact h1
  have dc : ∀ (x : World) a, x.drew.cell? a = x.cell? a := fun _ _ => rfl
  refine ⟨hlt, by simp, ?_, ?_, ?_, ?_, ?_, ?_, ((Below.refl _ _).alloc (Nat.le_refl _) _).drew⟩
  · rw [dc, cell_of_row _ _ _ _ _ _ h3]; rfl
  · rw [dc, cell_of_row _ _ _ _ _ _ h3]; rfl
  · rw [dc, cell_of_row _ _ _ _ _ _ h3]; rfl
  · rw [dc, cell_of_row _ _ _ _ _ _ h2]; rfl
  · rw [dc, cell_of_row _ _ _ _ _ _ h2]; rfl
  · rw [dc, cell_of_row _ _ _ _ _ _ h2]; rfl

set_option maxRecDepth 100000 in
set_option maxHeartbeats 4000000 in
theorem next_in (y m d h mi s : Nat) (a6 : ByteArray) (a7 : Bool) (p : Nat) (a9 : ByteArray) (om : Int) (w : World) (h6 : a6.size ≤ 524288) (h9 : a9.size ≤ 524288) (hd : InDom y m d h mi s p om) :
    Calls Try.prog 4 #[.int .i64 (y : Int), .int .i64 (m : Int), .int .i64 (d : Int), .int .i64 (h : Int), .int .i64 (mi : Int), .int .i64 (s : Int), .string a6, .bool a7, .int .u8 (p : Int), .string a9, .int .i64 om] w fun e w' => e = .returned (.bool true) ∧ Below w.heap.size w w' := by
  have HD := hid hd
  have y1 : y ≤ 9999 := by have := hd.date.y1; omega
  have m0 : 1 ≤ m := by have := hd.date.m0; omega
  have m1 : m ≤ 12 := by have := hd.date.m1; omega
  have d0 : 1 ≤ d := by have := hd.date.d0; omega
  have d1 : d ≤ 31 := by have := hd.date.d1; have := (dim_le y m).2; omega
  clear hd
  by_cases hlast : y = 9999 ∧ m = 12 ∧ d = 31
  · obtain ⟨rfl, rfl, rfl⟩ := hlast
    go_enter Try.func4, Try.ntmps4
    go_wp2_with fail
    refine (bytes15_small _ _ _ _ _ _ a6 a7 _ a9 om _ h6 h9).mono ?_
    rintro e w' ⟨rfl, rfl⟩
    go_wp2_with fail
    refine (dom_any _ _ _ _ _ _ _ om _).mono ?_
    rintro e w' (⟨rfl, rfl, hv⟩ | ⟨rfl, rfl⟩)
    · clear hv
      go_wp2
      go_ret
      exact ⟨rfl, Below.refl _ _⟩
    · go_wp2
      go_ret
      exact ⟨rfl, Below.refl _ _⟩
  · go_enter Try.func4, Try.ntmps4
    go_wp2_with fail
    refine (bytes15_small _ _ _ _ _ _ a6 a7 _ a9 om _ h6 h9).mono ?_
    rintro e w' ⟨rfl, rfl⟩
    go_wp2_with fail
    refine (dom_any _ _ _ _ _ _ _ om _).mono ?_
    rintro e w' (⟨rfl, rfl, hv⟩ | ⟨rfl, rfl⟩)
    · clear hv
      go_upto_region 10 with (fail)
      go_cut [68] (fun t w' => t = .bool false ∧ w' = w)
      case first =>
        rcases (show y ≠ 9999 ∨ (y = 9999 ∧ m ≠ 12) ∨ (y = 9999 ∧ m = 12 ∧ d ≠ 31) by omega) with q | ⟨q, q'⟩ | ⟨q, q', q''⟩
        · have g1 : ((y : Int) == 9999) = false := by rw [beq_eq_false_iff_ne]; omega
          clear hlast q
          go_wp2
          go_meet
          case rel => exact ⟨rfl, rfl⟩
        · have g1 : ((y : Int) == 9999) = true := by rw [beq_iff_eq]; omega
          have g2 : ((m : Int) == 12) = false := by rw [beq_eq_false_iff_ne]; omega
          clear hlast q q'
          go_wp2
          go_meet
          case rel => exact ⟨rfl, rfl⟩
        · have g1 : ((y : Int) == 9999) = true := by rw [beq_iff_eq]; omega
          have g2 : ((m : Int) == 12) = true := by rw [beq_iff_eq]; omega
          have g3 : ((d : Int) == 31) = false := by rw [beq_eq_false_iff_ne]; omega
          clear hlast q q' q''
          go_wp2
          go_meet
          case rel => exact ⟨rfl, rfl⟩
      case rest =>
        obtain ⟨rfl, rfl⟩ := hcut
        go_upto_if 77 with (go_at_call 16; refine (dim_any (y : Int) (m : Int) _ (by omega) (by omega)).mono ?_; rintro e w' ⟨rfl, rfl⟩)
        go_cut [23, 24, 25] (fun a b c w' => ∃ y2 m2 d2 : Nat, a = .int .i64 (y2 : Int) ∧ b = .int .i64 (m2 : Int) ∧ c = .int .i64 (d2 : Int) ∧ Valid y2 m2 d2 ∧ model y2 m2 d2 = model y m d + 1 ∧ w' = wc)
        case first =>
          have hV := HD.out.date
          by_cases c1 : dim (y : Int) (m : Int) < (d : Int) + 1
          · by_cases c2 : (m : Int) + 1 ≤ 12
            · have HN := hid (next_month y m d hV c1 c2)
              clear hV hlast
              generalize dim (y : Int) (m : Int) = dm at c1
              go_wp2
              go_meet
              case rel => exact ⟨y, m + 1, 1, rfl, by go_num, rfl, by have := HN.out.1; exact_mod_cast this, by have := HN.out.2; exact_mod_cast this, rfl⟩
            · have hm : m = 12 := by omega
              subst hm
              have HN := hid (next_year y d hV c1 (by omega))
              clear hV hlast
              generalize dim (y : Int) ((12 : Nat) : Int) = dm at c1
              go_wp2
              go_meet
              case rel => exact ⟨y + 1, 1, 1, by go_num, rfl, rfl, by have := HN.out.1; exact_mod_cast this, by have := HN.out.2; exact_mod_cast this, rfl⟩
          · have HN := hid (next_day y m d hV (by omega))
            clear hV hlast
            generalize dim (y : Int) (m : Int) = dm at c1
            go_wp2
            go_meet
            case rel => exact ⟨y, m, d + 1, rfl, rfl, by go_num, by have := HN.out.1; exact_mod_cast this, by have := HN.out.2; exact_mod_cast this, rfl⟩
        case rest =>
          obtain ⟨y2, m2, d2, rfl, rfl, rfl, hV2, hM2, rfl⟩ := hcut
          have hVd := HD.out.date
          obtain ⟨D, hDm⟩ := Int.eq_ofNat_of_zero_le (model_lt y m d hVd).1
          have HN1 := hid (show Nums y m d h mi s p D from ⟨hVd, hDm, by have := HD.out.h1; omega, by have := HD.out.mi1; omega, by have := HD.out.s1; omega, by have := HD.out.p1; omega⟩)
          have HN2 := hid (show Nums y2 m2 d2 h mi s p (D + 1) from ⟨hV2, by rw [hM2, hDm]; omega, by have := HD.out.h1; omega, by have := HD.out.mi1; omega, by have := HD.out.s1; omega, by have := HD.out.p1; omega⟩)
          have hD2 := (model_lt y2 m2 d2 hV2).2
          have hDl : D + 1 ≤ 3652424 := by rw [hM2, hDm] at hD2; omega
          obtain ⟨X, HX⟩ : ∃ X, Hid (lay D (60 * h + mi) s (om12 om) (fnum a9) p a7.toNat = X) := ⟨_, rfl⟩
          obtain ⟨X2, HX2⟩ : ∃ X2, Hid (lay (D + 1) (60 * h + mi) s (om12 om) (fnum a9) p a7.toNat = X2) := ⟨_, rfl⟩
          have HXX : Hid (X2 = X + 131072) := by show X2 = _; rw [← HX.out, ← HX2.out]; unfold lay; omega
          have HXL : Hid (X2 < 18446744073709551616) := by
            show X2 < _
            rw [← HX2.out]
            have := HD.out.h1; have := HD.out.mi1; have := HD.out.s1; have := HD.out.p1
            exact lay_lt _ _ _ _ _ _ _ hDl (by omega) (by omega) (by omega) (om12_lt om) (fnum_le a9) (by cases a7 <;> decide)
          clear hV2 hM2 hVd hDm hD2 hlast hDl
          go_wp2_with fail
          refine (build_any (y : Int) (m : Int) (d : Int) (h : Int) (mi : Int) (s : Int) a6 a7 (p : Int) a9 om _).mono ?_
          rintro e w1 ⟨rfl, b1⟩
          have B1 := hid b1
          have K1 := hid (DT.new y m d h mi s a6 a7 p a9 om w1)
          clear b1
          go_wp2_with fail
          refine (build_any (y2 : Int) (m2 : Int) (d2 : Int) (h : Int) (mi : Int) (s : Int) a6 a7 (p : Int) a9 om _).mono ?_
          rintro e w2 ⟨rfl, b2⟩
          have B2 := hid ((B1.out.alloc B1.out.size _).trans (b2.mono (by have := B1.out.size; simp; omega)))
          have L1 := hid ((K1.out.later b2).later ((Below.refl w2.heap.size w2).alloc (Nat.le_refl _) (.cells #[.int .i64 (y2 : Int), .int .i64 (m2 : Int), .int .i64 (d2 : Int), .int .i64 (h : Int), .int .i64 (mi : Int), .int .i64 (s : Int), .string a6, .bool a7, .int .u8 (p : Int), .string a9, .int .i64 om] 31)))
          have K2 := hid (DT.new y2 m2 d2 h mi s a6 a7 p a9 om w2)
          clear b2 K1 B1
          go_wp2_with fail
          refine (zznew_any w1.heap.size y m d h mi s a6 a7 p a9 om D X _ L1.out HN1.out HX.out).mono ?_
          rintro e w3 ⟨rfl, b3⟩
          have B3 := hid ((B2.out.alloc B2.out.size _).trans (b3.mono (by have := B2.out.size; simp; omega)))
          have L2 := hid ((K2.out.later b3).later ((Below.refl w3.heap.size w3).alloc (Nat.le_refl _) (.cells #[.int .u64 (X : Int), .string a6, .pointer none] 36)))
          clear b3 K2 L1 B2
          go_wp2_with fail
          refine (zznew_any w2.heap.size y2 m2 d2 h mi s a6 a7 p a9 om (D + 1) X2 _ L2.out HN2.out HX2.out).mono ?_
          rintro e w4 ⟨rfl, b4⟩
          have B4 := hid ((B3.out.alloc B3.out.size _).trans (b4.mono (by have := B3.out.size; simp; omega)))
          have T4 := two_new b4 X2
          clear b4 L2 B3
          have hE : ((X2 : Int) == IntKind.u64.wrap ((X : Int) + 131072)) = true := by
            have h1 := HXX.out
            have h2 := HXL.out
            rw [beq_iff_eq, IntKind.wrap_u64]; omega
          have hF : (a6.toList == a6.toList) = true := by simp
          have hAC : w3.heap.size < w4.heap.size := T4.lt4
          have p0 : w4.cell? ⟨w3.heap.size, 0, none⟩ = some (.int .u64 (X : Int)) := (World.cell?_alloc_past _ _ _ hAC).symm.trans T4.a0
          have p1 : w4.cell? ⟨w3.heap.size, 1, none⟩ = some (.string a6) := (World.cell?_alloc_past _ _ _ hAC).symm.trans T4.a1
          have p2 : w4.cell? ⟨w3.heap.size, 2, none⟩ = some (.pointer none) := (World.cell?_alloc_past _ _ _ hAC).symm.trans T4.a2
          clear HX HX2 HN1 HN2 HD
          go_wp2_with fail
          go_region_with (first
            | (go_at_call_of 9 (Value.int IntKind.u64 ((X2 : Nat) : Int)); refine (bits_any X2 a6 _).mono ?_; rintro e w5 ⟨rfl, b5⟩; have T5 := Two.next (by assumption) b5; clear b5; have a50 := T5.a0; have a51 := T5.a1; have a52 := T5.a2; have c50 := T5.c0; have c51 := T5.c1; have c52 := T5.c2)
            | (go_at_call_of 9 (Value.int IntKind.u64 ((X : Nat) : Int)); refine (bits_any X a6 _).mono ?_; rintro e w6 ⟨rfl, b6⟩; have T6 := Two.next (by assumption) b6; clear b6; have a60 := T6.a0; have a61 := T6.a1; have a62 := T6.a2; have c60 := T6.c0; have c61 := T6.c1; have c62 := T6.c2)
            | (go_at_call_of 13 (Value.int IntKind.u64 ((X2 : Nat) : Int)); refine (frac_any X2 a6 _).mono ?_; rintro e w7 ⟨rfl, b7⟩; have T7 := Two.next (by assumption) b7; clear b7; have a70 := T7.a0; have a71 := T7.a1; have a72 := T7.a2; have c70 := T7.c0; have c71 := T7.c1; have c72 := T7.c2)
            | (go_at_call_of 13 (Value.int IntKind.u64 ((X : Nat) : Int)); refine (frac_any X a6 _).mono ?_; rintro e w8 ⟨rfl, b8⟩; have T8 := Two.next (by assumption) b8; clear b8))
          all_goals
            go_wp2
            go_ret
            exact ⟨rfl, B4.out.trans (T8.since.mono B4.out.size)⟩
    · clear hlast
      go_wp2
      go_ret
      exact ⟨rfl, Below.refl _ _⟩

end Go.Proofs.Qxb6604992a
