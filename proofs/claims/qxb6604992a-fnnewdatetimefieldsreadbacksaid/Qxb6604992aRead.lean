import Derived.Test.Qxb6604992aBuild
import Derived.Deep.DeepCutAuto
namespace Go.Proofs.Qxb6604992a
open Go.RowKit Plain

theorem bytes5_small (a0 a1 a2 a3 a4 a5 : Int) (a6 : ByteArray) (a7 : Bool) (a8 : Int) (a9 : ByteArray) (a10 : Int) (w : World) (h6 : a6.size ≤ 524288) (h9 : a9.size ≤ 524288) :
    Calls Try.prog 5 #[.int .i64 a0, .int .i64 a1, .int .i64 a2, .int .i64 a3, .int .i64 a4, .int .i64 a5, .string a6, .bool a7, .int .u8 a8, .string a9, .int .i64 a10] w fun e w' => e = .returned (.bool true) ∧ w = w' := by
  go_enter Try.func5, Try.ntmps5
  go_wp2
  go_ret
  exact ⟨rfl, rfl⟩

set_option maxHeartbeats 1000000 in
theorem fields_big (a0 a1 a2 a3 a4 a5 : Int) (a6 : ByteArray) (a7 : Bool) (a8 : Int) (a9 : ByteArray) (a10 : Int) (w : World) (h6 : a6.size ≤ maxLen) (h9 : a9.size ≤ maxLen) (hbig : ¬ (a6.size ≤ 524288 ∧ a9.size ≤ 524288)) :
    Calls Try.prog 3 #[.int .i64 a0, .int .i64 a1, .int .i64 a2, .int .i64 a3, .int .i64 a4, .int .i64 a5, .string a6, .bool a7, .int .u8 a8, .string a9, .int .i64 a10] w fun e w' => e = .returned (.bool true) ∧ Below w.heap.size w w' := by
  unfold maxLen at h6 h9
  rcases (show (524288 < a6.size) ∨ (a6.size ≤ 524288 ∧ 524288 < a9.size) by omega) with p | ⟨p, q⟩
  all_goals
    clear hbig
    go_enter Try.func3, Try.ntmps3
    go_wp2
    all_goals (go_ret; exact ⟨rfl, Below.refl _ _⟩)

set_option maxHeartbeats 1000000 in
theorem fields_out (a0 a1 a2 a3 a4 a5 : Int) (a6 : ByteArray) (a7 : Bool) (a8 : Int) (a9 : ByteArray) (a10 : Int) (w : World) (h6 : a6.size ≤ 524288) (h9 : a9.size ≤ 524288) (hd : ¬ InDom a0 a1 a2 a3 a4 a5 a8 a10) :
    Calls Try.prog 3 #[.int .i64 a0, .int .i64 a1, .int .i64 a2, .int .i64 a3, .int .i64 a4, .int .i64 a5, .string a6, .bool a7, .int .u8 a8, .string a9, .int .i64 a10] w fun e w' => e = .returned (.bool true) ∧ Below w.heap.size w w' := by
  have HD := hid hd
  clear hd
  go_enter Try.func3, Try.ntmps3
  go_wp2_with fail
  refine (bytes5_small a0 a1 a2 a3 a4 a5 a6 a7 a8 a9 a10 _ h6 h9).mono ?_
  rintro e w' ⟨rfl, rfl⟩
  go_wp2_with fail
  refine (dom_any a0 a1 a2 a3 a4 a5 a8 a10 _).mono ?_
  rintro e w' (⟨rfl, rfl, hv⟩ | ⟨rfl, rfl⟩)
  · exact absurd hv HD.out
  · go_wp2
    go_ret
    exact ⟨rfl, Below.refl _ _⟩

theorem dbm_le (m : Int) : 0 ≤ dbm m ∧ dbm m ≤ 334 := by
  unfold dbm
  repeat' split
  all_goals omega

set_option maxHeartbeats 1000000 in
theorem dbm_any (m : Int) (w : World) (m0 : 1 ≤ m) (m1 : m ≤ 12) : Calls Try.prog 19 #[.int .i64 m] w fun e w' => e = .returned (.int .i64 (dbm m)) ∧ w = w' := by
  rcases (show m = 1 ∨ m = 2 ∨ m = 3 ∨ m = 4 ∨ m = 5 ∨ m = 6 ∨ m = 7 ∨ m = 8 ∨ m = 9 ∨ m = 10 ∨ m = 11 ∨ m = 12 by omega) with h | h | h | h | h | h | h | h | h | h | h | h
  all_goals
    subst h
    clear m0 m1
    go_enter Try.func19, Try.ntmps19
    go_wp2
    go_ret
    exact ⟨rfl, rfl⟩

set_option maxHeartbeats 1000000 in
theorem model_any (y m d : Int) (D : Nat) (w : World) (hv : Valid y m d) (hD : model y m d = (D : Int)) :
    Calls Try.prog 10 #[.int .i64 y, .int .i64 m, .int .i64 d] w fun e w' => e = .returned (.int .i64 (D : Int)) ∧ w = w' := by
  obtain ⟨y0, y1, m0, m1, d0, d1⟩ := hv
  have hdl := (dim_le y m).2
  have d2 : d ≤ 31 := by omega
  have hb := dbm_le m
  clear hdl d1
  unfold model at hD
  by_cases c : 2 < m
  · cases hl : leap y
    · have HD := hid (show 365 * y + (y + 3) / 4 - (y + 99) / 100 + (y + 399) / 400 + dbm m + d - 1 = (D : Int) by rw [if_neg (by simp [hl])] at hD; omega)
      have HL := hid hl
      clear hl hD
      go_enter Try.func10, Try.ntmps10
      go_wp2_with fail
      refine (dbm_any m _ m0 m1).mono ?_
      rintro e w' ⟨rfl, rfl⟩
      generalize dbm m = B at hb HD
      go_wp2_with fail
      refine (leap_any y _ y0 (by omega)).mono ?_
      rintro e w' ⟨rfl, rfl⟩
      rw [HL.out]
      go_wp2
      go_ret
      exact ⟨ret_int HD.out, rfl⟩
    · have HD := hid (show 365 * y + (y + 3) / 4 - (y + 99) / 100 + (y + 399) / 400 + dbm m + d - 1 + 1 = (D : Int) by rw [if_pos ⟨c, hl⟩] at hD; omega)
      have HL := hid hl
      clear hl hD
      go_enter Try.func10, Try.ntmps10
      go_wp2_with fail
      refine (dbm_any m _ m0 m1).mono ?_
      rintro e w' ⟨rfl, rfl⟩
      generalize dbm m = B at hb HD
      go_wp2_with fail
      refine (leap_any y _ y0 (by omega)).mono ?_
      rintro e w' ⟨rfl, rfl⟩
      rw [HL.out]
      go_wp2
      go_ret
      exact ⟨ret_int (by have := HD.out; omega), rfl⟩
  · have HD := hid (show 365 * y + (y + 3) / 4 - (y + 99) / 100 + (y + 399) / 400 + dbm m + d - 1 = (D : Int) by rw [if_neg (fun h => c h.1)] at hD; omega)
    clear hD
    go_enter Try.func10, Try.ntmps10
    go_wp2_with fail
    refine (dbm_any m _ m0 m1).mono ?_
    rintro e w' ⟨rfl, rfl⟩
    generalize dbm m = B at hb HD
    go_wp2
    go_ret
    exact ⟨ret_int HD.out, rfl⟩

set_option maxHeartbeats 1000000 in
theorem form_any (s : ByteArray) (w : World) : Calls Try.prog 12 #[.string s] w fun e w' => e = .returned (.int .u64 (fnum s : Int)) ∧ w = w' := by
  cases g1 : (s.toList == [90])
  · cases g2 : (s.toList == [194, 177, 104, 104, 58, 109, 109])
    · have HF := hid (show fnum s = 0 by unfold fnum; rw [if_neg (by simp [g1]), if_neg (by simp [g2])])
      go_enter Try.func12, Try.ntmps12
      go_wp2
      go_ret
      exact ⟨ret_int (by rw [HF.out]; rfl), rfl⟩
    · have HF := hid (show fnum s = 2 by unfold fnum; rw [if_neg (by simp [g1]), if_pos g2])
      go_enter Try.func12, Try.ntmps12
      go_wp2
      go_ret
      exact ⟨ret_int (by rw [HF.out]; rfl), rfl⟩
  · have HF := hid (show fnum s = 1 by unfold fnum; rw [if_pos g1])
    go_enter Try.func12, Try.ntmps12
    go_wp2
    go_ret
    exact ⟨ret_int (by rw [HF.out]; rfl), rfl⟩

theorem mask_u64 (E : Int) (x k : Nat) (hE : E = (x : Int)) (hx : x < 18446744073709551616) (hk : k ≤ 60) : bits BinOp.and IntKind.u64 E (((2 ^ k - 1 : Nat)) : Int) = ((x % 2 ^ k : Nat) : Int) := by
  have h2 : 2 ^ k ≤ 2 ^ 60 := Nat.pow_le_pow_right (by decide) hk
  rw [hE, u64_and_nat x (2 ^ k - 1) hx (by omega), Nat.and_two_pow_sub_one_eq_mod]

theorem day_mask (X : Nat) (hX : X < 18446744073709551616) : bits BinOp.and IntKind.u64 ((X : Int) / 131072) 4194303 = ((X / 131072 % 4194304 : Nat) : Int) := mask_u64 _ (X / 131072) 22 (by omega) (by omega) (by omega)

theorem wrap64_small (n : Nat) (h : n < 4194304) : wrap64 (n : Int) = (n : Int) := by unfold wrap64; omega

set_option maxHeartbeats 1000000 in
theorem field_any (X : Nat) (w : World) (hX : X < 18446744073709551616) : Calls Try.prog 26 #[.int .u64 (X : Int), .int .u64 17, .int .u64 39] w fun e w' => e = .returned (.int .i64 ((X / 131072 % 4194304 : Nat) : Int)) ∧ w = w' := by
  have HM := hid (day_mask X hX)
  go_enter Try.func26, Try.ntmps26
  go_wp2
  go_ret
  exact ⟨ret_int (by rw [HM.out]; exact wrap64_small _ (Nat.mod_lt _ (by decide))), rfl⟩

theorem daymeth_any (X : Nat) (frac : ByteArray) (w : World) (hX : X < 18446744073709551616) : Calls Try.prog 21 #[.agg #[.int .u64 (X : Int), .string frac, .pointer none]] w fun e w' => e = .returned (.int .i64 ((X / 131072 % 4194304 : Nat) : Int)) ∧ Below w.heap.size w w' := by
  go_enter Try.func21, Try.ntmps21
  go_wp2_with fail
  refine (field_any X _ hX).mono ?_
  rintro e w' ⟨rfl, rfl⟩
  go_wp2
  go_ret
  exact ⟨rfl, (Below.refl _ _).alloc (Nat.le_refl _) _⟩

theorem zzday_any (X D : Nat) (frac : ByteArray) (w : World) (hX : X < 18446744073709551616) (hD : X / 131072 % 4194304 = D) : Calls Try.prog 11 #[.agg #[.int .u64 (X : Int), .string frac, .pointer none]] w fun e w' => e = .returned (.int .i64 (D : Int)) ∧ Below w.heap.size w w' := by
  have HD := hid hD
  clear hD
  go_enter Try.func11, Try.ntmps11
  go_wp2_with fail
  refine (daymeth_any X frac _ hX).mono ?_
  rintro e w' ⟨rfl, b⟩
  rw [HD.out]
  have B := hid (((Below.refl w.heap.size w).alloc (Nat.le_refl _) (.cells #[.int .u64 (X : Int), .string frac, .pointer none] 36)).trans (b.mono (by simp)))
  clear b
  go_wp2
  go_ret
  exact ⟨rfl, B.out⟩

theorem pick_fld (X low i fld k high : Nat) (h : X = low + i * (fld + k * high)) (hl : low < i) (hf : fld < k) : X / i % k = fld := by
  rw [h, Nat.add_mul_div_left _ _ (by omega : 0 < i), Nat.div_eq_of_lt hl, Nat.zero_add, Nat.add_mul_mod_self_left, Nat.mod_eq_of_lt hf]

theorem off_read (X R o : Nat) (om : Int) (hX : R + 4503599627370496 * o = X) (hR : R < 4503599627370496) (ho : o < 4096) (ho2 : (o : Int) = om % 4096) (o0 : -1439 ≤ om) (o1 : om ≤ 1439) : wrap64 (X : Int) / 4503599627370496 = om := by
  unfold wrap64
  by_cases h : 0 ≤ om
  · have e : (o : Int) = om := by omega
    have e2 : ((X : Int) + 9223372036854775808) % 18446744073709551616 = (X : Int) + 9223372036854775808 := by omega
    rw [e2]; omega
  · have e : (o : Int) = om + 4096 := by omega
    have e2 : ((X : Int) + 9223372036854775808) % 18446744073709551616 = (X : Int) + 9223372036854775808 - 18446744073709551616 := by omega
    rw [e2]; omega

/-- The fields of the laid-out bits. -/
structure Flds (X D mn s p f t : Nat) (om : Int) : Prop where
  lt : X < 18446744073709551616
  sec : X % 64 = s
  mins : X / 64 % 2048 = mn
  day : X / 131072 % 4194304 = D
  time : X / 549755813888 % 2 = t
  prec : X / 1099511627776 % 8 = p
  form : X / 8796093022208 % 512 = f
  off : wrap64 (X : Int) / 4503599627370496 = om

theorem flds (X D mn s p f t : Nat) (om : Int) (hX : lay D mn s (om12 om) f p t = X) (hD : D ≤ 3652424) (h1 : mn ≤ 1499) (s1 : s ≤ 60) (p1 : p ≤ 7) (hf : f ≤ 2) (ht : t ≤ 1) (o0 : -1439 ≤ om) (o1 : om ≤ 1439) : Flds X D mn s p f t om := by
  have ho := om12_lt om
  have ho2 : (om12 om : Int) = om % 4096 := by unfold om12; omega
  have hlt := lay_lt D mn s p (om12 om) f t hD h1 s1 p1 ho hf ht
  generalize om12 om = o at *
  rw [hX] at hlt
  unfold lay at hX
  refine ⟨hlt, ?_, ?_, ?_, ?_, ?_, ?_, ?_⟩
  · have := pick_fld X 0 1 s 64 (mn + 2048 * (D + 4194304 * (t + 2 * (p + 8 * (f + 512 * o))))) (by omega) (by omega) (by omega)
    rw [Nat.div_one] at this; exact this
  · exact pick_fld X s 64 mn 2048 (D + 4194304 * (t + 2 * (p + 8 * (f + 512 * o)))) (by omega) (by omega) (by omega)
  · exact pick_fld X (s + 64 * mn) 131072 D 4194304 (t + 2 * (p + 8 * (f + 512 * o))) (by omega) (by omega) (by omega)
  · exact pick_fld X (s + 64 * mn + 131072 * D) 549755813888 t 2 (p + 8 * (f + 512 * o)) (by omega) (by omega) (by omega)
  · exact pick_fld X (s + 64 * mn + 131072 * D + 549755813888 * t) 1099511627776 p 8 (f + 512 * o) (by omega) (by omega) (by omega)
  · exact pick_fld X (s + 64 * mn + 131072 * D + 549755813888 * t + 1099511627776 * p) 8796093022208 f 512 o (by omega) (by omega) (by omega)
  · have hR : s + 64 * mn + 131072 * D + 549755813888 * t + 1099511627776 * p + 8796093022208 * f < 4503599627370496 := by omega
    generalize s + 64 * mn + 131072 * D + 549755813888 * t + 1099511627776 * p + 8796093022208 * f = R at hR hX
    exact off_read X R o om hX hR ho ho2 o0 o1

theorem Flds.m1 {X D mn s p f t : Nat} {om : Int} (h : Flds X D mn s p f t om) : bits BinOp.and IntKind.u64 (X : Int) 63 = (s : Int) := by
  have e := mask_u64 (X : Int) X 6 rfl h.lt (by omega)
  have h2 := h.sec
  exact e.trans (congrArg (fun n : Nat => (n : Int)) h2)
theorem Flds.m2 {X D mn s p f t : Nat} {om : Int} (h : Flds X D mn s p f t om) : bits BinOp.and IntKind.u64 ((X : Int) / 64) 2047 = (mn : Int) := by
  have e := mask_u64 ((X : Int) / 64) (X / 64) 11 (by omega) (by have := h.lt; omega) (by omega)
  exact e.trans (congrArg (fun n : Nat => (n : Int)) h.mins)
theorem Flds.m3 {X D mn s p f t : Nat} {om : Int} (h : Flds X D mn s p f t om) : bits BinOp.and IntKind.u64 ((X : Int) / 131072) 4194303 = (D : Int) := by
  have e := mask_u64 ((X : Int) / 131072) (X / 131072) 22 (by omega) (by have := h.lt; omega) (by omega)
  exact e.trans (congrArg (fun n : Nat => (n : Int)) h.day)
theorem Flds.m4 {X D mn s p f t : Nat} {om : Int} (h : Flds X D mn s p f t om) : bits BinOp.and IntKind.u64 ((X : Int) / 549755813888) 1 = (t : Int) := by
  have e := mask_u64 ((X : Int) / 549755813888) (X / 549755813888) 1 (by omega) (by have := h.lt; omega) (by omega)
  exact e.trans (congrArg (fun n : Nat => (n : Int)) h.time)
theorem Flds.m5 {X D mn s p f t : Nat} {om : Int} (h : Flds X D mn s p f t om) : bits BinOp.and IntKind.u64 ((X : Int) / 1099511627776) 7 = (p : Int) := by
  have e := mask_u64 ((X : Int) / 1099511627776) (X / 1099511627776) 3 (by omega) (by have := h.lt; omega) (by omega)
  exact e.trans (congrArg (fun n : Nat => (n : Int)) h.prec)
theorem Flds.m6 {X D mn s p f t : Nat} {om : Int} (h : Flds X D mn s p f t om) : bits BinOp.and IntKind.u64 ((X : Int) / 8796093022208) 511 = (f : Int) := by
  have e := mask_u64 ((X : Int) / 8796093022208) (X / 8796093022208) 9 (by omega) (by have := h.lt; omega) (by omega)
  exact e.trans (congrArg (fun n : Nat => (n : Int)) h.form)

end Go.Proofs.Qxb6604992a
