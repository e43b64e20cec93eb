import Derived.Test.Qxb6604992aDom
namespace Go.Proofs.Qxb6604992a
open Go.RowKit Plain

theorem ret_int {k : IntKind} {a b : Int} (h : a = b) : Ending.returned (.int k a) = .returned (.int k b) := by rw [h]

set_option maxHeartbeats 1000000 in
theorem day_late (y m d : Int) (w : World) (y0 : 0 ≤ y) (y1 : y ≤ 9999) (m0 : 3 ≤ m) (m1 : m ≤ 12) (d0 : 1 ≤ d) (d1 : d ≤ 31) :
    Calls Try.prog 23 #[.agg #[.int .i64 y, .int .i64 m, .int .i64 d]] w fun e w' => e = .returned (.int .i64 (dnum y m d)) ∧ Below w.heap.size w w' := by
  have HD := hid (show dnum y m d = dn (y + 10000000) m d by unfold dnum; rw [if_neg (by omega)])
  go_enter Try.func23, Try.ntmps23
  go_wp2
  go_ret
  exact ⟨by rw [HD.out]; rfl, (Below.refl _ _).alloc (Nat.le_refl _) _⟩

set_option maxHeartbeats 1000000 in
theorem day_early (y m d : Int) (w : World) (y0 : 0 ≤ y) (y1 : y ≤ 9999) (m0 : 1 ≤ m) (m1 : m ≤ 2) (d0 : 1 ≤ d) (d1 : d ≤ 31) :
    Calls Try.prog 23 #[.agg #[.int .i64 y, .int .i64 m, .int .i64 d]] w fun e w' => e = .returned (.int .i64 (dnum y m d)) ∧ Below w.heap.size w w' := by
  have HD := hid (show dnum y m d = dn (y + 10000000 - 1) (m + 12) d by unfold dnum; rw [if_pos (by omega)])
  go_enter Try.func23, Try.ntmps23
  go_wp2
  go_ret
  exact ⟨by rw [HD.out]; rfl, (Below.refl _ _).alloc (Nat.le_refl _) _⟩

theorem day_any (y m d : Int) (D : Nat) (w : World) (hv : Valid y m d) (hD : model y m d = (D : Int)) :
    Calls Try.prog 23 #[.agg #[.int .i64 y, .int .i64 m, .int .i64 d]] w fun e w' => e = .returned (.int .i64 (D : Int)) ∧ Below w.heap.size w w' := by
  have hdl := dim_le y m
  have hd1 := hv.d1
  rw [← hD, ← model_eq y m d hv.m0 hv.m1]
  by_cases h : m ≤ 2
  · exact day_early y m d w hv.y0 hv.y1 hv.m0 h hv.d0 (by omega)
  · exact day_late y m d w hv.y0 hv.y1 (by omega) hv.m1 hv.d0 (by omega)

/-- The form's number. -/
def fnum (s : ByteArray) : Nat := if (s.toList == [90]) = true then 1 else if (s.toList == [194, 177, 104, 104, 58, 109, 109]) = true then 2 else 0
theorem fnum_le (s : ByteArray) : fnum s ≤ 2 := by unfold fnum; split <;> (try split) <;> omega

/-- The offset's minutes in twelve bits. -/
def om12 (om : Int) : Nat := (om % 4096).toNat
theorem om12_lt (om : Int) : om12 om < 4096 := by unfold om12; omega

theorem dayBits_any (D : Nat) (w : World) (h : D ≤ 3652424) : Calls Try.prog 22 #[.int .i64 (D : Int)] w fun e w' => e = .returned (.int .u64 ((131072 * D : Nat) : Int)) ∧ w = w' := by
  go_enter Try.func22, Try.ntmps22
  go_wp2
  go_ret
  exact ⟨ret_int (by omega), rfl⟩

theorem clock_or (mn sec : Nat) (h1 : mn ≤ 1499) (h2 : sec ≤ 60) : bits BinOp.or IntKind.u64 (sec : Int) ((mn : Int) * 64) = ((64 * mn + sec : Nat) : Int) := by
  have e := or_low 6 mn sec (by omega)
  have h := u64_or_nat sec (mn * 64) (by omega) (by omega)
  rw [show ((mn : Int) * 64) = ((mn * 64 : Nat) : Int) by omega, h, Nat.or_comm, Nat.mul_comm mn 64]
  exact congrArg (fun n : Nat => (n : Int)) e

theorem clockBits_any (mn sec : Nat) (w : World) (h1 : mn ≤ 1499) (h2 : sec ≤ 60) : Calls Try.prog 24 #[.int .i64 (mn : Int), .int .i64 (sec : Int)] w fun e w' => e = .returned (.int .u64 ((64 * mn + sec : Nat) : Int)) ∧ w = w' := by
  have HO := hid (clock_or mn sec h1 h2)
  go_enter Try.func24, Try.ntmps24
  go_wp2
  go_ret
  exact ⟨ret_int HO.out, rfl⟩

theorem off_val (om : Int) : IntKind.u64.wrap (IntKind.u64.wrap om * 4503599627370496) = ((4503599627370496 * om12 om : Nat) : Int) := by
  rw [IntKind.wrap_u64, IntKind.wrap_u64]
  unfold om12
  omega

theorem off_or (o f : Nat) (ho : o < 4096) (hf : f ≤ 2) : bits BinOp.or IntKind.u64 ((4503599627370496 * o : Nat) : Int) ((8796093022208 * f : Nat) : Int) = ((8796093022208 * f + 4503599627370496 * o : Nat) : Int) := by
  have e := or_low 52 o (8796093022208 * f) (by omega)
  rw [u64_or_nat _ _ (by omega) (by omega)]
  have e' : 4503599627370496 * o ||| 8796093022208 * f = 4503599627370496 * o + 8796093022208 * f := e
  rw [e', Nat.add_comm]

set_option maxHeartbeats 1000000 in
theorem offsetBits_any (s : ByteArray) (om : Int) (w : World) : Calls Try.prog 25 #[.agg #[.string s, .int .i64 om]] w fun e w' => e = .returned (.int .u64 ((8796093022208 * fnum s + 4503599627370496 * om12 om : Nat) : Int)) ∧ Below w.heap.size w w' := by
  have HV := hid (off_val om)
  have HO := hid (off_or (om12 om))
  have hl := om12_lt om
  cases g1 : (s.toList == [90])
  · cases g2 : (s.toList == [194, 177, 104, 104, 58, 109, 109])
    · have HF := hid (show fnum s = 0 by unfold fnum; rw [if_neg (by simp [g1]), if_neg (by simp [g2])])
      go_enter Try.func25, Try.ntmps25
      go_wp2
      go_ret
      exact ⟨ret_int (by rw [HF.out, Nat.mul_zero, Nat.zero_add]; exact HV.out), (Below.refl _ _).alloc (Nat.le_refl _) _⟩
    · have HF := hid (show fnum s = 2 by unfold fnum; rw [if_neg (by simp [g1]), if_pos g2])
      go_enter Try.func25, Try.ntmps25
      go_wp2
      go_ret
      exact ⟨ret_int (by rw [HF.out, HV.out]; exact HO.out 2 hl (by omega)), (Below.refl _ _).alloc (Nat.le_refl _) _⟩
  · have HF := hid (show fnum s = 1 by unfold fnum; rw [if_pos g1])
    go_enter Try.func25, Try.ntmps25
    go_wp2
    go_ret
    exact ⟨ret_int (by rw [HF.out, HV.out]; exact HO.out 1 hl (by omega)), (Below.refl _ _).alloc (Nat.le_refl _) _⟩

end Go.Proofs.Qxb6604992a
