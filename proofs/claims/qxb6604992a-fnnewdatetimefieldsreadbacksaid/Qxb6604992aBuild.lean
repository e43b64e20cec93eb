import Derived.Test.Qxb6604992aNew
namespace Go.Proofs.Qxb6604992a
open Go.RowKit Plain

theorem res_new' (w : World) : Res w (w.alloc (.cells #[.int .u64 0, .string { data := #[] }, .pointer none] 36)) := by
  have hb := heap_alloc_new w (.cells #[.int .u64 0, .string { data := #[] }, .pointer none] 36)
  refine ⟨(Below.refl _ _).alloc (Nat.le_refl _) _, by simp, ?_, ?_, ?_, ?_, ?_, ?_⟩
  all_goals first | (rw [cell_of_row _ _ _ _ _ _ hb]; rfl) | exact frozen_of_row _ _ _ _ _ hb

set_option maxHeartbeats 1000000 in
theorem build_any (y m d h mi s : Int) (frac : ByteArray) (ht : Bool) (p : Int) (form : ByteArray) (om : Int) (w : World) :
    Calls Try.prog 7 #[.int .i64 y, .int .i64 m, .int .i64 d, .int .i64 h, .int .i64 mi, .int .i64 s, .string frac, .bool ht, .int .u8 p, .string form, .int .i64 om] w fun e w' => e = .returned (.agg #[.int .i64 y, .int .i64 m, .int .i64 d, .int .i64 h, .int .i64 mi, .int .i64 s, .string frac, .bool ht, .int .u8 p, .string form, .int .i64 om]) ∧ Below w.heap.size w w' := by
  go_enter Try.func7, Try.ntmps7
  go_wp2
  refine bodyPost_ret (v := .agg #[.int .i64 y, .int .i64 m, .int .i64 d, .int .i64 h, .int .i64 mi, .int .i64 s, .string frac, .bool ht, .int .u8 p, .string form, .int .i64 om]) ?_ rfl ⟨rfl, ?_⟩
  · simp [results, Try.results7, go_sem]
  · exact (Below.refl _ _).alloc (Nat.le_refl _) _

theorem bits_any (X : Nat) (frac : ByteArray) (w : World) : Calls Try.prog 9 #[.agg #[.int .u64 (X : Int), .string frac, .pointer none]] w fun e w' => e = .returned (.int .u64 (X : Int)) ∧ Below w.heap.size w w' := by
  go_enter Try.func9, Try.ntmps9
  go_wp2
  go_ret
  exact ⟨rfl, (Below.refl _ _).alloc (Nat.le_refl _) _⟩

theorem frac_any (X : Nat) (frac : ByteArray) (w : World) : Calls Try.prog 13 #[.agg #[.int .u64 (X : Int), .string frac, .pointer none]] w fun e w' => e = .returned (.string frac) ∧ Below w.heap.size w w' := by
  go_enter Try.func13, Try.ntmps13
  go_wp2
  go_ret
  exact ⟨rfl, (Below.refl _ _).alloc (Nat.le_refl _) _⟩

theorem leaps_any (X : Nat) (frac : ByteArray) (w : World) : Calls Try.prog 14 #[.agg #[.int .u64 (X : Int), .string frac, .pointer none]] w fun e w' => e = .returned (.pointer none) ∧ Below w.heap.size w w' := by
  go_enter Try.func14, Try.ntmps14
  go_wp2
  go_ret
  exact ⟨rfl, (Below.refl _ _).alloc (Nat.le_refl _) _⟩

/-- The eleven cells of an iso8601.DateTime in block g. -/
structure DT (g : Nat) (y m d h mi s : Nat) (frac : ByteArray) (ht : Bool) (p : Nat) (form : ByteArray) (om : Int) (w : World) : Prop where
  lt : g < w.heap.size
  c0 : w.cell? ⟨g, 0, none⟩ = some (.int .i64 (y : Int))
  c1 : w.cell? ⟨g, 1, none⟩ = some (.int .i64 (m : Int))
  c2 : w.cell? ⟨g, 2, none⟩ = some (.int .i64 (d : Int))
  c3 : w.cell? ⟨g, 3, none⟩ = some (.int .i64 (h : Int))
  c4 : w.cell? ⟨g, 4, none⟩ = some (.int .i64 (mi : Int))
  c5 : w.cell? ⟨g, 5, none⟩ = some (.int .i64 (s : Int))
  c6 : w.cell? ⟨g, 6, none⟩ = some (.string frac)
  c7 : w.cell? ⟨g, 7, none⟩ = some (.bool ht)
  c8 : w.cell? ⟨g, 8, none⟩ = some (.int .u8 (p : Int))
  c9 : w.cell? ⟨g, 9, none⟩ = some (.string form)
  c10 : w.cell? ⟨g, 10, none⟩ = some (.int .i64 om)

theorem DT.later {g : Nat} {y m d h mi s : Nat} {frac : ByteArray} {ht : Bool} {p : Nat} {form : ByteArray} {om : Int} {w w' : World} (k : DT g y m d h mi s frac ht p form om w) (hb : Below w.heap.size w w') : DT g y m d h mi s frac ht p form om w' := by
  have hc : ∀ o, w'.cell? ⟨g, o, none⟩ = w.cell? ⟨g, o, none⟩ := fun o => hb.cell (p := ⟨g, o, none⟩) k.lt
  exact ⟨Nat.lt_of_lt_of_le k.lt hb.size, (hc 0).trans k.c0, (hc 1).trans k.c1, (hc 2).trans k.c2, (hc 3).trans k.c3, (hc 4).trans k.c4, (hc 5).trans k.c5, (hc 6).trans k.c6, (hc 7).trans k.c7, (hc 8).trans k.c8, (hc 9).trans k.c9, (hc 10).trans k.c10⟩

theorem DT.new (y m d h mi s : Nat) (frac : ByteArray) (ht : Bool) (p : Nat) (form : ByteArray) (om : Int) (w : World) : DT w.heap.size y m d h mi s frac ht p form om (w.alloc (.cells #[.int .i64 (y : Int), .int .i64 (m : Int), .int .i64 (d : Int), .int .i64 (h : Int), .int .i64 (mi : Int), .int .i64 (s : Int), .string frac, .bool ht, .int .u8 (p : Int), .string form, .int .i64 om] 31)) := by
  have hb := heap_alloc_new w (.cells #[.int .i64 (y : Int), .int .i64 (m : Int), .int .i64 (d : Int), .int .i64 (h : Int), .int .i64 (mi : Int), .int .i64 (s : Int), .string frac, .bool ht, .int .u8 (p : Int), .string form, .int .i64 om] 31)
  refine ⟨by simp, ?_, ?_, ?_, ?_, ?_, ?_, ?_, ?_, ?_, ?_, ?_⟩
  all_goals (rw [cell_of_row _ _ _ _ _ _ hb]; rfl)

/-- The numbers of a date-time in the domain. -/
structure Nums (y m d h mi s p D : Nat) : Prop where
  date : Valid y m d
  day : model y m d = (D : Int)
  h1 : h ≤ 24
  mi1 : mi ≤ 59
  s1 : s ≤ 60
  p1 : p ≤ 7

set_option maxHeartbeats 1000000 in
theorem zznew_any (g : Nat) (y m d h mi s : Nat) (frac : ByteArray) (ht : Bool) (p : Nat) (form : ByteArray) (om : Int) (D X : Nat) (w : World) (hk : DT g y m d h mi s frac ht p form om w) (hn : Nums y m d h mi s p D) (hX : lay D (60 * h + mi) s (om12 om) (fnum form) p ht.toNat = X) :
    Calls Try.prog 8 #[.pointer (some ⟨g, 0, none⟩), .pointer none] w fun e w' => e = .returned (.agg #[.int .u64 (X : Int), .string frac, .pointer none]) ∧ Below w.heap.size w w' := by
  have K := hid (hk.later ((Below.refl w.heap.size w).alloc (Nat.le_refl _) (.cells #[.int .u64 0, .string { data := #[] }, .pointer none] 36)))
  have HN := hid hn
  have HX := hid hX
  clear hk hn hX
  go_enter Try.func8, Try.ntmps8
  go_wp2_with fail
  refine (new_any g y m d h mi s frac ht p form om D _ HN.out.date HN.out.day HN.out.h1 HN.out.mi1 HN.out.s1 HN.out.p1 K.out.lt K.out.c0 K.out.c1 K.out.c2 K.out.c3 K.out.c4 K.out.c5 K.out.c6 K.out.c7 K.out.c8 K.out.c9 K.out.c10).mono ?_
  rintro e w2 ⟨rfl, hb⟩
  rw [HX.out]
  obtain ⟨hB, hsz, q0, q1, q2, f0, f1, f2⟩ := (res_new' w).next hb
  clear hb
  go_wp2
  refine bodyPost_ret (v := .agg #[.int .u64 ((X : Nat) : Int), .string frac, .pointer none]) ?_ rfl ⟨rfl, ?_⟩
  · simp [results, Try.results8, go_sem, q0, q1, q2]
  · exact ((hB.setCell (by exact Nat.le_refl _) _).setCell (by exact Nat.le_refl _) _).setCell (by exact Nat.le_refl _) _

end Go.Proofs.Qxb6604992a
