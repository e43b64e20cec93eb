import Derived.Test.Qxb6003660aDedup
import Derived.Test.Qxb6003660aBitWalk
namespace Go.Proofs.Qxb6003660a
open Go.RowKit Plain

theorem decOut_append (a b : List (Nat × List Nat)) : decOut (a ++ b) = decOut a ++ decOut b := by simp [decOut]
theorem ser_append (a b : List (Nat × List Nat)) : ser (a ++ b) = ser a ++ ser b := by simp [ser]

/-- The octets of the block behind the first ones. -/
theorem ser_at (bp : List (Nat × List Nat)) (p : Nat × List Nat) (bq : List (Nat × List Nat)) :
    (ser (bp ++ p :: bq)).getD (ser bp).length 0 = p.1 ∧ (ser (bp ++ p :: bq)).getD ((ser bp).length + 1) 0 = p.2.length ∧
    (∀ j, j < p.2.length → (ser (bp ++ p :: bq)).getD ((ser bp).length + 2 + j) 0 = p.2.getD j 0) ∧
    (ser (bp ++ p :: bq)).length = (ser bp).length + 2 + p.2.length + (ser bq).length := by
  rw [ser_append, ser_cons]
  unfold serB
  simp only [List.getD_eq_getElem?_getD]
  refine ⟨?_, ?_, ?_, ?_⟩
  · rw [List.getElem?_append_right (Nat.le_refl _)]; simp
  · rw [List.getElem?_append_right (by omega), Nat.add_sub_cancel_left]; simp
  · intro j hj
    rw [List.getElem?_append_right (by omega), show (ser bp).length + 2 + j - (ser bp).length = j + 2 by omega]
    simp only [List.cons_append, List.getElem?_cons_succ]
    rw [List.getElem?_append_left hj]
  · simp; omega

theorem bitsTo_length (w : Nat) (bytes : List Nat) (n : Nat) : (bitsTo w bytes n).length ≤ n := by
  unfold bitsTo
  rw [List.length_map]
  exact Nat.le_trans (List.length_filter_le _ _) (by simp)

theorem decOut_length (bs : List (Nat × List Nat)) : (decOut bs).length ≤ 8 * (ser bs).length := by
  induction bs with
  | nil => simp [decOut]
  | cons p ps ih =>
    have h1 : decOut (p :: ps) = bitsOf p ++ decOut ps := by simp [decOut]
    have h2 := bitsTo_length p.1 p.2 (8 * p.2.length)
    rw [h1, ser_cons, List.length_append, List.length_append]
    unfold serB bitsOf
    simp only [List.length_cons]
    omega

theorem bits_hit (D : List Nat) (W : Nat) (bytes : List Nat) (k j o : Nat) (hj : j < 8) (ho : o = bytes.getD k 0) (h : o.testBit (7 - j) = true) : D ++ bitsTo W bytes (8 * k + (j + 1)) = (D ++ bitsTo W bytes (8 * k + j)) ++ [W * 256 + (8 * k + j)] := by
  rw [← Nat.add_assoc, bitsTo_succ, if_pos, List.append_assoc]
  unfold tb
  rw [show (8 * k + j) / 8 = k by omega, show (8 * k + j) % 8 = j by omega, ← ho]
  exact h
theorem bits_miss (D : List Nat) (W : Nat) (bytes : List Nat) (k j o : Nat) (hj : j < 8) (ho : o = bytes.getD k 0) (h : ¬ o.testBit (7 - j) = true) : D ++ bitsTo W bytes (8 * k + (j + 1)) = D ++ bitsTo W bytes (8 * k + j) := by
  rw [← Nat.add_assoc, bitsTo_succ, if_neg, List.append_nil]
  unfold tb
  rw [show (8 * k + j) / 8 = k by omega, show (8 * k + j) % 8 = j by omega, ← ho]
  exact h

set_option maxRecDepth 100000 in
set_option maxHeartbeats 1000000 in
theorem decode_any (a : Option Addr) (n cap : Nat) (bs : List (Nat × List Nat)) (w : World) (hn : n ≤ 67108864) (hr : RowAt .u8 w a n cap (ser bs)) (hch : chainF (-1) bs) :
    Calls Try.prog 31 #[.slice a n cap] w fun e w' => ∃ v, e = .returned (.tuple #[v, .bool true]) ∧ w'.ownsRow w.heap.size 50 1 v (decOut bs).length (ints .u16 (decOut bs)) ∧ Below w.heap.size w w' := by
  obtain ⟨hl, _, _, _, hcell⟩ := hr
  obtain ⟨i0, hi, hz0, hz1, hz2⟩ := info_parts Try.info50
  have HC : Hid (_) := hch
  clear hch
  go_enter Try.func31, Try.ntmps31
  go_wp2
  go_loopw [4, 5, 6] (fun v p i wr => ∃ (bp bq : List (Nat × List Nat)) (q : Int), bs = bp ++ bq ∧ p = .int .i64 q ∧ -1 ≤ q ∧ q ≤ 255 ∧ i = .int .i64 ((ser bp).length : Nat) ∧ chainF q bq ∧ wr.ownsRow w.heap.size 50 1 v (decOut bp).length (ints .u16 (decOut bp)) ∧ Below w.heap.size w wr) (fun _ _ i _ => n - (intOf i).toNat)
  case atStart => exact ⟨[], bs, -1, rfl, rfl, by omega, by omega, rfl, HC.out, World.ownsRow_nil _ _ _ _, Below.refl _ _⟩
  case round =>
    obtain ⟨bp, bq, q, hbs, rfl, hq1, hq2, rfl, hchain, hown, hbel⟩ := hrel
    cases bq with
    | nil =>
      simp only [List.append_nil] at hbs
      subst hbs
      have hge : ¬ (ser bs).length < n := by omega
      generalize (ser bs).length = t at hge
      clear hcell hl HC
      go_wp2
      go_ret2
      exact ⟨_, rfl, hown, hbel⟩
    | cons p ps =>
      obtain ⟨hqp, hok, hchain'⟩ := hchain
      obtain ⟨s1, s2, s3, s4⟩ := ser_at bp p ps
      rw [← hbs, hl] at s4
      rw [← hbs] at s1 s2 s3
      obtain ⟨ok1, ok2, ok3, ok4, ok5⟩ := hok
      obtain ⟨b, off, rfl, hc⟩ := hcell (by omega)
      have hb : b < w.heap.size := World.block_lt_of_cell? w _ (hc 0 (by omega))
      have hcw : ∀ wx, Below w.heap.size w wx → ∀ j, j < n → wx.cell? ⟨b, off + j, none⟩ = some (.int .u8 (((ser bs).getD j 0 : Nat) : Int)) := fun wx hx j hj => (hx.cell (by exact hb)).trans (hc j hj)
      have c1 := hcw wr hbel (ser bp).length (by omega)
      have c2 := hcw wr hbel ((ser bp).length + 1) (by omega)
      have c3 := hcw wr hbel ((ser bp).length + 1 + p.2.length) (by omega)
      rw [s1] at c1
      rw [s2] at c2
      rw [show (ser bp).length + 1 + p.2.length = (ser bp).length + 2 + (p.2.length - 1) by omega, s3 _ (by omega), show (ser bp).length + 2 + (p.2.length - 1) = (ser bp).length + 1 + p.2.length by omega] at c3
      have hlast : (((p.2.getD (p.2.length - 1) 0 : Nat) : Int) == 0) = false := by rw [beq_eq_false_iff_ne]; omega
      generalize p.2.getD (p.2.length - 1) 0 = lst at c3 hlast
      generalize hW : p.1 = W at *
      generalize hsz : p.2.length = sz at *
      generalize ht : (ser bp).length = t at *
      have HW : Hid (_) := hW
      have HS : Hid (_) := hsz
      have HT : Hid (_) := ht
      have HB : Hid (_) := hbs
      have H3 : Hid (_) := s3
      have HCW : Hid (_) := hcw
      have HCH : Hid (_) := hchain'
      have hfit : t + 2 + sz ≤ n := by omega
      have H4 : Hid (_) := s4
      clear hW hsz ht hbs s3 hcw hc hcell s1 s2 s4 hchain' HC hl
      go_wp2
      obtain ⟨wo, rfl⟩ : ∃ wo : World, wo = wr := ⟨_, rfl⟩
      go_loopw [4, 9] (fun v o wr => ∃ k : Nat, k ≤ sz ∧ o = .int .i64 k ∧ wr.ownsRow w.heap.size 50 1 v (decOut bp ++ bitsTo W p.2 (8 * k)).length (ints .u16 (decOut bp ++ bitsTo W p.2 (8 * k))) ∧ Below w.heap.size w wr) (fun _ o _ => sz - (intOf o).toNat)
      case atStart => exact ⟨0, Nat.zero_le _, rfl, by simpa [bitsTo_zero] using hown, hbel⟩
      case round =>
        clear hown hbel c1 c2 c3 hlast
        obtain ⟨k, hk, rfl, hown, hbel⟩ := hrel
        by_cases hlt : k < sz
        · have c4 := HCW.out wr hbel (t + 2 + k) (by omega)
          rw [H3.out k hlt] at c4
          have hoct : p.2.getD k 0 < 256 := by
            refine ok4 _ ((mem_getD _ _).2 ⟨k, by rw [HS.out]; exact hlt, rfl⟩)
          obtain ⟨oct, HO⟩ : ∃ oct, Hid (oct = p.2.getD k 0) := ⟨_, rfl⟩
          rw [← HO.out] at c4 hoct
          go_wp2
          obtain ⟨wo, rfl⟩ : ∃ wo : World, wo = wr := ⟨_, rfl⟩
          go_loopw [4, 11] (fun v o wr => ∃ j : Nat, j ≤ 8 ∧ o = .int .i64 j ∧ wr.ownsRow w.heap.size 50 1 v (decOut bp ++ bitsTo W p.2 (8 * k + j)).length (ints .u16 (decOut bp ++ bitsTo W p.2 (8 * k + j))) ∧ Below w.heap.size w wr) (fun _ o _ => 8 - (intOf o).toNat)
          case atStart => exact ⟨0, Nat.zero_le _, rfl, hown, hbel⟩
          case round =>
            clear hown hbel c4
            obtain ⟨j, hj, rfl, hown, hbel⟩ := hrel
            by_cases hlt8 : j < 8
            · have hlen : (decOut bp ++ bitsTo W p.2 (8 * k + j)).length ≤ 8 * t + 256 := by
                have h1 := decOut_length bp
                have h2 := bitsTo_length W p.2 (8 * k + j)
                rw [HT.out] at h1
                rw [List.length_append]
                omega
              by_cases hbit : oct.testBit (7 - j) = true
              · have hB : (bits BinOp.and IntKind.u8 (oct : Int) (128 / 2 ^ j) != 0) = true := by rw [bit_test oct j hoct hlt8]; exact hbit
                have hor := or_join W (8 * k + j) ((k : Int) * 8 + (j : Int)) (by omega) (by omega) (by omega)
                have HD : Hid (_) := bits_hit (decOut bp) W p.2 k j oct hlt8 HO.out hbit
                generalize W * 256 + (8 * k + j) = x at hor HD
                generalize decOut bp ++ bitsTo W p.2 (8 * k + j) = d at hown HD hlen
                have hsz := hbel.size
                clear hbit
                go_wp2_with (at_builtin; refine wpList_append_own _ rfl _ _ 43 rfl w.heap.size 50 i0 (.int .u16 0) 1 2 Try.underlying43 hi hz0 hz1 hz2 rfl (by decide) _ _ _ rfl (hown.alloc _) ⟨wr.heap.size, 0, none⟩ 1 1 [.int .u16 x] rfl rfl (cell_one_new _ _ _) (by intro u hu; simp at hu; subst hu; rfl) (by unfold maxLen; omega) (by omega) (by simp; omega) ?_)
                intro v' w1 hown' hgrow _
                have hb2 : Below w.heap.size w w1 := (hbel.alloc (by omega) _).grown hgrow (by simp; omega) (fun g hg => (hown.lt g hg).1)
                have R := own_snoc hown'
                clear hown' hgrow hown hbel
                go_wp2
                go_roundw
                case rel => exact ⟨j + 1, by omega, by go_num, by rw [HD.out]; exact R, hb2⟩
                case measure => simp [intOf]; omega
              · have hB : (bits BinOp.and IntKind.u8 (oct : Int) (128 / 2 ^ j) != 0) = false := by rw [bit_test oct j hoct hlt8]; simpa using hbit
                have HD : Hid (_) := bits_miss (decOut bp) W p.2 k j oct hlt8 HO.out hbit
                clear hbit
                go_wp2
                go_roundw
                case rel => exact ⟨j + 1, by omega, by go_num, by rw [HD.out]; exact hown, hbel⟩
                case measure => simp [intOf]; omega
            · obtain rfl : j = 8 := by omega
              go_wp2
              go_roundw
              case rel => exact ⟨k + 1, by omega, by go_num, hown, hbel⟩
              case measure => simp [intOf]; omega
        · have HK : Hid (k = sz) := by show k = sz; omega
          have hnk : ¬ (k : Int) < (sz : Int) := by omega
          go_wp2
          go_roundw
          case rel =>
            have e1 : decOut (bp ++ [p]) = decOut bp ++ bitsTo W p.2 (8 * k) := by
              rw [decOut_append]
              have : decOut [p] = bitsOf p := by simp [decOut]
              rw [this, bitsOf, HW.out, HS.out, HK.out]
            have e2 : (ser (bp ++ [p])).length = t + (2 + sz) := by
              rw [ser_append, List.length_append, HT.out, ser_cons, List.length_append, ser_nil]
              unfold serB
              simp only [List.length_cons, List.length_nil, HS.out]
              omega
            exact ⟨bp ++ [p], ps, (W : Int), by rw [HB.out, List.append_assoc]; rfl, rfl, by omega, by omega, by rw [e2]; go_num, HCH.out, by rw [e1]; exact hown, hbel⟩
          case measure => simp [intOf]; omega

end Go.Proofs.Qxb6003660a
