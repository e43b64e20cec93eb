import Derived.Test.Qxb6600478aWalks
namespace Go.Proofs.Qxb6600478a
open Go.RowKit Plain

set_option maxHeartbeats 1000000 in
theorem upper_any (a : Option Addr) (n cap : Nat) (xs : List Nat) (w : World) (hn : n ≤ 4194304) (hx : ∀ x ∈ xs, x < 256) (hr : RowAt .u8 w a n cap xs) :
    Calls Try.prog 12 #[.slice a n cap] w fun e w' => ∃ a' cap', e = .returned (.slice a' n cap') ∧ RowAt .u8 w' a' n cap' (xs.map up) ∧ Below w.heap.size w w' := by
  obtain ⟨hl, hnc, hcm, hnil, hcell⟩ := hr
  obtain ⟨i0, hi, hz0, hz1, hz2⟩ := info_parts Try.info5
  have HX := hid hx
  have HML : Hid ((xs.map up).length = n) := by show (xs.map up).length = n; rw [List.length_map]; exact hl
  clear hnil hx
  go_enter Try.func12, Try.ntmps12
  go_wp2_with (at_make; refine wpList_make_full _ rfl _ _ 22 rfl w.heap.size 5 i0 (.int .u8 0) 1 Try.underlying22 hi hz0 hz1 _ _ _ _ n rfl rfl rfl rfl (by rw [hz2]; omega) (by unfold maxLen; omega) (Nat.le_refl _) ?_)
  intro w1 hown hgrow
  have hb1 : Below w.heap.size w w1 := (Below.refl _ _).grown hgrow (Nat.le_refl _) (fun k h => by simp at h)
  have ho : w1.ownsRow w.heap.size 5 1 (.slice (some ⟨w.heap.size, 0, none⟩) n n) n (copied .u8 (xs.map up) n 0) := by rw [copied_zero]; simpa [Value.cells, toList_madeCells_one] using hown
  clear hown hgrow
  go_wp2
  go_loopw [4] (fun i wr => ∃ k : Nat, k ≤ n ∧ i = .int .i64 k ∧ wr.ownsRow w.heap.size 5 1 (.slice (some ⟨w.heap.size, 0, none⟩) n n) n (copied .u8 (xs.map up) n k) ∧ Below w.heap.size w wr) (fun i _ => n - (intOf i).toNat)
  case atStart => exact ⟨0, Nat.zero_le _, rfl, ho, hb1⟩
  case round =>
    obtain ⟨k, hk, rfl, hown, hbel⟩ := hrel
    clear ho hb1
    by_cases hlt : k < n
    · obtain ⟨b, off, rfl, hc⟩ := hcell (by omega)
      have hb : b < w.heap.size := World.block_lt_of_cell? w _ (hc k hlt)
      have hck : wr.cell? ⟨b, off + k, none⟩ = some (.int .u8 ((xs.getD k 0 : Nat) : Int)) := (hbel.cell (by exact hb)).trans (hc k hlt)
      have x1 := HX.out _ (mem_of_getD (show k < xs.length by omega))
      have hcg : wr.cell? ⟨w.heap.size, k, none⟩ = some (.int .u8 0) := by
        rw [hown.cellAt k (by omega)]
        have hl2 : (ints .u8 ((xs.map up).take k)).length = k := by rw [ints_length, List.length_take, HML.out]; omega
        unfold copied
        rw [List.getElem?_append_right (by omega), hl2, Nat.sub_self, List.getElem?_replicate, if_pos (by omega)]
      have hfg : wr.frozen? ⟨w.heap.size, k, none⟩ = false := hown.frozenAt k
      have hst := hown.stored k (.int .u8 (((xs.map up).getD k 0 : Nat) : Int))
      rw [copied_set .u8 (xs.map up) n k HML.out hlt, getD_map up xs k (by omega)] at hst
      generalize xs.getD k 0 = x at hck hst x1
      have HS : Hid (_) := hst
      clear hst hc hcell hnc hcm
      by_cases u : 97 ≤ x ∧ x ≤ 122
      · have HU : Hid (((up x : Nat) : Int) = (x : Int) - 32) := by show _ = _; unfold up; rw [if_pos u]; omega
        obtain ⟨p1, p2⟩ := u
        go_wp2
        go_roundw
        case rel => exact ⟨k + 1, by omega, by go_num, by rw [← HU.out]; exact HS.out.1, hbel.setCell (Nat.le_refl _) _⟩
        case measure => simp [intOf]; omega
      · have HU : Hid (up x = x) := by show _ = _; unfold up; rw [if_neg u]
        rcases (show x < 97 ∨ (97 ≤ x ∧ 122 < x) by omega) with p | ⟨p, p'⟩
        all_goals
          clear u
          go_wp2
          go_roundw
          case rel => exact ⟨k + 1, by omega, by go_num, by have := HS.out.1; rw [HU.out] at this; exact this, hbel.setCell (Nat.le_refl _) _⟩
          case measure => simp [intOf]; omega
    · obtain rfl : k = n := by omega
      have HR : Hid (∃ a' cap', (Value.slice (some ⟨w.heap.size, 0, none⟩) k k) = .slice a' k cap' ∧ RowAt .u8 wr a' k cap' (xs.map up)) := by
        rw [copied_full .u8 (xs.map up) k HML.out] at hown
        obtain ⟨a', cap', e1, h1, _⟩ := own_row hown
        exact ⟨a', cap', e1, h1⟩
      clear hcell hnc hcm hown
      go_wp2
      go_ret
      obtain ⟨a', cap', e1, h1⟩ := HR.out
      exact ⟨a', cap', by rw [← e1]; rfl, h1, hbel⟩

set_option maxHeartbeats 1000000 in
theorem lower_any (a : Option Addr) (n cap : Nat) (xs : List Nat) (w : World) (hn : n ≤ 4194304) (hx : ∀ x ∈ xs, x < 256) (hr : RowAt .u8 w a n cap xs) :
    Calls Try.prog 13 #[.slice a n cap] w fun e w' => ∃ a' cap', e = .returned (.slice a' n cap') ∧ RowAt .u8 w' a' n cap' (xs.map low) ∧ Below w.heap.size w w' := by
  obtain ⟨hl, hnc, hcm, hnil, hcell⟩ := hr
  obtain ⟨i0, hi, hz0, hz1, hz2⟩ := info_parts Try.info5
  have HX := hid hx
  have HML : Hid ((xs.map low).length = n) := by show (xs.map low).length = n; rw [List.length_map]; exact hl
  clear hnil hx
  go_enter Try.func13, Try.ntmps13
  go_wp2_with (at_make; refine wpList_make_full _ rfl _ _ 22 rfl w.heap.size 5 i0 (.int .u8 0) 1 Try.underlying22 hi hz0 hz1 _ _ _ _ n rfl rfl rfl rfl (by rw [hz2]; omega) (by unfold maxLen; omega) (Nat.le_refl _) ?_)
  intro w1 hown hgrow
  have hb1 : Below w.heap.size w w1 := (Below.refl _ _).grown hgrow (Nat.le_refl _) (fun k h => by simp at h)
  have ho : w1.ownsRow w.heap.size 5 1 (.slice (some ⟨w.heap.size, 0, none⟩) n n) n (copied .u8 (xs.map low) n 0) := by rw [copied_zero]; simpa [Value.cells, toList_madeCells_one] using hown
  clear hown hgrow
  go_wp2
  go_loopw [4] (fun i wr => ∃ k : Nat, k ≤ n ∧ i = .int .i64 k ∧ wr.ownsRow w.heap.size 5 1 (.slice (some ⟨w.heap.size, 0, none⟩) n n) n (copied .u8 (xs.map low) n k) ∧ Below w.heap.size w wr) (fun i _ => n - (intOf i).toNat)
  case atStart => exact ⟨0, Nat.zero_le _, rfl, ho, hb1⟩
  case round =>
    obtain ⟨k, hk, rfl, hown, hbel⟩ := hrel
    clear ho hb1
    by_cases hlt : k < n
    · obtain ⟨b, off, rfl, hc⟩ := hcell (by omega)
      have hb : b < w.heap.size := World.block_lt_of_cell? w _ (hc k hlt)
      have hck : wr.cell? ⟨b, off + k, none⟩ = some (.int .u8 ((xs.getD k 0 : Nat) : Int)) := (hbel.cell (by exact hb)).trans (hc k hlt)
      have x1 := HX.out _ (mem_of_getD (show k < xs.length by omega))
      have hcg : wr.cell? ⟨w.heap.size, k, none⟩ = some (.int .u8 0) := by
        rw [hown.cellAt k (by omega)]
        have hl2 : (ints .u8 ((xs.map low).take k)).length = k := by rw [ints_length, List.length_take, HML.out]; omega
        unfold copied
        rw [List.getElem?_append_right (by omega), hl2, Nat.sub_self, List.getElem?_replicate, if_pos (by omega)]
      have hfg : wr.frozen? ⟨w.heap.size, k, none⟩ = false := hown.frozenAt k
      have hst := hown.stored k (.int .u8 (((xs.map low).getD k 0 : Nat) : Int))
      rw [copied_set .u8 (xs.map low) n k HML.out hlt, getD_map low xs k (by omega)] at hst
      generalize xs.getD k 0 = x at hck hst x1
      have HS : Hid (_) := hst
      clear hst hc hcell hnc hcm
      by_cases u : 65 ≤ x ∧ x ≤ 90
      · have HU : Hid (((low x : Nat) : Int) = (x : Int) + 32) := by show _ = _; unfold low; rw [if_pos u]; omega
        obtain ⟨p1, p2⟩ := u
        go_wp2
        go_roundw
        case rel => exact ⟨k + 1, by omega, by go_num, by rw [← HU.out]; exact HS.out.1, hbel.setCell (Nat.le_refl _) _⟩
        case measure => simp [intOf]; omega
      · have HU : Hid (low x = x) := by show _ = _; unfold low; rw [if_neg u]
        rcases (show x < 65 ∨ (65 ≤ x ∧ 90 < x) by omega) with p | ⟨p, p'⟩
        all_goals
          clear u
          go_wp2
          go_roundw
          case rel => exact ⟨k + 1, by omega, by go_num, by have := HS.out.1; rw [HU.out] at this; exact this, hbel.setCell (Nat.le_refl _) _⟩
          case measure => simp [intOf]; omega
    · obtain rfl : k = n := by omega
      have HR : Hid (∃ a' cap', (Value.slice (some ⟨w.heap.size, 0, none⟩) k k) = .slice a' k cap' ∧ RowAt .u8 wr a' k cap' (xs.map low)) := by
        rw [copied_full .u8 (xs.map low) k HML.out] at hown
        obtain ⟨a', cap', e1, h1, _⟩ := own_row hown
        exact ⟨a', cap', e1, h1⟩
      clear hcell hnc hcm hown
      go_wp2
      go_ret
      obtain ⟨a', cap', e1, h1⟩ := HR.out
      exact ⟨a', cap', by rw [← e1]; rfl, h1, hbel⟩

theorem bytes11_small (a0 : Option Addr) (len0 cap0 : Nat) (a1 : Option Addr) (len1 cap1 : Nat) (w : World) (h : len0 + len1 ≤ 1048576) :
    Calls Try.prog 11 #[.slice a0 len0 cap0, .slice a1 len1 cap1] w fun e w' => e = .returned (.bool true) ∧ w = w' := by
  go_enter Try.func11, Try.ntmps11
  go_wp2
  go_ret
  exact ⟨rfl, rfl⟩

set_option maxHeartbeats 2000000 in
theorem case_big (a0 : Option Addr) (len0 cap0 : Nat) (a1 : Option Addr) (len1 cap1 : Nat) (w : World) (h0 : len0 ≤ maxLen) (h1 : len1 ≤ maxLen) (hbig : 1048576 < len0 + len1) :
    Calls Try.prog 5 #[.slice a0 len0 cap0, .slice a1 len1 cap1] w fun e w' => e = .returned (.bool true) ∧ Below w.heap.size w w' := by
  unfold maxLen at h0 h1
  go_enter Try.func5, Try.ntmps5
  go_wp2
  all_goals (go_ret; exact ⟨rfl, Below.refl _ _⟩)

theorem up_all {xs : List Nat} (h : ∀ x ∈ xs, x < 256) : ∀ x ∈ xs.map up, x < 256 := by
  intro x hx
  obtain ⟨c, hc, rfl⟩ := List.mem_map.1 hx
  exact up_lt c (h c hc)
theorem low_all {xs : List Nat} (h : ∀ x ∈ xs, x < 256) : ∀ x ∈ xs.map low, x < 256 := by
  intro x hx
  obtain ⟨c, hc, rfl⟩ := List.mem_map.1 hx
  exact low_lt c (h c hc)

set_option maxHeartbeats 4000000 in
theorem case_small (a0 : Option Addr) (len0 cap0 : Nat) (xs : List Nat) (a1 : Option Addr) (len1 cap1 : Nat) (ys : List Nat) (w : World) (hs : len0 + len1 ≤ 1048576)
    (hx : ∀ x ∈ xs, x < 256) (hy : ∀ x ∈ ys, x < 256) (hr0 : RowAt .u8 w a0 len0 cap0 xs) (hr1 : RowAt .u8 w a1 len1 cap1 ys) :
    Calls Try.prog 5 #[.slice a0 len0 cap0, .slice a1 len1 cap1] w fun e w' => e = .returned (.bool true) ∧ Below w.heap.size w w' := by
  have HX := hid hx
  have HY := hid hy
  have HUX := hid (up_all hx)
  have HLX := hid (low_all hx)
  have HLY := hid (low_all hy)
  have R0 := hid hr0
  have R1 := hid hr1
  clear hr0 hr1 hx hy
  go_enter Try.func5, Try.ntmps5
  go_wp2_with fail
  refine (bytes11_small a0 len0 cap0 a1 len1 cap1 _ hs).mono ?_
  rintro e w' ⟨rfl, rfl⟩
  go_wp2_with fail
  refine (clone_sl a0 len0 cap0 xs _ (by omega) R0.out).mono ?_
  rintro e w1 ⟨b0, c0, rfl, Q0, d1⟩
  have R1' := hid (RowAt.below R1.out d1)
  have B1 := hid d1
  go_wp2_with fail
  refine (clone_sl a1 len1 cap1 ys _ (by omega) R1'.out).mono ?_
  rintro e w2 ⟨b1, c1, rfl, Q1, d2⟩
  have B2 := hid (B1.out.trans (d2.mono B1.out.size))
  have S0 := hid (RowAt.below Q0 d2)
  have S1 := hid Q1
  clear Q0 Q1 d1 d2 B1 R1'
  go_wp2_with fail
  refine (upper_any b0 len0 c0 xs _ (by omega) HX.out S0.out).mono ?_
  rintro e w3 ⟨bu, cu, rfl, QU, d3⟩
  have T0 := hid (RowAt.below S0.out d3)
  have T1 := hid (RowAt.below S1.out d3)
  have B3 := hid (B2.out.trans (d3.mono B2.out.size))
  have TU := hid QU
  clear d3 S0 S1 B2 QU
  go_wp2_with fail
  refine (lower_any b1 len1 c1 ys _ (by omega) HY.out T1.out).mono ?_
  rintro e w4 ⟨bl, cl, rfl, QL, d4⟩
  have U0 := hid (RowAt.below T0.out d4)
  have U1 := hid (RowAt.below T1.out d4)
  have UU := hid (RowAt.below TU.out d4)
  have UL := hid QL
  have B4 := hid (B3.out.trans (d4.mono B3.out.size))
  clear d4 T0 T1 TU QL B3
  go_wp2_with fail
  refine (lower_any b0 len0 c0 xs _ (by omega) HX.out U0.out).mono ?_
  rintro e w5 ⟨bm, cm, rfl, QM, d5⟩
  have V0 := hid (RowAt.below U0.out d5)
  have V1 := hid (RowAt.below U1.out d5)
  have VU := hid (RowAt.below UU.out d5)
  have VL := hid (RowAt.below UL.out d5)
  have VM := hid QM
  have B5 := hid (B4.out.trans (d5.mono B4.out.size))
  clear d5 U0 U1 UU UL QM B4
  go_wp2_with fail
  obtain ⟨r, HR⟩ : ∃ r, Hid (foldEq xs ys = r) := ⟨_, rfl⟩
  refine (zz_b b0 len0 c0 xs b1 len1 c1 ys r _ (by omega) (by omega) HX.out HY.out V0.out V1.out HR.out).mono ?_
  rintro e w6 ⟨rfl, d6⟩
  have W0 := hid (RowAt.below V0.out d6)
  have WU := hid (RowAt.below VU.out d6)
  have WL := hid (RowAt.below VL.out d6)
  have WM := hid (RowAt.below VM.out d6)
  have B6 := hid (B5.out.trans (d6.mono B5.out.size))
  clear d6 V0 V1 VU VL VM B5
  go_wp2_with fail
  refine (zz_b bu len0 cu (xs.map up) bl len1 cl (ys.map low) r _ (by omega) (by omega) HUX.out HLY.out WU.out WL.out (by rw [foldEq_up_low]; exact HR.out)).mono ?_
  rintro e w7 ⟨rfl, d7⟩
  have X0 := hid (RowAt.below W0.out d7)
  have XU := hid (RowAt.below WU.out d7)
  have XM := hid (RowAt.below WM.out d7)
  have B7 := hid (B6.out.trans (d7.mono B6.out.size))
  clear d7 W0 WU WL WM B6
  have hrr : (r != r) = false := by simp
  go_wp2_with fail
  refine (zz_b b0 len0 c0 xs bu len0 cu (xs.map up) true _ (by omega) (by omega) HX.out HUX.out X0.out XU.out (foldEq_up xs)).mono ?_
  rintro e w8 ⟨rfl, d8⟩
  have YU := hid (RowAt.below XU.out d8)
  have YM := hid (RowAt.below XM.out d8)
  have B8 := hid (B7.out.trans (d8.mono B7.out.size))
  clear d8 X0 XU XM B7
  go_wp2_with fail
  refine (zz_b bm len0 cm (xs.map low) bu len0 cu (xs.map up) true _ (by omega) (by omega) HLX.out HUX.out YM.out YU.out (foldEq_low_up xs)).mono ?_
  rintro e w9 ⟨rfl, d9⟩
  have B9 := hid (B8.out.trans (d9.mono B8.out.size))
  clear d9
  go_wp2
  go_ret
  exact ⟨rfl, B9.out⟩

end Go.Proofs.Qxb6600478a
