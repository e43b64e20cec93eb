import Derived.Test.Qxb6003660aPrefix
namespace Go.Proofs.Qxb6003660a
open Go.RowKit

theorem eq_of_pre {s p : List Nat} (hl : s.length = p.length) (h : pre s p = true) : s = p := by
  have h' := of_decide_eq_true h
  apply List.ext_getElem? 
  intro i
  by_cases hi : i < p.length
  · have := h'.2 i hi
    rw [List.getD_eq_getElem?_getD, List.getD_eq_getElem?_getD, List.getElem?_eq_getElem (by omega), List.getElem?_eq_getElem hi] at this
    rw [List.getElem?_eq_getElem (by omega), List.getElem?_eq_getElem hi]
    simpa using this
  · rw [List.getElem?_eq_none (by omega), List.getElem?_eq_none (by omega)]

theorem pre_self (s : List Nat) : pre s s = true := pre_all (Nat.le_refl _) fun _ _ => rfl

/-- Are the two texts one? -/
def eqB (s p : List Nat) : Bool := decide (s = p)

set_option maxHeartbeats 400000 in
theorem equal_any (a : Option Addr) (n cap : Nat) (s : List Nat) (a' : Option Addr) (n' cap' : Nat) (p : List Nat) (w : World) (hn : n ≤ 67108864) (hn' : n' ≤ 67108864) (hr : RowAt .u8 w a n cap s) (hr' : RowAt .u8 w a' n' cap' p) :
    Calls Try.prog 19 #[.slice a n cap, .slice a' n' cap'] w fun e w' => e = .returned (.bool (eqB s p)) ∧ ∃ m, w' = w.drewN m := by
  have hl := hr.1
  have hl' := hr'.1
  by_cases h : n = n'
  · have hb : ((n : Int) == (n' : Int)) = true := by rw [beq_iff_eq]; omega
    have HP : Hid (eqB s p = pre s p) := by
      show eqB s p = pre s p
      unfold eqB
      by_cases e : s = p
      · rw [e, pre_self]; simp
      · rw [decide_eq_false e]
        symm
        cases hq : pre s p
        · rfl
        · exact absurd (eq_of_pre (by omega) hq) e
    have H1 : Hid (RowAt .u8 w a n cap s) := hr
    have H2 : Hid (RowAt .u8 w a' n' cap' p) := hr'
    clear hr hr' hl hl' h
    go_enter Try.func19, Try.ntmps19
    go_wp2_with fail
    refine (prefix_any a n cap s a' n' cap' p _ hn hn' H1.out H2.out).mono ?_
    rintro e w' ⟨rfl, hm⟩
    go_wp2
    go_ret
    exact ⟨by rw [HP.out]; rfl, hm⟩
  · have hb : ((n : Int) == (n' : Int)) = false := by rw [beq_eq_false_iff_ne]; omega
    have HP : Hid (eqB s p = false) := by
      show eqB s p = false
      exact decide_eq_false (fun e => by rw [e] at hl; omega)
    clear hr hr' hl hl' h
    go_enter Try.func19, Try.ntmps19
    go_wp2
    go_ret
    exact ⟨by rw [HP.out]; rfl, 0, rfl⟩

set_option maxHeartbeats 1000000 in
theorem concat_any (a : Option Addr) (n cap : Nat) (xs : List Nat) (a' : Option Addr) (n' cap' : Nat) (ys : List Nat) (w : World) (hn : n ≤ 67108864) (hn' : n' ≤ 67108864) (hr : RowAt .u8 w a n cap xs) (hr' : RowAt .u8 w a' n' cap' ys) :
    Calls Try.prog 21 #[.slice a n cap, .slice a' n' cap'] w fun e w' => e = .returned (.slice (some ⟨w.heap.size, 0, none⟩) (n + n') (n + n')) ∧ w'.ownsRow w.heap.size 5 1 (.slice (some ⟨w.heap.size, 0, none⟩) (n + n') (n + n')) (n + n') (ints .u8 (xs ++ ys)) ∧ Below w.heap.size w w' := by
  obtain ⟨hl, _, _, _, hcell⟩ := hr
  obtain ⟨hl', _, _, _, hcell'⟩ := hr'
  obtain ⟨i0, hi, hz0, hz1, hz2⟩ := info_parts Try.info5
  have HLZ : Hid ((xs ++ ys).length = n + n') := by show (xs ++ ys).length = n + n'; rw [List.length_append]; omega
  obtain ⟨N, HN⟩ : ∃ N, Hid (n + n' = N) := ⟨_, rfl⟩
  rw [HN.out]
  rw [HN.out] at HLZ
  have hN : n ≤ N ∧ n' ≤ N ∧ N ≤ 134217728 := by have := HN.out; omega
  go_enter Try.func21, Try.ntmps21
  go_wp2_with (at_make; refine wpList_make_full _ rfl _ _ 22 rfl w.heap.size 5 i0 (.int .u8 0) 1 Try.underlying22 hi hz0 hz1 _ _ _ _ N rfl rfl (by have := HN.out; omega) (by have := HN.out; omega) (by rw [hz2]; omega) (by unfold maxLen; omega) (Nat.le_refl _) ?_)
  intro w1 hown hgrow
  have hb1 : Below w.heap.size w w1 := (Below.refl _ _).grown hgrow (Nat.le_refl _) (fun k h => by simp at h)
  have ho : w1.ownsRow w.heap.size 5 1 (.slice (some ⟨w.heap.size, 0, none⟩) N N) N (copied .u8 (xs ++ ys) N 0) := by rw [copied_zero]; simpa [Value.cells, toList_madeCells_one] using hown
  clear hown hgrow
  go_wp2
  go_loopw [6] (fun i wr => ∃ k : Nat, k ≤ n ∧ i = .int .i64 k ∧ wr.ownsRow w.heap.size 5 1 (.slice (some ⟨w.heap.size, 0, none⟩) N N) N (copied .u8 (xs ++ ys) N k) ∧ Below w.heap.size w wr) (fun i _ => n - (intOf i).toNat)
  case atStart => exact ⟨0, Nat.zero_le _, rfl, ho, hb1⟩
  case round =>
    obtain ⟨k, hk, rfl, hown, hbel⟩ := hrel
    clear ho hb1
    by_cases hlt : k < n
    · obtain ⟨b, off, rfl, hc⟩ := hcell (by omega)
      have hb : b < w.heap.size := World.block_lt_of_cell? w _ (hc k hlt)
      have hck : wr.cell? ⟨b, off + k, none⟩ = some (.int .u8 (((xs ++ ys).getD k 0 : Nat) : Int)) := by
        rw [hbel.cell (by exact hb), hc k hlt, List.getD_eq_getElem?_getD, List.getD_eq_getElem?_getD, List.getElem?_append_left (by omega)]
      have hcg : wr.cell? ⟨w.heap.size, k, none⟩ = some (.int .u8 0) := by
        rw [hown.cellAt k (by omega)]
        have hl2 : (ints .u8 ((xs ++ ys).take k)).length = k := by rw [ints_length, List.length_take, HLZ.out]; omega
        unfold copied
        rw [List.getElem?_append_right (by omega), hl2, Nat.sub_self, List.getElem?_replicate, if_pos (by omega)]
      have hfg : wr.frozen? ⟨w.heap.size, k, none⟩ = false := hown.frozenAt k
      have hst := hown.stored k (.int .u8 (((xs ++ ys).getD k 0 : Nat) : Int))
      rw [copied_set .u8 (xs ++ ys) N k HLZ.out (by omega)] at hst
      generalize (xs ++ ys).getD k 0 = z at hck hst
      have hkN : (k : Int) < (N : Int) := by omega
      have HS : Hid (_) := hst
      clear hst hc hcell hcell'
      go_wp2
      go_roundw
      case rel => exact ⟨k + 1, by omega, by go_num, HS.out.1, hbel.setCell (Nat.le_refl _) _⟩
      case measure => simp [intOf]; omega
    · have HK : Hid (k = n) := by show k = n; omega
      have hnk : ¬ (k : Int) < (n : Int) := by omega
      go_wp2
      obtain ⟨wo, rfl⟩ : ∃ wo : World, wo = wr := ⟨_, rfl⟩
      go_loopw [7] (fun i wr => ∃ j : Nat, j ≤ n' ∧ i = .int .i64 j ∧ wr.ownsRow w.heap.size 5 1 (.slice (some ⟨w.heap.size, 0, none⟩) N N) N (copied .u8 (xs ++ ys) N (n + j)) ∧ Below w.heap.size w wr) (fun i _ => n' - (intOf i).toNat)
      case atStart => exact ⟨0, Nat.zero_le _, rfl, by rw [HK.out] at hown; exact hown, hbel⟩
      case round =>
        clear hown hbel
        obtain ⟨j, hj, rfl, hown, hbel⟩ := hrel
        by_cases hlt' : j < n'
        · obtain ⟨b, off, rfl, hc⟩ := hcell' (by omega)
          have hb : b < w.heap.size := World.block_lt_of_cell? w _ (hc j hlt')
          have hck : wr.cell? ⟨b, off + j, none⟩ = some (.int .u8 (((xs ++ ys).getD (n + j) 0 : Nat) : Int)) := by
            rw [hbel.cell (by exact hb), hc j hlt', List.getD_eq_getElem?_getD, List.getD_eq_getElem?_getD, List.getElem?_append_right (by omega), hl, Nat.add_sub_cancel_left]
          have hcg : wr.cell? ⟨w.heap.size, n + j, none⟩ = some (.int .u8 0) := by
            have := HN.out
            rw [hown.cellAt (n + j) (by omega)]
            have hl2 : (ints .u8 ((xs ++ ys).take (n + j))).length = n + j := by rw [ints_length, List.length_take, HLZ.out]; omega
            unfold copied
            rw [List.getElem?_append_right (by omega), hl2, Nat.sub_self, List.getElem?_replicate, if_pos (by omega)]
          have hfg : wr.frozen? ⟨w.heap.size, n + j, none⟩ = false := hown.frozenAt (n + j)
          have hst := hown.stored (n + j) (.int .u8 (((xs ++ ys).getD (n + j) 0 : Nat) : Int))
          rw [copied_set .u8 (xs ++ ys) N (n + j) HLZ.out (by have := HN.out; omega)] at hst
          generalize (xs ++ ys).getD (n + j) 0 = z at hck hst
          have k1 : (n : Int) + (j : Int) < (N : Int) := by have := HN.out; omega
          have k2 : (0 : Int) ≤ (n : Int) + (j : Int) := by omega
          have k3 : ((n : Int) + (j : Int)).toNat = n + j := by omega
          have HS : Hid (_) := hst
          clear hst hc hcell hcell'
          go_wp2
          go_roundw
          case rel => exact ⟨j + 1, by omega, by go_num, HS.out.1, hbel.setCell (Nat.le_refl _) _⟩
          case measure => simp [intOf]; omega
        · have HO : Hid (wr.ownsRow w.heap.size 5 1 (.slice (some ⟨w.heap.size, 0, none⟩) N N) N (ints .u8 (xs ++ ys))) := by
            show World.ownsRow _ _ _ _ _ _ _
            rw [← copied_full .u8 (xs ++ ys) N HLZ.out]
            have e : n + j = N := by have := HN.out; omega
            rw [e] at hown
            exact hown
          clear hcell hcell' hown
          go_wp2
          go_ret
          exact ⟨rfl, HO.out, hbel⟩

end Go.Proofs.Qxb6003660a
