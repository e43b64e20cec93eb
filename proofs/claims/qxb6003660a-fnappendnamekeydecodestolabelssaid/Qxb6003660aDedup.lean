import Derived.Test.Qxb6003660aSorted
namespace Go.Proofs.Qxb6003660a
open Go.RowKit

theorem dd_hit (s : List Nat) (k : Nat) (h : k = 0 ∨ s.getD k 0 ≠ s.getD (k - 1) 0) : Plain.ddTo s (k + 1) = Plain.ddTo s k ++ [s.getD k 0] := by simp only [Plain.ddTo]; rw [if_pos h]
theorem dd_miss (s : List Nat) (k : Nat) (h : ¬ (k = 0 ∨ s.getD k 0 ≠ s.getD (k - 1) 0)) : Plain.ddTo s (k + 1) = Plain.ddTo s k := by simp only [Plain.ddTo]; rw [if_neg h]; simp

/-- One more number behind an owned row. -/
theorem own_snoc {k : IntKind} {w : World} {base : Nat} {e : TypeId} {v : Value} {l : List Nat} {x : Nat} (h : w.ownsRow base e 1 v (l.length + 1) (ints k l ++ [.int k (x : Int)])) : w.ownsRow base e 1 v (l ++ [x]).length (ints k (l ++ [x])) := by
  rw [ints_append, List.length_append]; exact h

set_option maxHeartbeats 1000000 in
theorem dedup_any (a : Option Addr) (n cap : Nat) (s : List Nat) (w : World) (hn : n ≤ 67108864) (hr : RowAt .u16 w a n cap s) :
    Calls Try.prog 32 #[.slice a n cap] w fun e w' => ∃ v, e = .returned v ∧ w'.ownsRow w.heap.size 50 1 v (Plain.ddTo s n).length (ints .u16 (Plain.ddTo s n)) ∧ Below w.heap.size w w' := by
  obtain ⟨hl, _, _, _, hcell⟩ := hr
  obtain ⟨i0, hi, hz0, hz1, hz2⟩ := info_parts Try.info50
  go_enter Try.func32, Try.ntmps32
  go_wp2
  go_loopw [3, 4] (fun v i wr => ∃ k : Nat, k ≤ n ∧ i = .int .i64 k ∧ wr.ownsRow w.heap.size 50 1 v (Plain.ddTo s k).length (ints .u16 (Plain.ddTo s k)) ∧ Below w.heap.size w wr) (fun _ i _ => n - (intOf i).toNat)
  case atStart => exact ⟨0, Nat.zero_le _, rfl, World.ownsRow_nil _ _ _ _, Below.refl _ _⟩
  case round =>
    obtain ⟨k, hk, rfl, hown, hbel⟩ := hrel
    by_cases hlt : k < n
    · obtain ⟨b, off, rfl, hc⟩ := hcell (by omega)
      have hb : b < w.heap.size := World.block_lt_of_cell? w _ (hc k hlt)
      have h1 : wr.cell? ⟨b, off + k, none⟩ = _ := (hbel.cell (by exact hb)).trans (hc k hlt)
      have hkn : (k : Int) < (n : Int) := by omega
      have hdl := Plain.ddTo_length s k
      have hsz := hbel.size
      by_cases h0 : k = 0
      · have hg : ((k : Int) == 0) = true := by rw [beq_iff_eq]; omega
        have HD := dd_hit s k (.inl h0)
        generalize s.getD k 0 = x at h1 HD
        generalize Plain.ddTo s k = d at hown HD hdl
        have HH : Hid (_) := HD
        clear HD hc hcell h0
        go_wp2
        go_quiet (fail)
        have hownq : (wr.drewN nq).ownsRow w.heap.size 50 1 u3 d.length (ints .u16 d) := hown
        go_wp2_with (at_builtin; refine wpList_append_own _ rfl _ _ 43 rfl w.heap.size 50 i0 (.int .u16 0) 1 2 Try.underlying43 hi hz0 hz1 hz2 rfl (by decide) _ _ _ rfl (hownq.alloc _) ⟨wr.heap.size, 0, none⟩ 1 1 [.int .u16 x] rfl rfl (cell_one_new _ _ _) (by intro u hu; simp at hu; subst hu; rfl) (by unfold maxLen; omega) (by omega) (by simp; omega) ?_)
        intro v' w1 hown' hgrow _
        have hb2 : Below w.heap.size w w1 := ((below_drewN hbel nq).alloc (by simp; omega) _).grown hgrow (by simp; omega) (fun g hg => (hown.lt g hg).1)
        have R := own_snoc hown'
        clear hown' hgrow hownq hown hbel
        go_wp2
        go_roundw
        case rel => exact ⟨k + 1, by omega, by go_num, by rw [HH.out]; exact R, hb2⟩
        case measure => simp [intOf]; omega
      · have hg : ((k : Int) == 0) = false := by rw [beq_eq_false_iff_ne]; omega
        have h2 : wr.cell? ⟨b, off + (k - 1), none⟩ = _ := (hbel.cell (by exact hb)).trans (hc (k - 1) (by omega))
        have hkn2 : (k : Int) - 1 < (n : Int) := by omega
        have hkn3 : (0 : Int) ≤ (k : Int) - 1 := by omega
        have hkn4 : ((k : Int) - 1).toNat = k - 1 := by omega
        have hkn5 : IntKind.i64.wrap ((k : Int) - 1) = (k : Int) - 1 := by rw [IntKind.wrap_i64]; omega
        by_cases he : s.getD k 0 = s.getD (k - 1) 0
        · have HD := dd_miss s k (by intro h; rcases h with h | h; exact h0 h; exact h he)
          rw [he] at h1
          generalize s.getD (k - 1) 0 = x at h1 h2
          have HH : Hid (_) := HD
          clear HD hc hcell h0 he
          go_wp2
          go_quiet (fail)
          go_wp2
          go_roundw
          case rel => exact ⟨k + 1, by omega, by go_num, by rw [HH.out]; exact hown, below_drewN hbel nq⟩
          case measure => simp [intOf]; omega
        · have HD := dd_hit s k (.inr he)
          have hne : (((s.getD k 0 : Nat) : Int) != ((s.getD (k - 1) 0 : Nat) : Int)) = true := by rw [bne_iff_ne]; omega
          generalize s.getD (k - 1) 0 = y at h2 hne
          generalize s.getD k 0 = x at h1 HD hne
          generalize Plain.ddTo s k = d at hown HD hdl
          have HH : Hid (_) := HD
          clear HD hc hcell h0 he
          go_wp2
          go_quiet (fail)
          have hownq : (wr.drewN nq).ownsRow w.heap.size 50 1 u3 d.length (ints .u16 d) := hown
          go_wp2_with (at_builtin; refine wpList_append_own _ rfl _ _ 43 rfl w.heap.size 50 i0 (.int .u16 0) 1 2 Try.underlying43 hi hz0 hz1 hz2 rfl (by decide) _ _ _ rfl (hownq.alloc _) ⟨wr.heap.size, 0, none⟩ 1 1 [.int .u16 x] rfl rfl (cell_one_new _ _ _) (by intro u hu; simp at hu; subst hu; rfl) (by unfold maxLen; omega) (by omega) (by simp; omega) ?_)
          intro v' w1 hown' hgrow _
          have hb2 : Below w.heap.size w w1 := ((below_drewN hbel nq).alloc (by simp; omega) _).grown hgrow (by simp; omega) (fun g hg => (hown.lt g hg).1)
          have R := own_snoc hown'
          clear hown' hgrow hownq hown hbel
          go_wp2
          go_roundw
          case rel => exact ⟨k + 1, by omega, by go_num, by rw [HH.out]; exact R, hb2⟩
          case measure => simp [intOf]; omega
    · obtain rfl : k = n := by omega
      clear hcell
      go_wp2
      go_ret
      exact ⟨_, rfl, hown, hbel⟩

end Go.Proofs.Qxb6003660a
