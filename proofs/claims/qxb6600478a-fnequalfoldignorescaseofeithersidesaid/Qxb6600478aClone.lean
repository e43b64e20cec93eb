import Derived.Test.Qxb6600478aBase
namespace Go.Proofs.Qxb6600478a
open Go.RowKit

set_option maxHeartbeats 400000 in
theorem clone_any (a : Option Addr) (n cap : Nat) (zs : List Nat) (w : World) (hn : n ≤ 4194304) (hr : RowAt .u8 w a n cap zs) :
    Calls Try.prog 7 #[.slice a n cap] w fun e w' => ∃ v, e = .returned v ∧ w'.ownsRow w.heap.size 5 1 v n (ints .u8 zs) ∧ Below w.heap.size w w' := by
  obtain ⟨hl, hnc, hcm, hnil, hcell⟩ := hr
  obtain ⟨i0, hi, hz0, hz1, hz2⟩ := info_parts Try.info5
  have q22 : ∀ (w : World) (a : Option Addr) (n c n' c' : Nat), (binOp .eql 22 (.slice a n c) (.slice none n' c')).run Try.prog w = .ok (.bool a.isNone) w := fun w a n c n' c' => Lib.run_eql_slice_nil w _ _ a n c n' c' Try.underlying22
  cases a with
  | none =>
    obtain ⟨rfl, rfl⟩ := hnil rfl
    have : zs = [] := List.eq_nil_of_length_eq_zero hl
    subst this
    go_enter Try.func7, Try.ntmps7
    go_wp2
    go_ret
    exact ⟨_, rfl, World.ownsRow_nil _ _ _ _, Below.refl _ _⟩
  | some x =>
    clear hnil
    go_enter Try.func7, Try.ntmps7
    go_wp2_with (at_make; refine wpList_make_full _ rfl _ _ 22 rfl w.heap.size 5 i0 (.int .u8 0) 1 Try.underlying22 hi hz0 hz1 _ _ _ _ n rfl rfl rfl rfl (by rw [hz2]; omega) (by unfold maxLen; omega) (Nat.le_refl _) ?_)
    intro w1 hown hgrow
    have hb1 : Below w.heap.size w w1 := (Below.refl _ _).grown hgrow (Nat.le_refl _) (fun k h => by simp at h)
    have hs1 : w.heap.size < w1.heap.size := (hown.lt _ rfl).2
    have ho : w1.ownsRow w.heap.size 5 1 (.slice (some ⟨w.heap.size, 0, none⟩) n n) n (copied .u8 zs n 0) := by rw [copied_zero]; simpa [Value.cells, toList_madeCells_one] using hown
    clear hown hgrow
    go_wp2
    go_loopw [4] (fun i wr => ∃ k : Nat, k ≤ n ∧ i = .int .i64 k ∧ wr.ownsRow w.heap.size 5 1 (.slice (some ⟨w.heap.size, 0, none⟩) n n) n (copied .u8 zs n k) ∧ Below w.heap.size w wr) (fun i _ => n - (intOf i).toNat)
    case atStart => exact ⟨0, Nat.zero_le _, rfl, ho, hb1⟩
    case round =>
      obtain ⟨k, hk, rfl, hown, hbel⟩ := hrel
      clear ho hb1 hs1
      by_cases hlt : k < n
      · obtain ⟨b, off, hx, hc⟩ := hcell (by omega)
        obtain rfl := Option.some.inj hx
        have hb : b < w.heap.size := World.block_lt_of_cell? w _ (hc k hlt)
        have hck : wr.cell? ⟨b, off + k, none⟩ = some (.int .u8 ((zs.getD k 0 : Nat) : Int)) := (hbel.cell (by exact hb)).trans (hc k hlt)
        have hcg : wr.cell? ⟨w.heap.size, k, none⟩ = some (.int .u8 0) := by
          rw [hown.cellAt k (by omega)]
          have hl2 : (ints .u8 (zs.take k)).length = k := by rw [ints_length, List.length_take]; omega
          unfold copied
          rw [List.getElem?_append_right (by omega), hl2, Nat.sub_self, List.getElem?_replicate, if_pos (by omega)]
        have hfg : wr.frozen? ⟨w.heap.size, k, none⟩ = false := hown.frozenAt k
        have hst := hown.stored k (.int .u8 ((zs.getD k 0 : Nat) : Int))
        rw [copied_set .u8 zs n k hl hlt] at hst
        generalize zs.getD k 0 = z at hck hst
        have HS : Hid (_) := hst
        clear hst hc hcell hx hnc hcm
        go_wp2
        go_roundw
        case rel => exact ⟨k + 1, by omega, by go_num, HS.out.1, hbel.setCell (Nat.le_refl _) _⟩
        case measure => simp [intOf]; omega
      · obtain rfl : k = n := by omega
        clear hcell hnc hcm
        go_wp2
        go_ret
        exact ⟨_, rfl, by rw [← copied_full .u8 zs k hl]; exact hown, hbel⟩

end Go.Proofs.Qxb6600478a
