import Derived.Test.Qxb6003660aAppend
namespace Go.Proofs.Qxb6003660a
open Go.RowKit Plain

set_option maxHeartbeats 1000000 in
theorem zz_any (B : Nat) (v0 : Value) (xs : List Nat) (a : Option Addr) (n cap : Nat) (L : List Nat) (w : World) (hn : n ≤ 1048576) (hx : xs.length ≤ 67108864) (h16 : ∀ t ∈ L, t < 65536)
    (hB : B ≤ w.heap.size) (hown0 : w.ownsRow B 5 1 v0 xs.length (ints .u8 xs)) (hr : RowX .u16 w a n cap L v0.ownBlock) :
    Calls Try.prog 30 #[v0, .slice a n cap] w fun e w' => ∃ v, e = .returned v ∧ w'.ownsRow B 5 1 v (xs ++ enc L).length (ints .u8 (xs ++ enc L)) ∧ Ap w w' v0 v := by
  obtain ⟨i0, hi, hz0, hz1, hz2⟩ := info_parts Try.info55
  obtain ⟨⟨hl, hnc, hcm, hnil, hcell⟩, hne⟩ := hr
  have q43 : ∀ (w : World) (a : Option Addr) (n c n' c' : Nat), (binOp .neq 43 (.slice a n c) (.slice none n' c')).run Try.prog w = .ok (.bool (!a.isNone)) w := fun w a n c n' c' => run_neq_slice_nil_any w _ _ a n c n' c' Try.underlying43
  have H16 : Hid (_) := h16
  have HO : Hid (_) := hown0
  have HLT : Hid (_) := hown0.lt
  clear h16 hown0
  cases a with
  | none =>
    obtain ⟨rfl, rfl⟩ := hnil rfl
    have : L = [] := List.eq_nil_of_length_eq_zero hl
    subst this
    clear hcell hne hnil
    go_enter Try.func30, Try.ntmps30
    go_wp2_with fail
    refine (append_any B v0 xs none 0 0 [] _ (by omega) hx (by simp) hB HO.out ⟨⟨rfl, Nat.le_refl _, by simp [maxLen], fun _ => ⟨rfl, rfl⟩, fun h => by omega⟩, fun h => by omega⟩).mono ?_
    rintro e w' ⟨v, rfl, ho, hap⟩
    go_wp2
    go_ret
    exact ⟨_, rfl, ho, hap⟩
  | some x =>
    clear hnil
    go_enter Try.func30, Try.ntmps30
    go_wp2_with (at_make; refine wpList_make_full _ rfl _ _ 54 rfl w.heap.size 55 i0 (.int .u16 0) 1 Try.underlying54 hi hz0 hz1 _ _ _ _ n rfl rfl rfl rfl (by rw [hz2]; omega) (by unfold maxLen; omega) (Nat.le_refl _) ?_)
    intro w1 hown hgrow
    have hb1 : Below w.heap.size w w1 := (Below.refl _ _).grown hgrow (Nat.le_refl _) (fun k h => by simp at h)
    have ho : w1.ownsRow w.heap.size 55 1 (.slice (some ⟨w.heap.size, 0, none⟩) n n) n (copied .u16 L n 0) := by rw [copied_zero]; simpa [Value.cells, toList_madeCells_one] using hown
    clear hown hgrow
    go_wp2
    go_loopw [6] (fun i wr => ∃ k : Nat, k ≤ n ∧ i = .int .i64 k ∧ wr.ownsRow w.heap.size 55 1 (.slice (some ⟨w.heap.size, 0, none⟩) n n) n (copied .u16 L n k) ∧ Below w.heap.size w wr) (fun i _ => n - (intOf i).toNat)
    case atStart => exact ⟨0, Nat.zero_le _, rfl, ho, hb1⟩
    case round =>
      obtain ⟨k, hk, rfl, hown, hbel⟩ := hrel
      clear ho hb1
      by_cases hlt : k < n
      · obtain ⟨b, off, hx', hc⟩ := hcell (by omega)
        obtain rfl := Option.some.inj hx'
        have hb : b < w.heap.size := World.block_lt_of_cell? w _ (hc k hlt)
        have hck : wr.cell? ⟨b, off + k, none⟩ = some (.int .u16 ((L.getD k 0 : Nat) : Int)) := (hbel.cell (by exact hb)).trans (hc k hlt)
        have hcg : wr.cell? ⟨w.heap.size, k, none⟩ = some (.int .u16 0) := by
          rw [hown.cellAt k (by omega)]
          have hl2 : (ints .u16 (L.take k)).length = k := by rw [ints_length, List.length_take]; omega
          unfold copied
          rw [List.getElem?_append_right (by omega), hl2, Nat.sub_self, List.getElem?_replicate, if_pos (by omega)]
        have hfg : wr.frozen? ⟨w.heap.size, k, none⟩ = false := hown.frozenAt k
        have hst := hown.stored k (.int .u16 ((L.getD k 0 : Nat) : Int))
        rw [copied_set .u16 L n k hl hlt] at hst
        generalize L.getD k 0 = z at hck hst
        have HS : Hid (_) := hst
        clear hst hc hcell hx' hnc hcm hne
        go_wp2
        go_roundw
        case rel => exact ⟨k + 1, by omega, by go_num, HS.out.1, hbel.setCell (Nat.le_refl _) _⟩
        case measure => simp [intOf]; omega
      · obtain rfl : k = n := by omega
        rw [copied_full .u16 L k hl] at hown
        have hrow := own_row hown
        have hsz := hbel.size
        have HR : Hid (RowX .u16 wr (some ⟨w.heap.size, 0, none⟩) k k L v0.ownBlock) := by
          obtain ⟨a', cap', e1, h1, h2⟩ := hrow
          simp only [Value.slice.injEq, true_and] at e1
          obtain ⟨rfl, rfl⟩ := e1
          refine ⟨h1, fun _ b off e h => ?_⟩
          have h3 := (h2 b off e).1
          have h4 := (HLT.out b h).2
          omega
        clear hcell hnc hcm hne hrow
        go_wp2_with fail
        refine (append_any B v0 xs (some ⟨w.heap.size, 0, none⟩) k k L _ hn hx H16.out (by omega) (own_later HO.out hbel) HR.out).mono ?_
        rintro e w' ⟨v, rfl, ho', hap⟩
        go_wp2
        go_ret
        exact ⟨_, rfl, ho', ((Ap.refl w v0).below hbel).trans hap⟩

end Go.Proofs.Qxb6003660a
