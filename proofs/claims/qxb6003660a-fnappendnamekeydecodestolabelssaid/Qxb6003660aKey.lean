import Derived.Test.Qxb6003660aStarts
namespace Go.Proofs.Qxb6003660a
open Go.RowKit Plain

theorem pref_drop_len (ls : List (List Nat)) (k : Nat) : (pref (ls.drop k)).length ≤ (pref ls).length := by
  have e : pref ls = pref (ls.take k ++ ls.drop k) := by rw [List.take_append_drop]
  rw [e, pref_append, List.length_append]; omega

theorem tailKey_len {s : ByteArray} {ls : List (List Nat)} (h : Wire s ls) (k : Nat) : (tailKey ls k).length ≤ 508 := by
  unfold tailKey
  have h1 := body_len (ls.drop k).reverse
  rw [pref_reverse_len] at h1
  have h2 := pref_drop_len ls k
  have h3 := h.size
  have h4 : s.size = (pref ls).length + 1 := by rw [← bys_length, h.eq, List.length_append]; rfl
  omega

/-- Two rows of two element types do not lie in one block. -/
theorem own_ne {w : World} {base : Nat} {v : Value} {n : Nat} {xs : List Value} {e e' : TypeId} {size g : Nat} {cur : Array Value} {fr : Nat × Nat} (h : w.ownsRow base e size v n xs) (hb : w.heap[g]? = some (.cells cur e' fr)) (hne : e ≠ e') : v.ownBlock ≠ some g := by
  intro he
  rcases h.2 with ⟨rfl, _⟩ | ⟨g', cap, c, rfl, _, hg, _⟩
  · simp [Value.ownBlock] at he
  · simp only [Value.ownBlock, Option.some.injEq] at he
    rw [he, hb] at hg
    simp only [Option.some.injEq, Obj.cells.injEq] at hg
    exact hne hg.2.1.symm

/-- What an append leaves of another block. -/
theorem grown_block {w w' : World} {o : Obj} {v : Value} {g : Nat} {ob : Obj} (hg : (w.alloc o).grownBy w' v.ownBlock) (hb : w.heap[g]? = some ob) (hne : v.ownBlock ≠ some g) : w'.heap[g]? = some ob := by
  have hlt : g < w.heap.size := (Array.getElem?_eq_some_iff.1 hb).1
  rw [hg.block g (by simp; omega) (fun e => hne e.symm), Below.heap_alloc _ _ _ hlt]; exact hb

theorem lower39_any' (c : Nat) (w : World) (hc : c < 256) : Calls Try.prog 39 #[.int .u8 (c : Int)] w fun e w' => e = .returned (.int .u8 ((low c : Nat) : Int)) ∧ w = w' :=
  (lower39_any c w hc).mono fun _ _ h => ⟨h.1, h.2.symm⟩

theorem ints_two (k : IntKind) (a b : Nat) : ints k [a, b] = [.int k (a : Int), .int k (b : Int)] := rfl

theorem own_more {k : IntKind} {w : World} {base : Nat} {e : TypeId} {v : Value} {l news l' : List Nat} {n : Nat} (h : w.ownsRow base e 1 v (l.length + n) (ints k l ++ ints k news)) (hn : news.length = n) (hl : l ++ news = l') : w.ownsRow base e 1 v l'.length (ints k l') := by
  rw [← ints_append, hl] at h
  have e2 : l'.length = l.length + n := by rw [← hl, List.length_append, hn]
  rw [e2]; exact h

/-- The cells of 'var starts [127]uint8'. -/
def z57 : Array Value := Array.replicate 127 (.int .u8 0)
theorem z57_size : z57.size = 127 := by simp [z57]
theorem zero57 (w : World) : (zeroValue 57).run Try.prog w = .ok (.agg z57) w := by kernel_rfl

set_option maxRecDepth 100000 in
set_option maxHeartbeats 2000000 in
theorem namekey_any (B : Nat) (v0 : Value) (xs : List Nat) (s : ByteArray) (ls : List (List Nat)) (w : World) (hx : xs.length ≤ 4194304) (hB : B ≤ w.heap.size) (hown0 : w.ownsRow B 5 1 v0 xs.length (ints .u8 xs)) (hW : Wire s ls) :
    Calls Try.prog 34 #[v0, .string s] w fun e w' => ∃ v, e = .returned v ∧ w'.ownsRow B 5 1 v (xs ++ key ls).length (ints .u8 (xs ++ key ls)) ∧ Below B w w' := by
  obtain ⟨i0, hi, hz0, hz1, hz2⟩ := info_parts Try.info5
  have H := hid' hW
  have HO := hid' hown0
  have hcnt := hW.count
  have hsz := hW.size
  clear hW hown0
  have hz57 := zero57
  go_enter Try.func34, Try.ntmps34
  go_wp2_with fail
  refine (starts_any s ls w.heap.size z57 _ H.out (heap_alloc_new _ _) z57_size).mono ?_
  rintro e w1 ⟨rfl, cur, hblk, hcs, hst, hgr, hhs⟩
  have hb1 : Below w.heap.size w w1 := (Below.refl _ _).trans ⟨hgr.os, hgr.tape, hgr.output, by rw [hhs]; simp, fun k hk => by rw [hgr.block k (by simp; omega) (by simp; omega), Below.heap_alloc _ _ _ hk]⟩
  have ho1 := own_later HO.out hb1
  have hlt1 : w.heap.size < w1.heap.size := (Array.getElem?_eq_some_iff.1 hblk).1
  have HB1 := hid' (hb1.mono hB)
  have HO1 := hid' ho1
  have HST := hid' hst
  have HBK := hid' hblk
  clear hgr hhs hb1 ho1 hst hblk
  go_wp2
  go_loopw [0, 6] (fun v i wr => ∃ k : Nat, k ≤ ls.length ∧ i = .int .i64 ((k : Int) - 1) ∧ wr.ownsRow B 5 1 v (xs ++ tailKey ls k).length (ints .u8 (xs ++ tailKey ls k)) ∧ wr.heap[w.heap.size]? = some (.cells cur 57 (0, 0)) ∧ Below B w wr ∧ w.heap.size < wr.heap.size) (fun _ i _ => (intOf i + 1).toNat)
  case atStart => exact ⟨ls.length, Nat.le_refl _, by go_num, by rw [tailKey_end, List.append_nil]; exact HO1.out, HBK.out, HB1.out, hlt1⟩
  case round =>
    obtain ⟨k, hk, rfl, hown, hblk, hbel, hlt⟩ := hrel
    clear HO1 HB1 HBK hlt1
    have hlen := tailKey_len H.out k
    by_cases hk0 : k = 0
    · subst hk0
      have hbne := own_ne hown hblk (by decide)
      obtain ⟨d, HD⟩ : ∃ d, Hid (xs ++ tailKey ls 0 = d) := ⟨_, rfl⟩
      rw [HD.out] at hown
      have hel : d.length ≤ 4200200 := by rw [← HD.out, List.length_append]; omega
      have HF : Hid (d ++ [0, 0] = xs ++ key ls) := by
        show d ++ [0, 0] = _
        rw [← HD.out, ← tailKey_zero, List.append_assoc]
      rw [show (((0 : Nat) : Int) - 1) = -1 by omega]
      have hBs := hbel.size
      go_wp2_with (at_builtin; refine wpList_append_own _ rfl (.tmp 49) (.tmp 50) 22 rfl B 5 i0 (.int .u8 0) 1 1 Try.underlying22 hi hz0 hz1 hz2 rfl (by decide) _ _ _ rfl (hown.alloc _) ⟨wr.heap.size, 0, none⟩ 2 2 [.int .u8 0, .int .u8 0] rfl rfl (cell_two_new _ _ _ _) (by intro u hu; simp at hu; subst hu; rfl) (by unfold maxLen; omega) (by omega) (by simp; omega) ?_)
      intro v' w1 hown' hgrow _
      have hb2 : Below B w w1 := (hbel.alloc (by omega) _).grown hgrow (by simp; omega) (fun g hg => (hown.lt g hg).1)
      have R := hid' (own_more (news := [0, 0]) hown' rfl HF.out)
      clear hown' hgrow hown hbel hblk hbne
      go_wp2
      go_ret
      exact ⟨_, rfl, R.out, hb2⟩
    · obtain ⟨m, rfl⟩ : ∃ m, k = m + 1 := ⟨k - 1, by omega⟩
      rw [show (((m + 1 : Nat) : Int) - 1) = (m : Int) by omega]
      have hml : m < ls.length := by omega
      have hcm : wr.cell? ⟨w.heap.size, m, none⟩ = some (.int .u8 ((st ls m : Nat) : Int)) := by
        rw [cell_of_row _ _ _ _ _ _ hblk]; exact HST.out m hml
      have hxs := H.out.lt m (by omega)
      have hat := H.out.at_len m hml
      have hok := H.out.getOk m hml
      have HIN := hid' (H.out.in_lt m hml)
      have HAT := hid' (H.out.at_in m hml)
      have HOCT := hid' (H.out.oct m hml)
      have HTK := hid' (tailKey_step ls m hml)
      obtain ⟨L, HL⟩ : ∃ L, Hid (ls.getD m [] = L) := ⟨_, rfl⟩
      simp only [HL.out] at hat hok HIN HAT HOCT HTK
      obtain ⟨x, HX⟩ : ∃ x, Hid (st ls m = x) := ⟨_, rfl⟩
      simp only [HX.out] at hcm hxs hat HIN HAT
      obtain ⟨n, HN⟩ : ∃ n, Hid (L.length = n) := ⟨_, rfl⟩
      rw [HN.out] at hat hok
      have hxn : x + n < s.size := by
        have h1 := HIN.out (n - 1) (by rw [HN.out]; omega)
        omega
      obtain ⟨acc, HA⟩ : ∃ acc, Hid (xs ++ tailKey ls (m + 1) = acc) := ⟨_, rfl⟩
      have hal : acc.length ≤ 4200000 := by rw [← HA.out, List.length_append]; omega
      rw [HA.out] at hown
      clear hlen
      go_wp2
      clear hcm
      obtain ⟨wo, rfl⟩ : ∃ wo : World, wo = wr := ⟨_, rfl⟩
      go_loopw [0, 8] (fun v j wr => ∃ t : Nat, t ≤ n ∧ j = .int .i64 ((x + 1 + t : Nat) : Int) ∧ wr.ownsRow B 5 1 v (acc ++ escs (L.take t)).length (ints .u8 (acc ++ escs (L.take t))) ∧ wr.heap[w.heap.size]? = some (.cells cur 57 (0, 0)) ∧ Below B w wr ∧ w.heap.size < wr.heap.size) (fun _ j _ => x + 1 + n - (intOf j).toNat)
      case atStart => exact ⟨0, Nat.zero_le _, by go_num, by rw [List.take_zero, escs_nil, List.append_nil]; exact hown, hblk, hbel, hlt⟩
      case round =>
        clear hown hblk hbel hlt
        obtain ⟨t, ht, rfl, hown, hblk, hbel, hlt⟩ := hrel
        obtain ⟨y, HY⟩ : ∃ y, Hid (x + 1 + t = y) := ⟨_, rfl⟩
        rw [HY.out]
        have hxy : x < y := by have := HY.out; omega
        have hel : (acc ++ escs (L.take t)).length ≤ 4200200 := by
          have h1 := escs_len (L.take t)
          rw [List.length_take] at h1
          rw [List.length_append]; omega
        have hbne := own_ne hown hblk (by decide)
        by_cases htn : t < n
        · have hyl : y ≤ x + n := by have := HY.out; omega
          have hys : y < s.size := by omega
          have hxc : (s[y]'hys).toNat = L.getD t 0 := by
            have := HAT.out t (by rw [HN.out]; exact htn)
            simp only [HY.out] at this
            exact this
          have hc256 : L.getD t 0 < 256 := HOCT.out t (by rw [HN.out]; exact htn)
          have HE := hid' (escs_take L t (by rw [HN.out]; exact htn))
          obtain ⟨c, HC⟩ : ∃ c, Hid (L.getD t 0 = c) := ⟨_, rfl⟩
          rw [HC.out] at hxc hc256
          rw [HC.out] at HE
          obtain ⟨d, HD⟩ : ∃ d, Hid (acc ++ escs (L.take t) = d) := ⟨_, rfl⟩
          rw [HD.out] at hown hel
          have hBs := hbel.size
          by_cases h0 : c = 0
          · have g0 : ((c : Int) == 0) = true := by rw [beq_iff_eq]; omega
            have HF : Hid (d ++ [0, 255] = acc ++ escs (L.take (t + 1))) := by
              show d ++ [0, 255] = _
              rw [HE.out, ← List.append_assoc, HD.out, h0]; rfl
            clear h0
            go_wp2_with (at_builtin; refine wpList_append_own _ rfl (.tmp 36) (.tmp 37) 22 rfl B 5 i0 (.int .u8 0) 1 1 Try.underlying22 hi hz0 hz1 hz2 rfl (by decide) _ _ _ rfl (hown.alloc _) ⟨wr.heap.size, 0, none⟩ 2 2 [.int .u8 0, .int .u8 255] rfl rfl (cell_two_new _ _ _ _) (by intro u hu; simp at hu; rcases hu with rfl | rfl <;> rfl) (by unfold maxLen; omega) (by omega) (by simp; omega) ?_)
            intro v' w1 hown' hgrow _
            have hb2 : Below B w w1 := (hbel.alloc (by omega) _).grown hgrow (by simp; omega) (fun g hg => (hown.lt g hg).1)
            have R := hid' (own_more (news := [0, 255]) hown' rfl HF.out)
            have hblk2 := hid' (grown_block hgrow hblk hbne)
            have hlt2 : w.heap.size < w1.heap.size := by have := hgrow.size; simp at this; omega
            clear hown' hgrow hown hbel hblk hbne
            go_wp2
            go_roundw
            case rel => exact ⟨t + 1, by omega, by have := HY.out; go_num, R.out, hblk2.out, hb2, hlt2⟩
            case measure => have := HY.out; simp [intOf]; omega
          · have g0 : ((c : Int) == 0) = false := by rw [beq_eq_false_iff_ne]; omega
            have HF : Hid (d ++ [low c] = acc ++ escs (L.take (t + 1))) := by
              show d ++ [low c] = _
              rw [HE.out, ← List.append_assoc, HD.out]; unfold esc; rw [if_neg h0]
            clear h0
            go_wp2_with (first | (go_at_call 39; refine (lower39_any' c _ hc256).mono ?_; rintro e w' ⟨rfl, rfl⟩) | (at_builtin; refine wpList_append_own _ rfl (.tmp 39) (.tmp 44) 22 rfl B 5 i0 (.int .u8 0) 1 1 Try.underlying22 hi hz0 hz1 hz2 rfl (by decide) _ _ _ rfl (hown.alloc _) ⟨wr.heap.size, 0, none⟩ 1 1 [.int .u8 ((low c : Nat) : Int)] rfl rfl (cell_one_new _ _ _) (by intro u hu; simp at hu; subst hu; rfl) (by unfold maxLen; omega) (by omega) (by simp; omega) ?_))
            intro v' w1 hown' hgrow _
            have hb2 : Below B w w1 := (hbel.alloc (by omega) _).grown hgrow (by simp; omega) (fun g hg => (hown.lt g hg).1)
            have R := hid' (own_more (news := [low c]) hown' rfl HF.out)
            have hblk2 := hid' (grown_block hgrow hblk hbne)
            have hlt2 : w.heap.size < w1.heap.size := by have := hgrow.size; simp at this; omega
            clear hown' hgrow hown hbel hblk hbne
            go_wp2
            go_roundw
            case rel => exact ⟨t + 1, by omega, by have := HY.out; go_num, R.out, hblk2.out, hb2, hlt2⟩
            case measure => have := HY.out; simp [intOf]; omega
        · have hyl : ¬ y ≤ x + n := by have := HY.out; omega
          have HT := hid' (show L.take t = L from List.take_of_length_le (by rw [HN.out]; omega))
          rw [HT.out] at hown hel
          obtain ⟨d, HD⟩ : ∃ d, Hid (acc ++ escs L = d) := ⟨_, rfl⟩
          rw [HD.out] at hown hel
          have HF : Hid (d ++ [0, 1] = xs ++ tailKey ls m) := by
            show d ++ [0, 1] = _
            rw [HTK.out, ← HD.out, ← HA.out]
            simp only [List.append_assoc]
          have hBs := hbel.size
          go_wp2_with (at_builtin; refine wpList_append_own _ rfl (.tmp 46) (.tmp 47) 22 rfl B 5 i0 (.int .u8 0) 1 1 Try.underlying22 hi hz0 hz1 hz2 rfl (by decide) _ _ _ rfl (hown.alloc _) ⟨wr.heap.size, 0, none⟩ 2 2 [.int .u8 0, .int .u8 1] rfl rfl (cell_two_new _ _ _ _) (by intro u hu; simp at hu; rcases hu with rfl | rfl <;> rfl) (by unfold maxLen; omega) (by omega) (by simp; omega) ?_)
          intro v' w1 hown' hgrow _
          have hb2 : Below B w w1 := (hbel.alloc (by omega) _).grown hgrow (by simp; omega) (fun g hg => (hown.lt g hg).1)
          have R := hid' (own_more (news := [0, 1]) hown' rfl HF.out)
          have hblk2 := hid' (grown_block hgrow hblk hbne)
          have hlt2 : w.heap.size < w1.heap.size := by have := hgrow.size; simp at this; omega
          clear hown' hgrow hown hbel hblk hbne
          go_wp2
          go_roundw
          case rel => exact ⟨m, by omega, by go_num, R.out, hblk2.out, hb2, hlt2⟩
          case measure => simp [intOf]

end Go.Proofs.Qxb6003660a
