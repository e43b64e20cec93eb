import Derived.Test.Qxb6003660aLaw1
import Derived.Test.Qxb6003660aDecKey
namespace Go.Proofs.Qxb6003660a
open Go.RowKit Plain

theorem bytes9_small (a0 : Option Addr) (len0 cap0 : Nat) (s : ByteArray) (w : World) (h : len0 + s.size ≤ 1048576) :
    Calls Try.prog 9 #[.slice a0 len0 cap0, .string s] w fun e w' => e = .returned (.bool true) ∧ w = w' := by
  go_enter Try.func9, Try.ntmps9
  go_wp2
  go_ret
  exact ⟨rfl, rfl⟩

set_option maxHeartbeats 1000000 in
theorem key_big (a0 : Option Addr) (len0 cap0 : Nat) (s : ByteArray) (w : World) (h0 : len0 ≤ maxLen) (h1 : s.size ≤ maxLen) (hbig : 1048576 < len0 + s.size) :
    Calls Try.prog 3 #[.slice a0 len0 cap0, .string s] w fun e w' => e = .returned (.bool true) ∧ Below w.heap.size w w' := by
  unfold maxLen at h0 h1
  go_enter Try.func3, Try.ntmps3
  go_wp2
  all_goals (go_ret; exact ⟨rfl, Below.refl _ _⟩)

/-- The key, its value written out. -/
theorem zzkey_sl (B : Nat) (v0 : Value) (xs : List Nat) (s : ByteArray) (ls : List (List Nat)) (G : Nat) (w : World) (hx : xs.length ≤ 4194304) (hB : B ≤ w.heap.size) (hown0 : w.ownsRow B 5 1 v0 xs.length (ints .u8 xs)) (hW : Wire s ls) (hG : (xs ++ key ls).length = G) :
    Calls Try.prog 12 #[v0, .string s] w fun e w' => ∃ a' cap', e = .returned (.slice a' G cap') ∧ RowAt .u8 w' a' G cap' (xs ++ key ls) ∧ Below B w w' := by
  refine (zzkey_any B v0 xs s ls w hx hB hown0 hW).mono ?_
  rintro e w' ⟨v, rfl, ho, hb⟩
  rw [hG] at ho
  obtain ⟨a', cap', rfl, hR, _⟩ := own_row ho
  exact ⟨a', cap', rfl, hR, hb⟩

theorem deckey_sl (a : Option Addr) (n cap : Nat) (lsr : List (List Nat)) (nL : Nat) (w : World) (hn : n ≤ 4194304) (hok : ∀ l ∈ lsr, 1 ≤ l.length ∧ l.length ≤ 63) (hoct : ∀ l ∈ lsr, ∀ c ∈ l, c < 256) (hr : RowAt .u8 w a n cap (body lsr ++ [0, 0])) (hnL : lsr.length = nL) :
    Calls Try.prog 14 #[.slice a n cap] w fun e w' => ∃ al cl, e = .returned (.tuple #[.slice al nL cl, .bool true]) ∧ (∀ j, j < nL → ∃ g aj cj, al = some ⟨g, 0, none⟩ ∧ w'.cell? ⟨g, j, none⟩ = some (.slice aj (lsr.getD j []).length cj) ∧ RowAt .u8 w' aj (lsr.getD j []).length cj ((lsr.getD j []).map low)) ∧ Below w.heap.size w w' := by
  refine (deckey_any a n cap lsr w hn hok hoct hr).mono ?_
  rintro e w' ⟨lv, vals, rfl, ho, hv, hb⟩
  rw [hnL] at ho
  have hform : ∃ al cl, lv = .slice al nL cl ∧ (0 < nL → ∃ g, al = some ⟨g, 0, none⟩) := by
    rcases ho.2 with ⟨rfl, h0⟩ | ⟨g, cap', cur, rfl, _⟩
    · exact ⟨none, 0, by rw [h0], fun h => by omega⟩
    · exact ⟨_, _, rfl, fun _ => ⟨g, rfl⟩⟩
  obtain ⟨al, cl, rfl, hal⟩ := hform
  refine ⟨al, cl, rfl, fun j hj => ?_, hb⟩
  obtain ⟨g, rfl⟩ := hal (by omega)
  obtain ⟨aj, cj, e1, hR, -⟩ := own_row (hv.2 j (by omega)).1
  refine ⟨g, aj, cj, rfl, ?_, hR⟩
  rw [ho.cellAt j (by omega)]
  have hlen : j < vals.length := by rw [hv.1]; omega
  rw [List.getElem?_eq_getElem hlen, ← e1, getD_lt _ _ _ hlen]

theorem labels_sl (s : ByteArray) (ls : List (List Nat)) (nL : Nat) (w : World) (hW : Wire s ls) (hnL : ls.length = nL) :
    Calls Try.prog 15 #[.string s] w fun e w' => ∃ al cl, e = .returned (.slice al nL cl) ∧ (∀ j, j < nL → ∃ g t, al = some ⟨g, 0, none⟩ ∧ w'.cell? ⟨g, j, none⟩ = some (.string t) ∧ bys t = ls.getD j []) ∧ Below w.heap.size w w' := by
  refine (labels_any s ls w hW).mono ?_
  rintro e w' ⟨lv, rfl, strs, hst, ho, hb⟩
  rw [hnL] at ho
  have hform : ∃ al cl, lv = .slice al nL cl ∧ (0 < nL → ∃ g, al = some ⟨g, 0, none⟩) := by
    rcases ho.2 with ⟨rfl, h0⟩ | ⟨g, cap', cur, rfl, _⟩
    · exact ⟨none, 0, by rw [h0], fun h => by omega⟩
    · exact ⟨_, _, rfl, fun _ => ⟨g, rfl⟩⟩
  obtain ⟨al, cl, rfl, hal⟩ := hform
  refine ⟨al, cl, rfl, fun j hj => ?_, hb⟩
  obtain ⟨g, rfl⟩ := hal (by omega)
  have hlen : j < strs.length := by
    have := congrArg List.length hst
    rw [List.length_map] at this; omega
  refine ⟨g, strs[j], rfl, ?_, ?_⟩
  · rw [ho.cellAt j (by omega), List.getElem?_map, List.getElem?_eq_getElem hlen]; rfl
  · rw [← hst, getD_lt _ _ _ (by rw [List.length_map]; exact hlen), List.getElem_map]


theorem reverse_getD (ls : List (List Nat)) (n : Nat) (hn : ls.length = n) (k : Nat) (hk : k < n) : ls.reverse.getD k [] = ls.getD (n - 1 - k) [] := by
  rw [getD_lt _ _ _ (by rw [List.length_reverse]; omega), getD_lt _ _ _ (by omega), List.getElem_reverse]
  simp only [hn]

set_option maxHeartbeats 4000000 in
theorem key_small (a0 : Option Addr) (len0 cap0 : Nat) (xs : List Nat) (s : ByteArray) (w : World) (hs : len0 + s.size ≤ 1048576) (hr0 : RowAt .u8 w a0 len0 cap0 xs) :
    Calls Try.prog 3 #[.slice a0 len0 cap0, .string s] w fun e w' => e = .returned (.bool true) ∧ Below w.heap.size w w' := by
  have HX := hid hr0.1
  have R0 := hid hr0
  clear hr0
  go_enter Try.func3, Try.ntmps3
  go_wp2_with fail
  refine (bytes9_small a0 len0 cap0 s _ hs).mono ?_
  rintro e w' ⟨rfl, rfl⟩
  go_wp2_with fail
  refine (valid_any s _ (by omega)).mono ?_
  rintro e w1 (⟨rfl, rfl, ls, hW⟩ | ⟨rfl, rfl⟩)
  · have HW := hid hW
    have hsz := hW.size
    clear hW
    go_wp2_with fail
    refine (clone_sl a0 len0 cap0 xs _ (by omega) R0.out).mono ?_
    rintro e w2 ⟨ab, cb, rfl, -, Rb2, b2⟩
    have B2 := hid b2
    clear b2
    go_wp2_with fail
    refine (clone_sl ab len0 cb xs _ (by omega) Rb2).mono ?_
    rintro e w4 ⟨aw, cw, rfl, -, Rw4, b4⟩
    have Rb4 := RowAt.below Rb2 b4
    have B4 := hid (B2.out.trans (b4.mono B2.out.size))
    clear b4 B2 Rb2
    go_wp2_with fail
    refine (clone_sl ab len0 cb xs _ (by omega) Rb4).mono ?_
    rintro e w5 ⟨at5, ct5, rfl, o5, -, b5⟩
    go_wp2_with fail
    obtain ⟨G, HG⟩ : ∃ G, Hid ((xs ++ key ls).length = G) := ⟨_, rfl⟩
    have hG1 : len0 ≤ G := by have := HG.out; rw [List.length_append, HX.out] at this; omega
    have hG2 : G ≤ 2000000 := by
      have h1 := HG.out
      have h2 := key_len ls
      have h3 : s.size = (pref ls).length + 1 := by rw [← bys_length, HW.out.eq, List.length_append]; rfl
      rw [List.length_append, HX.out] at h1; omega
    refine (zzkey_sl w4.heap.size _ xs s ls G _ (by rw [HX.out]; omega) b5.size (by rw [HX.out]; exact o5) HW.out HG.out).mono ?_
    rintro e w6 ⟨ag, cg, rfl, Rg6, b6⟩
    have b46 := hid (b5.trans b6)
    clear b5 b6 o5
    go_wp2_with fail
    refine (prefix_yes ag G cg _ aw len0 cw xs _ (by omega) (by omega) Rg6 (RowAt.below Rw4 b46.out) (pre_append _ _)).mono ?_
    rintro e w7 ⟨rfl, m7, rfl⟩
    have b47 := hid (below_drewN b46.out m7)
    have Rg7 := RowAt.below Rg6 (below_drewN (Below.refl _ _) m7)
    clear b46 Rg6
    obtain ⟨nL, HNL⟩ : ∃ nL, Hid (ls.length = nL) := ⟨_, rfl⟩
    have hnL : nL ≤ 127 := by rw [← HNL.out]; exact HW.out.count
    have HNLR : Hid (ls.reverse.length = nL) := by show _ = _; rw [List.length_reverse, HNL.out]
    have HOKR : Hid (∀ l ∈ ls.reverse, 1 ≤ l.length ∧ l.length ≤ 63) := fun l hl => HW.out.ok l (List.mem_reverse.1 hl)
    have HOCR : Hid (∀ l ∈ ls.reverse, ∀ c ∈ l, c < 256) := by
      intro l hl c hc
      refine bys_lt s c ?_
      rw [HW.out.eq]
      refine List.mem_append.2 (.inl (List.mem_flatMap.2 ⟨l, List.mem_reverse.1 hl, List.mem_cons_of_mem _ hc⟩))
    have HDR : Hid ((xs ++ key ls).drop len0 = body ls.reverse ++ [0, 0]) := by show List.drop len0 (xs ++ key ls) = _; rw [← HX.out, List.drop_left]; rfl
    by_cases hcg : cg = len0
    · have RT := hid (Rg7.tail0 hG1 hcg HDR.out)
      go_wp2_with fail
      refine (deckey_sl ag (G - len0) 0 ls.reverse nL (w6.drewN m7) (by omega) HOKR.out HOCR.out RT.out HNLR.out).mono ?_
      rintro e w8 ⟨al, cl, rfl, HV8, b8⟩
      have b48 := hid (b47.out.trans (b8.mono b47.out.size))
      clear b8 Rg7
      go_wp2_with fail
      refine (labels_sl s ls nL _ HW.out HNL.out).mono ?_
      rintro e w9 ⟨as9, cs9, rfl, HS9, b9⟩
      have b49 := hid (b48.out.trans (b9.mono b48.out.size))
      have BF := hid (B4.out.trans (b49.out.mono B4.out.size))
      have HV9 : Hid (∀ j, j < nL → ∃ g aj cj, al = some ⟨g, 0, none⟩ ∧ w9.cell? ⟨g, j, none⟩ = some (.slice aj (ls.reverse.getD j []).length cj) ∧ RowAt .u8 w9 aj (ls.reverse.getD j []).length cj ((ls.reverse.getD j []).map low)) := by
        intro j hj
        obtain ⟨g, aj, cj, e1, e2, e3⟩ := HV8 j hj
        exact ⟨g, aj, cj, e1, (b9.cell (p := ⟨g, j, none⟩) (World.block_lt_of_cell? w8 _ e2)).trans e2, RowAt.below e3 b9⟩
      have HS := hid HS9
      clear b9 HV8 HS9 b48 b49 b47
      go_wp2
      go_loopw [10] (fun i wr => ∃ k : Nat, k ≤ nL ∧ i = .int .i64 k ∧ Below w9.heap.size w9 wr) (fun i _ => nL - (intOf i).toNat)
      case atStart => exact ⟨0, Nat.zero_le _, rfl, Below.refl _ _⟩
      case round =>
        obtain ⟨k, hk, rfl, hbw⟩ := hrel
        by_cases hlt : k < nL
        · obtain ⟨g, aj, cj, rfl, ce, Rj⟩ := HV9.out k hlt
          obtain ⟨g', t', e', ce', hbt⟩ := HS.out (nL - 1 - k) (by omega)
          subst e'
          rw [← reverse_getD ls nL HNL.out k hlt] at hbt
          obtain ⟨L, HL⟩ : ∃ L, Hid (ls.reverse.getD k [] = L) := ⟨_, rfl⟩
          rw [HL.out] at ce Rj hbt
          obtain ⟨n, HN⟩ : ∃ n, Hid (L.length = n) := ⟨_, rfl⟩
          rw [HN.out] at ce Rj
          have hts : t'.size = n := by rw [← bys_length, hbt, HN.out]
          have hn63 : n ≤ 63 := by rw [← HN.out, ← HL.out]; exact (HOKR.out _ (by rw [getD_lt _ _ _ (by rw [HNLR.out]; exact hlt)]; exact List.getElem_mem _)).2
          have ce := (hbw.cell (p := ⟨g, k, none⟩) (World.block_lt_of_cell? w9 _ ce)).trans ce
          have ce' := (hbw.cell (p := ⟨g', nL - 1 - k, none⟩) (World.block_lt_of_cell? w9 _ ce')).trans ce'
          have HBT := hid hbt
          have HTS := hid hts
          have RJ := hid Rj
          have k1 : (nL : Int) - 1 - (k : Int) < (nL : Int) := by omega
          have k2 : (0 : Int) ≤ (nL : Int) - 1 - (k : Int) := by omega
          have k3 : ((nL : Int) - 1 - (k : Int)).toNat = nL - 1 - k := by omega
          have g1 : ((n : Int) != (t'.size : Int)) = false := by rw [bne_eq_false_iff_eq]; omega
          clear hbt hts Rj
          go_wp2
          obtain ⟨wo, rfl⟩ : ∃ wo : World, wo = wr := ⟨_, rfl⟩
          go_loopw [13] (fun i wr => ∃ j : Nat, j ≤ n ∧ i = .int .i64 j ∧ Below w9.heap.size w9 wr) (fun i _ => n - (intOf i).toNat)
          case atStart => exact ⟨0, Nat.zero_le _, rfl, hbw⟩
          case round =>
            clear hbw ce ce'
            obtain ⟨j, hj, rfl, hbw⟩ := hrel
            by_cases hjn : j < n
            · obtain ⟨b, off, rfl, hc⟩ := (RowAt.below RJ.out hbw).2.2.2.2 (by omega)
              have h1 := hc j hjn
              have hjt : j < t'.size := by rw [HTS.out]; exact hjn
              have h2 := bys_get t' j hjt
              have hcell : (L.map low).getD j 0 = low (L.getD j 0) := by
                rw [getD_lt _ _ _ (by rw [List.length_map, HN.out]; exact hjn), List.getElem_map, getD_lt _ _ _ (by rw [HN.out]; exact hjn)]
              rw [hcell] at h1
              rw [HBT.out] at h2
              have hc256 : L.getD j 0 < 256 := by rw [← h2]; exact UInt8.toNat_lt _
              have HLO := hid hcell
              clear hcell
              generalize L.getD j 0 = c at h1 h2 hc256
              have hjI : (j : Int) < (n : Int) := by omega
              have hjT : (j : Int) < (t'.size : Int) := by omega
              clear hc HLO
              go_wp2
              go_quiet ((go_at_call 16; exact Calls.quiet_of_same (lower16_any c _ hc256)))
              go_wp2
              go_roundw
              case rel => exact ⟨j + 1, by omega, by go_num, below_drewN hbw _⟩
              case measure => simp [intOf]; omega
            · go_wp2
              go_roundw
              case rel => exact ⟨k + 1, by omega, by go_num, hbw⟩
              case measure => simp [intOf]; omega
        · go_wp2
          go_ret
          exact ⟨rfl, BF.out.trans (hbw.mono BF.out.size)⟩
    · have RT := hid (Rg7.tail hG1 HDR.out)
      go_wp2_with fail
      refine (deckey_sl (ag.map fun x => x.add len0) (G - len0) (cg - len0) ls.reverse nL (w6.drewN m7) (by omega) HOKR.out HOCR.out RT.out HNLR.out).mono ?_
      rintro e w8 ⟨al, cl, rfl, HV8, b8⟩
      have b48 := hid (b47.out.trans (b8.mono b47.out.size))
      clear b8 Rg7
      go_wp2_with fail
      refine (labels_sl s ls nL _ HW.out HNL.out).mono ?_
      rintro e w9 ⟨as9, cs9, rfl, HS9, b9⟩
      have b49 := hid (b48.out.trans (b9.mono b48.out.size))
      have BF := hid (B4.out.trans (b49.out.mono B4.out.size))
      have HV9 : Hid (∀ j, j < nL → ∃ g aj cj, al = some ⟨g, 0, none⟩ ∧ w9.cell? ⟨g, j, none⟩ = some (.slice aj (ls.reverse.getD j []).length cj) ∧ RowAt .u8 w9 aj (ls.reverse.getD j []).length cj ((ls.reverse.getD j []).map low)) := by
        intro j hj
        obtain ⟨g, aj, cj, e1, e2, e3⟩ := HV8 j hj
        exact ⟨g, aj, cj, e1, (b9.cell (p := ⟨g, j, none⟩) (World.block_lt_of_cell? w8 _ e2)).trans e2, RowAt.below e3 b9⟩
      have HS := hid HS9
      clear b9 HV8 HS9 b48 b49 b47
      go_wp2
      go_loopw [10] (fun i wr => ∃ k : Nat, k ≤ nL ∧ i = .int .i64 k ∧ Below w9.heap.size w9 wr) (fun i _ => nL - (intOf i).toNat)
      case atStart => exact ⟨0, Nat.zero_le _, rfl, Below.refl _ _⟩
      case round =>
        obtain ⟨k, hk, rfl, hbw⟩ := hrel
        by_cases hlt : k < nL
        · obtain ⟨g, aj, cj, rfl, ce, Rj⟩ := HV9.out k hlt
          obtain ⟨g', t', e', ce', hbt⟩ := HS.out (nL - 1 - k) (by omega)
          subst e'
          rw [← reverse_getD ls nL HNL.out k hlt] at hbt
          obtain ⟨L, HL⟩ : ∃ L, Hid (ls.reverse.getD k [] = L) := ⟨_, rfl⟩
          rw [HL.out] at ce Rj hbt
          obtain ⟨n, HN⟩ : ∃ n, Hid (L.length = n) := ⟨_, rfl⟩
          rw [HN.out] at ce Rj
          have hts : t'.size = n := by rw [← bys_length, hbt, HN.out]
          have hn63 : n ≤ 63 := by rw [← HN.out, ← HL.out]; exact (HOKR.out _ (by rw [getD_lt _ _ _ (by rw [HNLR.out]; exact hlt)]; exact List.getElem_mem _)).2
          have ce := (hbw.cell (p := ⟨g, k, none⟩) (World.block_lt_of_cell? w9 _ ce)).trans ce
          have ce' := (hbw.cell (p := ⟨g', nL - 1 - k, none⟩) (World.block_lt_of_cell? w9 _ ce')).trans ce'
          have HBT := hid hbt
          have HTS := hid hts
          have RJ := hid Rj
          have k1 : (nL : Int) - 1 - (k : Int) < (nL : Int) := by omega
          have k2 : (0 : Int) ≤ (nL : Int) - 1 - (k : Int) := by omega
          have k3 : ((nL : Int) - 1 - (k : Int)).toNat = nL - 1 - k := by omega
          have g1 : ((n : Int) != (t'.size : Int)) = false := by rw [bne_eq_false_iff_eq]; omega
          clear hbt hts Rj
          go_wp2
          obtain ⟨wo, rfl⟩ : ∃ wo : World, wo = wr := ⟨_, rfl⟩
          go_loopw [13] (fun i wr => ∃ j : Nat, j ≤ n ∧ i = .int .i64 j ∧ Below w9.heap.size w9 wr) (fun i _ => n - (intOf i).toNat)
          case atStart => exact ⟨0, Nat.zero_le _, rfl, hbw⟩
          case round =>
            clear hbw ce ce'
            obtain ⟨j, hj, rfl, hbw⟩ := hrel
            by_cases hjn : j < n
            · obtain ⟨b, off, rfl, hc⟩ := (RowAt.below RJ.out hbw).2.2.2.2 (by omega)
              have h1 := hc j hjn
              have hjt : j < t'.size := by rw [HTS.out]; exact hjn
              have h2 := bys_get t' j hjt
              have hcell : (L.map low).getD j 0 = low (L.getD j 0) := by
                rw [getD_lt _ _ _ (by rw [List.length_map, HN.out]; exact hjn), List.getElem_map, getD_lt _ _ _ (by rw [HN.out]; exact hjn)]
              rw [hcell] at h1
              rw [HBT.out] at h2
              have hc256 : L.getD j 0 < 256 := by rw [← h2]; exact UInt8.toNat_lt _
              have HLO := hid hcell
              clear hcell
              generalize L.getD j 0 = c at h1 h2 hc256
              have hjI : (j : Int) < (n : Int) := by omega
              have hjT : (j : Int) < (t'.size : Int) := by omega
              clear hc HLO
              go_wp2
              go_quiet ((go_at_call 16; exact Calls.quiet_of_same (lower16_any c _ hc256)))
              go_wp2
              go_roundw
              case rel => exact ⟨j + 1, by omega, by go_num, below_drewN hbw _⟩
              case measure => simp [intOf]; omega
            · go_wp2
              go_roundw
              case rel => exact ⟨k + 1, by omega, by go_num, hbw⟩
              case measure => simp [intOf]; omega
        · go_wp2
          go_ret
          exact ⟨rfl, BF.out.trans (hbw.mono BF.out.size)⟩
  · go_wp2
    go_ret
    exact ⟨rfl, Below.refl _ _⟩

end Go.Proofs.Qxb6003660a
