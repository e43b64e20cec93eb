import Derived.Test.Qxb6003660aLaw1
import Derived.Test.Qxb6003660aConcat
import Derived.Deep.RegionWith
namespace Go.Proofs.Qxb6003660a
open Go.RowKit Plain

theorem bytes33_small (a0 : Option Addr) (len0 cap0 : Nat) (a1 : Option Addr) (len1 cap1 : Nat) (k : Int) (w : World) (h : len0 + len1 ≤ 1048576) :
    Calls Try.prog 33 #[.slice a0 len0 cap0, .slice a1 len1 cap1, .int .i64 k] w fun e w' => e = .returned (.bool true) ∧ w = w' := by
  go_enter Try.func33, Try.ntmps33
  go_wp2
  go_ret
  exact ⟨rfl, rfl⟩

set_option maxHeartbeats 1000000 in
theorem cut_big (a0 : Option Addr) (len0 cap0 : Nat) (a1 : Option Addr) (len1 cap1 : Nat) (k : Int) (w : World) (h0 : len0 ≤ maxLen) (h1 : len1 ≤ maxLen) (hbig : 1048576 < len0 + 8 * len1) :
    Calls Try.prog 8 #[.slice a0 len0 cap0, .slice a1 len1 cap1, .int .i64 k] w fun e w' => e = .returned (.bool true) ∧ Below w.heap.size w w' := by
  unfold maxLen at h0 h1
  go_enter Try.func8, Try.ntmps8
  go_wp2
  all_goals (go_ret; exact ⟨rfl, Below.refl _ _⟩)

set_option maxHeartbeats 1000000 in
theorem cut_out (a0 : Option Addr) (len0 cap0 : Nat) (a1 : Option Addr) (len1 cap1 : Nat) (k : Int) (w : World) (hs : len0 + 8 * len1 ≤ 1048576) (hk : k < 0 ∨ (len1 : Int) < k) :
    Calls Try.prog 8 #[.slice a0 len0 cap0, .slice a1 len1 cap1, .int .i64 k] w fun e w' => e = .returned (.bool true) ∧ Below w.heap.size w w' := by
  rcases hk with hk | hk
  · go_enter Try.func8, Try.ntmps8
    go_wp2
    go_ret
    exact ⟨rfl, Below.refl _ _⟩
  · have hk' : ¬ k < 0 := by omega
    go_enter Try.func8, Try.ntmps8
    go_wp2
    go_ret
    exact ⟨rfl, Below.refl _ _⟩

/-- The first k numbers of a slice. -/
theorem RowAt.head {k : IntKind} {w : World} {a : Option Addr} {n cap m : Nat} {zs : List Nat} (h : RowAt k w a n cap zs) (hm : m ≤ n) : RowAt k w a m cap (zs.take m) := by
  obtain ⟨h1, h2, h3, h4, h5⟩ := h
  refine ⟨by rw [List.length_take]; omega, by omega, h3, fun e => by have := h4 e; omega, fun hp => ?_⟩
  obtain ⟨b, off, rfl, hc⟩ := h5 (by omega)
  refine ⟨b, off, rfl, fun i hi => ?_⟩
  rw [hc i (by omega)]
  simp only [List.getD_eq_getElem?_getD, List.getElem?_take, if_pos hi]

theorem equal_is (a : Option Addr) (n cap : Nat) (s : List Nat) (a' : Option Addr) (n' cap' : Nat) (p : List Nat) (b : Bool) (w : World) (hn : n ≤ 67108864) (hn' : n' ≤ 67108864) (hr : RowAt .u8 w a n cap s) (hr' : RowAt .u8 w a' n' cap' p) (hb : eqB s p = b) :
    Calls Try.prog 19 #[.slice a n cap, .slice a' n' cap'] w fun e w' => e = .returned (.bool b) ∧ ∃ m, w' = w.drewN m := by
  refine (equal_any a n cap s a' n' cap' p w hn hn' hr hr').mono ?_
  rintro e w' ⟨rfl, h⟩
  exact ⟨by rw [hb], h⟩

set_option maxHeartbeats 4000000 in
theorem cut_in (a0 : Option Addr) (len0 cap0 : Nat) (xs : List Nat) (a1 : Option Addr) (len1 cap1 : Nat) (L : List Nat) (k : Nat) (w : World) (hs : len0 + 8 * len1 ≤ 1048576) (hk : k ≤ len1) (h16 : ∀ t ∈ L, t < 65536)
    (hr0 : RowAt .u8 w a0 len0 cap0 xs) (hr1 : RowAt .u16 w a1 len1 cap1 L) :
    Calls Try.prog 8 #[.slice a0 len0 cap0, .slice a1 len1 cap1, .int .i64 (k : Int)] w fun e w' => e = .returned (.bool true) ∧ Below w.heap.size w w' := by
  have HX := hid hr0.1
  have HL := hid hr1.1
  have R0 := hid hr0
  have R1 := hid hr1
  have H16 := hid h16
  clear hr0 hr1 h16
  go_enter Try.func8, Try.ntmps8
  go_wp2_with fail
  refine (bytes33_small a0 len0 cap0 a1 len1 cap1 k _ (by omega)).mono ?_
  rintro e w' ⟨rfl, rfl⟩
  go_wp2_with fail
  refine (sorted_any a1 len1 cap1 L _ (by omega) R1.out).mono ?_
  rintro e w1 ⟨rfl, m1, rfl⟩
  by_cases hsort : sortedB L = true
  · have HS := hid (sorted_of hsort)
    have B1 := hid (below_drewN (Below.refl w.heap.size w) m1)
    go_wp2_with fail
    refine (clone_sl a0 len0 cap0 xs _ (by omega) (RowAt.below R0.out B1.out)).mono ?_
    rintro e w2 ⟨ab, cb, rfl, -, Rb2, b2⟩
    have Rl2 := RowAt.below R1.out (B1.out.trans b2)
    have B2 := hid (B1.out.trans b2)
    clear b2 B1
    go_wp2_with fail
    refine (clone16_sl a1 len1 cap1 L _ (by omega) Rl2).mono ?_
    rintro e w3 ⟨al, cl, rfl, Rl3, b3⟩
    have Rb3 := RowAt.below Rb2 b3
    have B3 := hid (B2.out.trans (b3.mono B2.out.size))
    clear b3 B2 Rb2 Rl2
    go_wp2_with fail
    refine (clone_sl ab len0 cb xs _ (by omega) Rb3).mono ?_
    rintro e w4 ⟨at4, ct4, rfl, o4, -, b4⟩
    go_wp2_with fail
    obtain ⟨G, HG⟩ : ∃ G, Hid ((xs ++ enc L).length = G) := ⟨_, rfl⟩
    have hG2 : G ≤ 40000000 := by have := HG.out; have h2 := enc_length _ L (Nat.le_refl _); rw [List.length_append, HX.out] at this; rw [HL.out] at h2; omega
    refine (zz_sl w3.heap.size _ xs al len1 cl L G _ (by omega) (by rw [HX.out]; omega) H16.out b4.size (by rw [HX.out]; exact o4) (RowAt.below Rl3 b4) Rl3.lt HG.out).mono ?_
    rintro e w5 ⟨aw, cw, rfl, -, Rw5, b5⟩
    have b35 := hid (b4.trans b5)
    have Rl5 := RowAt.below Rl3 b35.out
    have Rb5 := RowAt.below Rb3 b35.out
    have B5 := hid (B3.out.trans (b35.out.mono B3.out.size))
    clear b4 b5 o4 Rl3 Rb3 B3 b35
    have hkc : (k : Int) ≤ (cl : Int) := by have := Rl5.2.1; omega
    have hk0 : (0 : Int) ≤ (k : Int) := by omega
    obtain ⟨G7, HG7⟩ : ∃ G, Hid ((xs ++ enc (L.take k)).length = G) := ⟨_, rfl⟩
    have HLk : Hid ((L.take k).length = k) := by show (L.take k).length = k; rw [List.length_take, HL.out]; omega
    have hG7 : G7 ≤ 40000000 := by have := HG7.out; have h2 := enc_length _ (L.take k) (Nat.le_refl _); rw [List.length_append, HX.out] at this; rw [HLk.out] at h2; omega
    have H16k : Hid (∀ t ∈ L.take k, t < 65536) := fun t ht => H16.out t (List.mem_of_mem_take ht)
    have HLOW : Hid (∀ b off, al = some ⟨b, off, none⟩ → 0 < k → b < w5.heap.size) := fun b off e hp => Rl5.lt b off e (by omega)
    go_wp2_with fail
    go_region_with (first
      | (go_at_call 11; (refine (clone_sl ab len0 cb xs _ (by omega) ?_).mono ?_; exact RowAt.below Rb5 (Below.refl _ _).drew; rintro e w6 ⟨at6, ct6, rfl, o6, -, b6⟩))
      | (go_at_call 30; (refine (zz_sl w5.heap.size (.slice at6 len0 ct6) xs al k cl (L.take k) G7 _ (by omega) (by rw [HX.out]; omega) H16k.out ?_ ?_ ?_ HLOW.out HG7.out).mono ?_; exact b6.size; exact (by rw [HX.out]; exact o6); exact (RowAt.head (RowAt.below Rl5 ((Below.refl w5.heap.size w5).drew.trans b6)) hk); rintro e w7 ⟨aL, cL, rfl, oL, RL7, b7⟩)))
    have b57 := hid (((Below.refl w5.heap.size w5).drew.trans b6).trans b7)
    clear o6 b6 b7
    obtain ⟨GJ, HGJ⟩ : ∃ G, Hid ((xs ++ enc (L.take k) ++ enc (L.drop k)).length = G) := ⟨_, rfl⟩
    obtain ⟨GN, HGN⟩ : ∃ G, Hid ((enc L).length = G) := ⟨_, rfl⟩
    have HLd : Hid ((L.drop k).length = len1 - k) := by show (L.drop k).length = len1 - k; rw [List.length_drop, HL.out]
    have hGJ : GJ ≤ 50000000 := by have := HGJ.out; have h2 := enc_length _ (L.drop k) (Nat.le_refl _); rw [List.length_append, HG7.out] at this; rw [HLd.out] at h2; omega
    have hGN : GN ≤ 40000000 := by have := HGN.out; have h2 := enc_length _ L (Nat.le_refl _); rw [HL.out] at h2; omega
    have H16d : Hid (∀ t ∈ L.drop k, t < 65536) := fun t ht => H16.out t (List.mem_of_mem_drop ht)
    by_cases hcl : k = cl
    · subst hcl
      have RT5 := hid (Rl5.tail0 hk rfl rfl)
      have RT7 := hid (RowAt.below RT5.out b57.out)
      go_wp2_with fail
      refine (zz_sl w5.heap.size (.slice aL G7 cL) (xs ++ enc (L.take k)) al (len1 - k) 0 (L.drop k) GJ _ (by omega) (by rw [HG7.out]; omega) H16d.out b57.out.size (by rw [HG7.out]; exact oL) RT7.out RT5.out.lt HGJ.out).mono ?_
      rintro e w8 ⟨aJ, cJ, rfl, -, RJ8, b8⟩
      have b58 := hid (b57.out.trans b8)
      have Rl8 := RowAt.below Rl5 b58.out
      clear b8
      go_wp2_with fail
      refine (zz_sl w8.heap.size (.slice none 0 0) [] al len1 k L GN _ (by omega) (by simp) H16.out (Nat.le_refl _) (World.ownsRow_nil _ _ _ _) Rl8 Rl8.lt (by simpa using HGN.out)).mono ?_
      rintro e w9 ⟨an, cn, rfl, -, Rn9, b9⟩
      rw [List.nil_append] at Rn9
      have b59 := hid (b58.out.trans (b9.mono b58.out.size))
      have RJ9 := RowAt.below RJ8 b9
      have Rl9 := RowAt.below Rl5 b59.out
      have Rb9 := RowAt.below Rb5 b59.out
      have Rw9 := RowAt.below Rw5 b59.out
      have B9 := hid (B5.out.trans (b59.out.mono B5.out.size))
      clear b9 b58 RJ8 Rl8 RT5 RT7 oL RL7
      obtain ⟨_, _, _, _, hcell⟩ := Rl9
      by_cases hk0' : k = 0
      · have g1 : ((k : Int) == 0) = true := by rw [beq_iff_eq]; omega
        have HEQ : Hid (eqB (xs ++ enc (L.take k) ++ enc (L.drop k)) (xs ++ enc L) = true) := by
          show eqB _ _ = true
          unfold eqB
          exact decide_eq_true (by rw [List.append_assoc, (enc_cut _ L (Nat.le_refl _) k (by rw [HL.out]; exact hk)).1 (by rw [HL.out]; exact .inl hk0')])
        clear hcell hk0'
        go_wp2
        go_quiet (fail)
        have dq := hid (below_drewN (Below.refl w9.heap.size w9) nq)
        have RJq := RowAt.below RJ9 dq.out
        have Rwq := RowAt.below Rw9 dq.out
        go_wp2_with fail
        refine (equal_is aJ GJ cJ _ aw G cw _ true _ (by omega) (by omega) RJq Rwq HEQ.out).mono ?_
        rintro e w10 ⟨rfl, m10, rfl⟩
        have d10 := hid (below_drewN (Below.refl w9.heap.size w9) (nq + m10))
        have Rb10 := RowAt.below Rb9 d10.out
        have Rn10 := RowAt.below Rn9 d10.out
        have Rw10 := RowAt.below Rw9 d10.out
        have B10 := hid (below_drewN B9.out (nq + m10))
        clear RJq Rwq RJ9 Rw9 Rb9 Rn9
        go_wp2_with fail
        refine (concat_any ab len0 cb xs an GN cn (enc L) _ (by omega) (by omega) Rb10 Rn10).mono ?_
        rintro e w11 ⟨rfl, o11, b11⟩
        obtain ⟨ac, cc, ec, Rc11, -⟩ := own_row o11
        simp only [Value.slice.injEq, true_and] at ec
        obtain ⟨rfl, rfl⟩ := ec
        have Rw11 := RowAt.below Rw10 b11
        have BF := hid (B10.out.trans (b11.mono B10.out.size))
        clear o11 b11 Rb10 Rn10 Rw10
        go_wp2_with fail
        refine (equal_is aw G cw _ _ _ _ _ true _ (by omega) (by omega) Rw11 Rc11 (by unfold eqB; exact decide_eq_true rfl)).mono ?_
        rintro e w12 ⟨rfl, m12, rfl⟩
        go_wp2
        go_ret
        exact ⟨rfl, below_drewN BF.out _⟩
      · have g1 : ((k : Int) == 0) = false := by rw [beq_eq_false_iff_ne]; omega
        by_cases hkn : k = len1
        · have g2 : ((k : Int) == (len1 : Int)) = true := by rw [beq_iff_eq]; omega
          have HEQ : Hid (eqB (xs ++ enc (L.take k) ++ enc (L.drop k)) (xs ++ enc L) = true) := by
            show eqB _ _ = true
            unfold eqB
            exact decide_eq_true (by rw [List.append_assoc, (enc_cut _ L (Nat.le_refl _) k (by rw [HL.out]; exact hk)).1 (by rw [HL.out]; exact .inr (.inl hkn))])
          clear hcell hk0' hkn
          go_wp2
          go_quiet (fail)
          have dq := hid (below_drewN (Below.refl w9.heap.size w9) nq)
          have RJq := RowAt.below RJ9 dq.out
          have Rwq := RowAt.below Rw9 dq.out
          go_wp2_with fail
          refine (equal_is aJ GJ cJ _ aw G cw _ true _ (by omega) (by omega) RJq Rwq HEQ.out).mono ?_
          rintro e w10 ⟨rfl, m10, rfl⟩
          have d10 := hid (below_drewN (Below.refl w9.heap.size w9) (nq + m10))
          have Rb10 := RowAt.below Rb9 d10.out
          have Rn10 := RowAt.below Rn9 d10.out
          have Rw10 := RowAt.below Rw9 d10.out
          have B10 := hid (below_drewN B9.out (nq + m10))
          clear RJq Rwq RJ9 Rw9 Rb9 Rn9
          go_wp2_with fail
          refine (concat_any ab len0 cb xs an GN cn (enc L) _ (by omega) (by omega) Rb10 Rn10).mono ?_
          rintro e w11 ⟨rfl, o11, b11⟩
          obtain ⟨ac, cc, ec, Rc11, -⟩ := own_row o11
          simp only [Value.slice.injEq, true_and] at ec
          obtain ⟨rfl, rfl⟩ := ec
          have Rw11 := RowAt.below Rw10 b11
          have BF := hid (B10.out.trans (b11.mono B10.out.size))
          clear o11 b11 Rb10 Rn10 Rw10
          go_wp2_with fail
          refine (equal_is aw G cw _ _ _ _ _ true _ (by omega) (by omega) Rw11 Rc11 (by unfold eqB; exact decide_eq_true rfl)).mono ?_
          rintro e w12 ⟨rfl, m12, rfl⟩
          go_wp2
          go_ret
          exact ⟨rfl, below_drewN BF.out _⟩
        · have g2 : ((k : Int) == (len1 : Int)) = false := by rw [beq_eq_false_iff_ne]; omega
          obtain ⟨b, off, rfl, hc⟩ := hcell (by omega)
          have c1 := hc (k - 1) (by omega)
          have c2 := hc k (by omega)
          have k1 : (k : Int) - 1 < (len1 : Int) := by omega
          have k2 : (0 : Int) ≤ (k : Int) - 1 := by omega
          have k3 : ((k : Int) - 1).toNat = k - 1 := by omega
          have k4 : (k : Int) < (len1 : Int) := by omega
          have k5 : IntKind.i64.wrap ((k : Int) - 1) = (k : Int) - 1 := by rw [IntKind.wrap_i64]; omega
          have x1 : L.getD (k - 1) 0 < 65536 := H16.out _ ((mem_getD _ _).2 ⟨k - 1, by rw [HL.out]; omega, rfl⟩)
          have x2 : L.getD k 0 < 65536 := H16.out _ ((mem_getD _ _).2 ⟨k, by rw [HL.out]; omega, rfl⟩)
          by_cases hbd : L.getD (k - 1) 0 / 256 = L.getD k 0 / 256
          · have g3 : (((L.getD (k - 1) 0 : Nat) : Int) / 256 != ((L.getD k 0 : Nat) : Int) / 256) = false := by rw [bne_eq_false_iff_eq]; omega
            have HEQ : Hid (eqB (xs ++ enc (L.take k) ++ enc (L.drop k)) (xs ++ enc L) = false) := by
              show eqB _ _ = false
              unfold eqB
              refine decide_eq_false fun e => ?_
              have h1 := (enc_cut _ L (Nat.le_refl _) k (by rw [HL.out]; exact hk)).2 ⟨by omega, by rw [HL.out]; omega, hbd⟩
              have h2 := congrArg List.length e
              simp only [List.length_append] at h2
              omega
            generalize L.getD (k - 1) 0 = x at c1 g3 x1
            generalize L.getD k 0 = y at c2 g3 x2
            clear hc hk0' hkn hbd hcell

            go_wp2
            go_quiet (fail)
            have dq := hid (below_drewN (Below.refl w9.heap.size w9) nq)
            have RJq := RowAt.below RJ9 dq.out
            have Rwq := RowAt.below Rw9 dq.out
            go_wp2_with fail
            refine (equal_is aJ GJ cJ _ aw G cw _ false _ (by omega) (by omega) RJq Rwq HEQ.out).mono ?_
            rintro e w10 ⟨rfl, m10, rfl⟩
            have d10 := hid (below_drewN (Below.refl w9.heap.size w9) (nq + m10))
            have Rb10 := RowAt.below Rb9 d10.out
            have Rn10 := RowAt.below Rn9 d10.out
            have Rw10 := RowAt.below Rw9 d10.out
            have B10 := hid (below_drewN B9.out (nq + m10))
            clear RJq Rwq RJ9 Rw9 Rb9 Rn9
            go_wp2_with fail
            refine (concat_any ab len0 cb xs an GN cn (enc L) _ (by omega) (by omega) Rb10 Rn10).mono ?_
            rintro e w11 ⟨rfl, o11, b11⟩
            obtain ⟨ac, cc, ec, Rc11, -⟩ := own_row o11
            simp only [Value.slice.injEq, true_and] at ec
            obtain ⟨rfl, rfl⟩ := ec
            have Rw11 := RowAt.below Rw10 b11
            have BF := hid (B10.out.trans (b11.mono B10.out.size))
            clear o11 b11 Rb10 Rn10 Rw10
            go_wp2_with fail
            refine (equal_is aw G cw _ _ _ _ _ true _ (by omega) (by omega) Rw11 Rc11 (by unfold eqB; exact decide_eq_true rfl)).mono ?_
            rintro e w12 ⟨rfl, m12, rfl⟩
            go_wp2
            go_ret
            exact ⟨rfl, below_drewN BF.out _⟩
          · have g3 : (((L.getD (k - 1) 0 : Nat) : Int) / 256 != ((L.getD k 0 : Nat) : Int) / 256) = true := by rw [bne_iff_ne]; omega
            have HEQ : Hid (eqB (xs ++ enc (L.take k) ++ enc (L.drop k)) (xs ++ enc L) = true) := by
              show eqB _ _ = true
              unfold eqB
              exact decide_eq_true (by rw [List.append_assoc, (enc_cut _ L (Nat.le_refl _) k (by rw [HL.out]; exact hk)).1 (by rw [HL.out]; exact .inr (.inr hbd))])
            generalize L.getD (k - 1) 0 = x at c1 g3 x1
            generalize L.getD k 0 = y at c2 g3 x2
            clear hc hk0' hkn hbd hcell

            go_wp2
            go_quiet (fail)
            have dq := hid (below_drewN (Below.refl w9.heap.size w9) nq)
            have RJq := RowAt.below RJ9 dq.out
            have Rwq := RowAt.below Rw9 dq.out
            go_wp2_with fail
            refine (equal_is aJ GJ cJ _ aw G cw _ true _ (by omega) (by omega) RJq Rwq HEQ.out).mono ?_
            rintro e w10 ⟨rfl, m10, rfl⟩
            have d10 := hid (below_drewN (Below.refl w9.heap.size w9) (nq + m10))
            have Rb10 := RowAt.below Rb9 d10.out
            have Rn10 := RowAt.below Rn9 d10.out
            have Rw10 := RowAt.below Rw9 d10.out
            have B10 := hid (below_drewN B9.out (nq + m10))
            clear RJq Rwq RJ9 Rw9 Rb9 Rn9
            go_wp2_with fail
            refine (concat_any ab len0 cb xs an GN cn (enc L) _ (by omega) (by omega) Rb10 Rn10).mono ?_
            rintro e w11 ⟨rfl, o11, b11⟩
            obtain ⟨ac, cc, ec, Rc11, -⟩ := own_row o11
            simp only [Value.slice.injEq, true_and] at ec
            obtain ⟨rfl, rfl⟩ := ec
            have Rw11 := RowAt.below Rw10 b11
            have BF := hid (B10.out.trans (b11.mono B10.out.size))
            clear o11 b11 Rb10 Rn10 Rw10
            go_wp2_with fail
            refine (equal_is aw G cw _ _ _ _ _ true _ (by omega) (by omega) Rw11 Rc11 (by unfold eqB; exact decide_eq_true rfl)).mono ?_
            rintro e w12 ⟨rfl, m12, rfl⟩
            go_wp2
            go_ret
            exact ⟨rfl, below_drewN BF.out _⟩
    · have hcl' : ¬ cl = k := fun e => hcl e.symm
      have RT5 := hid (Rl5.tail hk rfl)
      have RT7 := hid (RowAt.below RT5.out b57.out)
      go_wp2_with fail
      refine (zz_sl w5.heap.size (.slice aL G7 cL) (xs ++ enc (L.take k)) (al.map fun x => x.add k) (len1 - k) (cl - k) (L.drop k) GJ _ (by omega) (by rw [HG7.out]; omega) H16d.out b57.out.size (by rw [HG7.out]; exact oL) RT7.out RT5.out.lt HGJ.out).mono ?_
      rintro e w8 ⟨aJ, cJ, rfl, -, RJ8, b8⟩
      have b58 := hid (b57.out.trans b8)
      have Rl8 := RowAt.below Rl5 b58.out
      clear b8
      go_wp2_with fail
      refine (zz_sl w8.heap.size (.slice none 0 0) [] al len1 cl L GN _ (by omega) (by simp) H16.out (Nat.le_refl _) (World.ownsRow_nil _ _ _ _) Rl8 Rl8.lt (by simpa using HGN.out)).mono ?_
      rintro e w9 ⟨an, cn, rfl, -, Rn9, b9⟩
      rw [List.nil_append] at Rn9
      have b59 := hid (b58.out.trans (b9.mono b58.out.size))
      have RJ9 := RowAt.below RJ8 b9
      have Rl9 := RowAt.below Rl5 b59.out
      have Rb9 := RowAt.below Rb5 b59.out
      have Rw9 := RowAt.below Rw5 b59.out
      have B9 := hid (B5.out.trans (b59.out.mono B5.out.size))
      clear b9 b58 RJ8 Rl8 RT5 RT7 oL RL7
      obtain ⟨_, _, _, _, hcell⟩ := Rl9
      by_cases hk0' : k = 0
      · have g1 : ((k : Int) == 0) = true := by rw [beq_iff_eq]; omega
        have HEQ : Hid (eqB (xs ++ enc (L.take k) ++ enc (L.drop k)) (xs ++ enc L) = true) := by
          show eqB _ _ = true
          unfold eqB
          exact decide_eq_true (by rw [List.append_assoc, (enc_cut _ L (Nat.le_refl _) k (by rw [HL.out]; exact hk)).1 (by rw [HL.out]; exact .inl hk0')])
        clear hcell hk0'
        go_wp2
        go_quiet (fail)
        have dq := hid (below_drewN (Below.refl w9.heap.size w9) nq)
        have RJq := RowAt.below RJ9 dq.out
        have Rwq := RowAt.below Rw9 dq.out
        go_wp2_with fail
        refine (equal_is aJ GJ cJ _ aw G cw _ true _ (by omega) (by omega) RJq Rwq HEQ.out).mono ?_
        rintro e w10 ⟨rfl, m10, rfl⟩
        have d10 := hid (below_drewN (Below.refl w9.heap.size w9) (nq + m10))
        have Rb10 := RowAt.below Rb9 d10.out
        have Rn10 := RowAt.below Rn9 d10.out
        have Rw10 := RowAt.below Rw9 d10.out
        have B10 := hid (below_drewN B9.out (nq + m10))
        clear RJq Rwq RJ9 Rw9 Rb9 Rn9
        go_wp2_with fail
        refine (concat_any ab len0 cb xs an GN cn (enc L) _ (by omega) (by omega) Rb10 Rn10).mono ?_
        rintro e w11 ⟨rfl, o11, b11⟩
        obtain ⟨ac, cc, ec, Rc11, -⟩ := own_row o11
        simp only [Value.slice.injEq, true_and] at ec
        obtain ⟨rfl, rfl⟩ := ec
        have Rw11 := RowAt.below Rw10 b11
        have BF := hid (B10.out.trans (b11.mono B10.out.size))
        clear o11 b11 Rb10 Rn10 Rw10
        go_wp2_with fail
        refine (equal_is aw G cw _ _ _ _ _ true _ (by omega) (by omega) Rw11 Rc11 (by unfold eqB; exact decide_eq_true rfl)).mono ?_
        rintro e w12 ⟨rfl, m12, rfl⟩
        go_wp2
        go_ret
        exact ⟨rfl, below_drewN BF.out _⟩
      · have g1 : ((k : Int) == 0) = false := by rw [beq_eq_false_iff_ne]; omega
        by_cases hkn : k = len1
        · have g2 : ((k : Int) == (len1 : Int)) = true := by rw [beq_iff_eq]; omega
          have HEQ : Hid (eqB (xs ++ enc (L.take k) ++ enc (L.drop k)) (xs ++ enc L) = true) := by
            show eqB _ _ = true
            unfold eqB
            exact decide_eq_true (by rw [List.append_assoc, (enc_cut _ L (Nat.le_refl _) k (by rw [HL.out]; exact hk)).1 (by rw [HL.out]; exact .inr (.inl hkn))])
          clear hcell hk0' hkn
          go_wp2
          go_quiet (fail)
          have dq := hid (below_drewN (Below.refl w9.heap.size w9) nq)
          have RJq := RowAt.below RJ9 dq.out
          have Rwq := RowAt.below Rw9 dq.out
          go_wp2_with fail
          refine (equal_is aJ GJ cJ _ aw G cw _ true _ (by omega) (by omega) RJq Rwq HEQ.out).mono ?_
          rintro e w10 ⟨rfl, m10, rfl⟩
          have d10 := hid (below_drewN (Below.refl w9.heap.size w9) (nq + m10))
          have Rb10 := RowAt.below Rb9 d10.out
          have Rn10 := RowAt.below Rn9 d10.out
          have Rw10 := RowAt.below Rw9 d10.out
          have B10 := hid (below_drewN B9.out (nq + m10))
          clear RJq Rwq RJ9 Rw9 Rb9 Rn9
          go_wp2_with fail
          refine (concat_any ab len0 cb xs an GN cn (enc L) _ (by omega) (by omega) Rb10 Rn10).mono ?_
          rintro e w11 ⟨rfl, o11, b11⟩
          obtain ⟨ac, cc, ec, Rc11, -⟩ := own_row o11
          simp only [Value.slice.injEq, true_and] at ec
          obtain ⟨rfl, rfl⟩ := ec
          have Rw11 := RowAt.below Rw10 b11
          have BF := hid (B10.out.trans (b11.mono B10.out.size))
          clear o11 b11 Rb10 Rn10 Rw10
          go_wp2_with fail
          refine (equal_is aw G cw _ _ _ _ _ true _ (by omega) (by omega) Rw11 Rc11 (by unfold eqB; exact decide_eq_true rfl)).mono ?_
          rintro e w12 ⟨rfl, m12, rfl⟩
          go_wp2
          go_ret
          exact ⟨rfl, below_drewN BF.out _⟩
        · have g2 : ((k : Int) == (len1 : Int)) = false := by rw [beq_eq_false_iff_ne]; omega
          obtain ⟨b, off, rfl, hc⟩ := hcell (by omega)
          have c1 := hc (k - 1) (by omega)
          have c2 := hc k (by omega)
          have k1 : (k : Int) - 1 < (len1 : Int) := by omega
          have k2 : (0 : Int) ≤ (k : Int) - 1 := by omega
          have k3 : ((k : Int) - 1).toNat = k - 1 := by omega
          have k4 : (k : Int) < (len1 : Int) := by omega
          have k5 : IntKind.i64.wrap ((k : Int) - 1) = (k : Int) - 1 := by rw [IntKind.wrap_i64]; omega
          have x1 : L.getD (k - 1) 0 < 65536 := H16.out _ ((mem_getD _ _).2 ⟨k - 1, by rw [HL.out]; omega, rfl⟩)
          have x2 : L.getD k 0 < 65536 := H16.out _ ((mem_getD _ _).2 ⟨k, by rw [HL.out]; omega, rfl⟩)
          by_cases hbd : L.getD (k - 1) 0 / 256 = L.getD k 0 / 256
          · have g3 : (((L.getD (k - 1) 0 : Nat) : Int) / 256 != ((L.getD k 0 : Nat) : Int) / 256) = false := by rw [bne_eq_false_iff_eq]; omega
            have HEQ : Hid (eqB (xs ++ enc (L.take k) ++ enc (L.drop k)) (xs ++ enc L) = false) := by
              show eqB _ _ = false
              unfold eqB
              refine decide_eq_false fun e => ?_
              have h1 := (enc_cut _ L (Nat.le_refl _) k (by rw [HL.out]; exact hk)).2 ⟨by omega, by rw [HL.out]; omega, hbd⟩
              have h2 := congrArg List.length e
              simp only [List.length_append] at h2
              omega
            generalize L.getD (k - 1) 0 = x at c1 g3 x1
            generalize L.getD k 0 = y at c2 g3 x2
            clear hc hk0' hkn hbd hcell

            go_wp2
            go_quiet (fail)
            have dq := hid (below_drewN (Below.refl w9.heap.size w9) nq)
            have RJq := RowAt.below RJ9 dq.out
            have Rwq := RowAt.below Rw9 dq.out
            go_wp2_with fail
            refine (equal_is aJ GJ cJ _ aw G cw _ false _ (by omega) (by omega) RJq Rwq HEQ.out).mono ?_
            rintro e w10 ⟨rfl, m10, rfl⟩
            have d10 := hid (below_drewN (Below.refl w9.heap.size w9) (nq + m10))
            have Rb10 := RowAt.below Rb9 d10.out
            have Rn10 := RowAt.below Rn9 d10.out
            have Rw10 := RowAt.below Rw9 d10.out
            have B10 := hid (below_drewN B9.out (nq + m10))
            clear RJq Rwq RJ9 Rw9 Rb9 Rn9
            go_wp2_with fail
            refine (concat_any ab len0 cb xs an GN cn (enc L) _ (by omega) (by omega) Rb10 Rn10).mono ?_
            rintro e w11 ⟨rfl, o11, b11⟩
            obtain ⟨ac, cc, ec, Rc11, -⟩ := own_row o11
            simp only [Value.slice.injEq, true_and] at ec
            obtain ⟨rfl, rfl⟩ := ec
            have Rw11 := RowAt.below Rw10 b11
            have BF := hid (B10.out.trans (b11.mono B10.out.size))
            clear o11 b11 Rb10 Rn10 Rw10
            go_wp2_with fail
            refine (equal_is aw G cw _ _ _ _ _ true _ (by omega) (by omega) Rw11 Rc11 (by unfold eqB; exact decide_eq_true rfl)).mono ?_
            rintro e w12 ⟨rfl, m12, rfl⟩
            go_wp2
            go_ret
            exact ⟨rfl, below_drewN BF.out _⟩
          · have g3 : (((L.getD (k - 1) 0 : Nat) : Int) / 256 != ((L.getD k 0 : Nat) : Int) / 256) = true := by rw [bne_iff_ne]; omega
            have HEQ : Hid (eqB (xs ++ enc (L.take k) ++ enc (L.drop k)) (xs ++ enc L) = true) := by
              show eqB _ _ = true
              unfold eqB
              exact decide_eq_true (by rw [List.append_assoc, (enc_cut _ L (Nat.le_refl _) k (by rw [HL.out]; exact hk)).1 (by rw [HL.out]; exact .inr (.inr hbd))])
            generalize L.getD (k - 1) 0 = x at c1 g3 x1
            generalize L.getD k 0 = y at c2 g3 x2
            clear hc hk0' hkn hbd hcell

            go_wp2
            go_quiet (fail)
            have dq := hid (below_drewN (Below.refl w9.heap.size w9) nq)
            have RJq := RowAt.below RJ9 dq.out
            have Rwq := RowAt.below Rw9 dq.out
            go_wp2_with fail
            refine (equal_is aJ GJ cJ _ aw G cw _ true _ (by omega) (by omega) RJq Rwq HEQ.out).mono ?_
            rintro e w10 ⟨rfl, m10, rfl⟩
            have d10 := hid (below_drewN (Below.refl w9.heap.size w9) (nq + m10))
            have Rb10 := RowAt.below Rb9 d10.out
            have Rn10 := RowAt.below Rn9 d10.out
            have Rw10 := RowAt.below Rw9 d10.out
            have B10 := hid (below_drewN B9.out (nq + m10))
            clear RJq Rwq RJ9 Rw9 Rb9 Rn9
            go_wp2_with fail
            refine (concat_any ab len0 cb xs an GN cn (enc L) _ (by omega) (by omega) Rb10 Rn10).mono ?_
            rintro e w11 ⟨rfl, o11, b11⟩
            obtain ⟨ac, cc, ec, Rc11, -⟩ := own_row o11
            simp only [Value.slice.injEq, true_and] at ec
            obtain ⟨rfl, rfl⟩ := ec
            have Rw11 := RowAt.below Rw10 b11
            have BF := hid (B10.out.trans (b11.mono B10.out.size))
            clear o11 b11 Rb10 Rn10 Rw10
            go_wp2_with fail
            refine (equal_is aw G cw _ _ _ _ _ true _ (by omega) (by omega) Rw11 Rc11 (by unfold eqB; exact decide_eq_true rfl)).mono ?_
            rintro e w12 ⟨rfl, m12, rfl⟩
            go_wp2
            go_ret
            exact ⟨rfl, below_drewN BF.out _⟩
  · have hsf : sortedB L = false := by simpa using hsort
    go_wp2
    go_ret
    exact ⟨rfl, below_drewN (Below.refl _ _) _⟩

end Go.Proofs.Qxb6003660a
