import Derived.Test.Qxb6003660aLawBig
import Derived.Test.Qxb6003660aClone
import Derived.Test.Qxb6003660aClone16
import Derived.Test.Qxb6003660aPrefix
import Derived.Test.Qxb6003660aDecode
import Derived.Test.Qxb6003660aZZ
namespace Go.Proofs.Qxb6003660a
open Go.RowKit Plain

theorem hid {p : Prop} (h : p) : Hid p := h

theorem bytes27_small (a0 : Option Addr) (len0 cap0 : Nat) (a1 : Option Addr) (len1 cap1 : Nat) (w : World) (h : len0 + len1 ≤ 1048576) :
    Calls Try.prog 27 #[.slice a0 len0 cap0, .slice a1 len1 cap1] w fun e w' => e = .returned (.bool true) ∧ w = w' := by
  go_enter Try.func27, Try.ntmps27
  go_wp2
  go_ret
  exact ⟨rfl, rfl⟩

/-- The copy, its value written out. -/
theorem clone_sl (a : Option Addr) (n cap : Nat) (zs : List Nat) (w : World) (hn : n ≤ 4194304) (hr : RowAt .u8 w a n cap zs) :
    Calls Try.prog 11 #[.slice a n cap] w fun e w' => ∃ a' cap', e = .returned (.slice a' n cap') ∧ w'.ownsRow w.heap.size 5 1 (.slice a' n cap') n (ints .u8 zs) ∧ RowAt .u8 w' a' n cap' zs ∧ Below w.heap.size w w' := by
  refine (clone_any a n cap zs w hn hr).mono ?_
  rintro e w' ⟨v, rfl, ho, hb⟩
  obtain ⟨a', cap', rfl, hR, _⟩ := own_row ho
  exact ⟨a', cap', rfl, ho, hR, hb⟩

theorem clone16_sl (a : Option Addr) (n cap : Nat) (zs : List Nat) (w : World) (hn : n ≤ 4194304) (hr : RowAt .u16 w a n cap zs) :
    Calls Try.prog 29 #[.slice a n cap] w fun e w' => ∃ a' cap', e = .returned (.slice a' n cap') ∧ RowAt .u16 w' a' n cap' zs ∧ Below w.heap.size w w' := by
  refine (clone16_any a n cap zs w hn hr).mono ?_
  rintro e w' ⟨v, rfl, ho, hb⟩
  obtain ⟨a', cap', rfl, hR, _⟩ := own_row ho
  exact ⟨a', cap', rfl, hR, hb⟩

theorem dedup_sl (a : Option Addr) (n cap : Nat) (s D : List Nat) (nD : Nat) (w : World) (hn : n ≤ 67108864) (hr : RowAt .u16 w a n cap s) (hD : ddTo s n = D) (hnD : D.length = nD) :
    Calls Try.prog 32 #[.slice a n cap] w fun e w' => ∃ a' cap', e = .returned (.slice a' nD cap') ∧ RowAt .u16 w' a' nD cap' D ∧ Below w.heap.size w w' := by
  refine (dedup_any a n cap s w hn hr).mono ?_
  rintro e w' ⟨v, rfl, ho, hb⟩
  rw [hD, hnD] at ho
  obtain ⟨a', cap', rfl, hR, _⟩ := own_row ho
  exact ⟨a', cap', rfl, hR, hb⟩

theorem decode_sl (a : Option Addr) (n cap : Nat) (bs : List (Nat × List Nat)) (D : List Nat) (nD : Nat) (w : World) (hn : n ≤ 67108864) (hr : RowAt .u8 w a n cap (ser bs)) (hch : chainF (-1) bs) (hD : decOut bs = D) (hnD : D.length = nD) :
    Calls Try.prog 31 #[.slice a n cap] w fun e w' => ∃ a' cap', e = .returned (.tuple #[.slice a' nD cap', .bool true]) ∧ RowAt .u16 w' a' nD cap' D ∧ Below w.heap.size w w' := by
  refine (decode_any a n cap bs w hn hr hch).mono ?_
  rintro e w' ⟨v, rfl, ho, hb⟩
  rw [hD, hnD] at ho
  obtain ⟨a', cap', rfl, hR, _⟩ := own_row ho
  exact ⟨a', cap', rfl, hR, hb⟩

/-- The rest of a slice behind its first m numbers. -/
theorem RowAt.tail {k : IntKind} {w : World} {a : Option Addr} {n cap m : Nat} {zs ys : List Nat} (h : RowAt k w a n cap zs) (hm : m ≤ n) (hy : zs.drop m = ys) : RowAt k w (a.map fun x => x.add m) (n - m) (cap - m) ys := by
  obtain ⟨h1, h2, h3, h4, h5⟩ := h
  subst hy
  refine ⟨by rw [List.length_drop, h1], by omega, by omega, fun e => ?_, fun hp => ?_⟩
  · have := h4 (by simpa using e)
    omega
  · obtain ⟨b, off, rfl, hc⟩ := h5 (by omega)
    refine ⟨b, off + m, by simp [Addr.add], fun i hi => ?_⟩
    rw [Nat.add_assoc, hc (m + i) (by omega)]
    simp [List.getD_eq_getElem?_getD, List.getElem?_drop]

theorem RowAt.tail0 {k : IntKind} {w : World} {a : Option Addr} {n cap m : Nat} {zs ys : List Nat} (h : RowAt k w a n cap zs) (hm : m ≤ n) (hc : cap = m) (hy : zs.drop m = ys) : RowAt k w a (n - m) 0 ys := by
  obtain ⟨h1, h2, h3, h4, h5⟩ := h
  subst hy
  exact ⟨by rw [List.length_drop, h1], by omega, by simp [maxLen], fun e => ⟨by omega, rfl⟩, fun hp => by omega⟩

/-- The appending, onto a copy that the caller owns from B on: a list that lies beneath B. -/
theorem zz_sl (B : Nat) (v0 : Value) (xs : List Nat) (a : Option Addr) (n cap : Nat) (L : List Nat) (G : Nat) (w : World) (hn : n ≤ 1048576) (hx : xs.length ≤ 67108864) (h16 : ∀ t ∈ L, t < 65536)
    (hB : B ≤ w.heap.size) (hown0 : w.ownsRow B 5 1 v0 xs.length (ints .u8 xs)) (hr : RowAt .u16 w a n cap L) (hlow : ∀ b off, a = some ⟨b, off, none⟩ → 0 < n → b < B) (hG : (xs ++ enc L).length = G) :
    Calls Try.prog 30 #[v0, .slice a n cap] w fun e w' => ∃ a' cap', e = .returned (.slice a' G cap') ∧ w'.ownsRow B 5 1 (.slice a' G cap') G (ints .u8 (xs ++ enc L)) ∧ RowAt .u8 w' a' G cap' (xs ++ enc L) ∧ Below B w w' := by
  refine (zz_any B v0 xs a n cap L w hn hx h16 hB hown0 ⟨hr, fun hp b off e h => ?_⟩).mono ?_
  · have h1 := (hown0.lt b h).1
    have h2 := hlow b off e hp
    omega
  · rintro e w' ⟨v, rfl, ho, hap⟩
    rw [hG] at ho
    obtain ⟨a', cap', rfl, hR, _⟩ := own_row ho
    exact ⟨a', cap', rfl, ho, hR, hap.toBelow hB (fun g hg => (hown0.lt g hg).1)⟩

theorem prefix_yes (a : Option Addr) (n cap : Nat) (s : List Nat) (a' : Option Addr) (n' cap' : Nat) (p : List Nat) (w : World) (hn : n ≤ 67108864) (hn' : n' ≤ 67108864) (hr : RowAt .u8 w a n cap s) (hr' : RowAt .u8 w a' n' cap' p) (hp : pre s p = true) :
    Calls Try.prog 13 #[.slice a n cap, .slice a' n' cap'] w fun e w' => e = .returned (.bool true) ∧ ∃ m, w' = w.drewN m := by
  refine (prefix_any a n cap s a' n' cap' p w hn hn' hr hr').mono ?_
  rintro e w' ⟨rfl, h⟩
  exact ⟨by rw [hp], h⟩

theorem enc_length (f : Nat) (L : List Nat) (hf : L.length ≤ f) : (enc L).length ≤ 34 * L.length := by
  induction f generalizing L with
  | zero =>
    have : L = [] := by simpa using hf
    subst this; simp [enc_nil]
  | succ f ih =>
    by_cases hne : L = []
    · subst hne; simp [enc_nil]
    · rw [enc_step L hne, List.length_append, serB_length]
      obtain ⟨t, ts, rfl⟩ := List.exists_cons_of_ne_nil hne
      have hp := run_pos t ts
      have hl := run_le (t / 256) (t :: ts)
      simp only [List.headD_cons]
      generalize run (t / 256) (t :: ts) = n at *
      have := ih ((t :: ts).drop n) (by rw [List.length_drop]; simp at hf ⊢; omega)
      rw [List.length_drop] at this
      omega

/-- A row that is read lies beneath the world's size. -/
theorem RowAt.lt {k : IntKind} {w : World} {a : Option Addr} {n cap : Nat} {zs : List Nat} (h : RowAt k w a n cap zs) : ∀ b off, a = some ⟨b, off, none⟩ → 0 < n → b < w.heap.size := by
  intro b off e hp
  obtain ⟨b', off', e', hc⟩ := h.2.2.2.2 hp
  rw [e] at e'
  simp only [Option.some.injEq, Addr.mk.injEq, and_true] at e'
  rw [e'.1]
  exact World.block_lt_of_cell? w _ (hc 0 hp)

theorem pre_append (a b : List Nat) : pre (a ++ b) a = true := by
  refine pre_all (by simp) fun i hi => ?_
  simp only [List.getD_eq_getElem?_getD]
  rw [List.getElem?_append_left hi]

set_option maxHeartbeats 2000000 in
theorem decode_small (a0 : Option Addr) (len0 cap0 : Nat) (xs : List Nat) (a1 : Option Addr) (len1 cap1 : Nat) (L : List Nat) (w : World) (hs : len0 + 8 * len1 ≤ 1048576) (h16 : ∀ t ∈ L, t < 65536)
    (hr0 : RowAt .u8 w a0 len0 cap0 xs) (hr1 : RowAt .u16 w a1 len1 cap1 L) :
    Calls Try.prog 7 #[.slice a0 len0 cap0, .slice a1 len1 cap1] w fun e w' => e = .returned (.bool true) ∧ Below w.heap.size w w' := by
  have HX := hid hr0.1
  have HL := hid hr1.1
  have R0 := hid hr0
  have R1 := hid hr1
  have H16 := hid h16
  clear hr0 hr1 h16
  go_enter Try.func7, Try.ntmps7
  go_wp2_with fail
  refine (bytes27_small a0 len0 cap0 a1 len1 cap1 _ (by omega)).mono ?_
  rintro e w' ⟨rfl, rfl⟩
  go_wp2_with fail
  refine (sorted_any a1 len1 cap1 L _ (by omega) R1.out).mono ?_
  rintro e w1 ⟨rfl, m1, rfl⟩
  by_cases hsort : sortedB L = true
  · have HS := hid (sorted_of hsort)
    have B1 := hid (below_drewN (Below.refl w.heap.size w) m1)
    go_wp2_with fail
    refine (clone_sl a0 len0 cap0 xs _ (by omega) (RowAt.below R0.out B1.out)).mono ?_
    rintro e w2 ⟨ab, cb, rfl, -, Rb2, b2⟩
    have Rl2 := RowAt.below R1.out (B1.out.trans b2)
    have B2 := hid (B1.out.trans b2)
    clear b2 B1
    go_wp2_with fail
    refine (clone16_sl a1 len1 cap1 L _ (by omega) Rl2).mono ?_
    rintro e w3 ⟨al, cl, rfl, Rl3, b3⟩
    have Rb3 := RowAt.below Rb2 b3
    have B3 := hid (B2.out.trans (b3.mono B2.out.size))
    clear b3 B2 Rb2 Rl2
    go_wp2_with fail
    refine (clone_sl ab len0 cb xs _ (by omega) Rb3).mono ?_
    rintro e w4 ⟨aw, cw, rfl, -, Rw4, b4⟩
    have Rb4 := RowAt.below Rb3 b4
    have Rl4 := RowAt.below Rl3 b4
    have B4 := hid (B3.out.trans (b4.mono B3.out.size))
    clear b4 B3 Rb3 Rl3
    go_wp2_with fail
    refine (clone_sl ab len0 cb xs _ (by omega) Rb4).mono ?_
    rintro e w5 ⟨at5, ct5, rfl, o5, -, b5⟩
    go_wp2_with fail
    obtain ⟨G, HG⟩ : ∃ G, Hid ((xs ++ enc L).length = G) := ⟨_, rfl⟩
    have hG1 : len0 ≤ G := by have := HG.out; rw [List.length_append, HX.out] at this; omega
    have hG2 : G ≤ 40000000 := by have := HG.out; have h2 := enc_length _ L (Nat.le_refl _); rw [List.length_append, HX.out] at this; rw [HL.out] at h2; omega
    refine (zz_sl w4.heap.size _ xs al len1 cl L G _ (by omega) (by rw [HX.out]; omega) H16.out b5.size (by rw [HX.out]; exact o5) (RowAt.below Rl4 b5) Rl4.lt HG.out).mono ?_
    rintro e w6 ⟨ag, cg, rfl, -, Rg6, b6⟩
    have b46 := hid (b5.trans b6)
    clear b5 b6 o5
    go_wp2_with fail
    refine (prefix_yes ag G cg _ aw len0 cw xs _ (by omega) (by omega) Rg6 (RowAt.below Rw4 b46.out) (pre_append _ _)).mono ?_
    rintro e w7 ⟨rfl, m7, rfl⟩
    have b47 := hid (below_drewN b46.out m7)
    have Rg7 := RowAt.below Rg6 (below_drewN (Below.refl _ _) m7)
    clear b46 Rg6
    obtain ⟨D, HD⟩ : ∃ D, Hid (ddTo L len1 = D) := ⟨_, rfl⟩
    obtain ⟨nD, HND⟩ : ∃ nD, Hid (D.length = nD) := ⟨_, rfl⟩
    have hnD : nD ≤ 1048576 := by have := ddTo_length L len1; rw [HD.out, HND.out] at this; omega
    have HDD : Hid (decOut (blocks L) = D) := by show decOut (blocks L) = D; rw [decOut_eq L HS.out H16.out, HL.out, HD.out]
    have HDR : Hid ((xs ++ enc L).drop len0 = ser (blocks L)) := by show List.drop len0 (xs ++ enc L) = _; rw [← HX.out, List.drop_left]; rfl
    have HCH := hid (chain_blocks L HS.out H16.out)
    by_cases hcg : cg = len0
    · have RT := hid (Rg7.tail0 hG1 hcg HDR.out)
      go_wp2_with fail
      refine (decode_sl ag (G - len0) 0 (blocks L) D nD (w6.drewN m7) (by omega) RT.out HCH.out HDD.out HND.out).mono ?_
      rintro e w8 ⟨ad, cd, rfl, Rd8, b8⟩
      have b48 := hid (b47.out.trans (b8.mono b47.out.size))
      clear b8 Rg7
      go_wp2_with fail
      refine (dedup_sl al len1 cl L D nD _ (by omega) (RowAt.below Rl4 b48.out) HD.out HND.out).mono ?_
      rintro e w9 ⟨as9, cs9, rfl, Rs9, b9⟩
      have Rd9 := RowAt.below Rd8 b9
      have b49 := hid (b48.out.trans (b9.mono b48.out.size))
      have BF := hid (B4.out.trans (b49.out.mono B4.out.size))
      clear b9 Rd8
      obtain ⟨_, _, _, _, hcd⟩ := Rd9
      obtain ⟨_, _, _, _, hcs⟩ := Rs9
      clear Rb4 Rw4 Rl4
      go_wp2
      go_loopw [10] (fun i wr => ∃ k : Nat, k ≤ nD ∧ i = .int .i64 k ∧ ∃ m, wr = w9.drewN m) (fun i _ => nD - (intOf i).toNat)
      case atStart => exact ⟨0, Nat.zero_le _, rfl, 0, rfl⟩
      case round =>
        obtain ⟨k, hk, rfl, m, rfl⟩ := hrel
        by_cases hlt : k < nD
        · obtain ⟨b, off, rfl, hc⟩ := hcd (by omega)
          obtain ⟨b', off', rfl, hc'⟩ := hcs (by omega)
          have h1 := hc k hlt
          have h2 := hc' k hlt
          have hkn : (k : Int) < (nD : Int) := by omega
          generalize D.getD k 0 = z at h1 h2
          clear hc hc' hcd hcs
          go_wp2
          go_quiet (fail)
          go_wp2
          go_roundw
          case rel => exact ⟨k + 1, by omega, by go_num, m + nq, by first | rfl | rw [World.drewN_drewN]⟩
          case measure => simp [intOf]; omega
        · clear hcd hcs
          go_wp2
          go_ret
          exact ⟨rfl, below_drewN BF.out _⟩
    · have RT := hid (Rg7.tail hG1 HDR.out)
      go_wp2_with fail
      refine (decode_sl (ag.map fun x => x.add len0) (G - len0) (cg - len0) (blocks L) D nD (w6.drewN m7) (by omega) RT.out HCH.out HDD.out HND.out).mono ?_
      rintro e w8 ⟨ad, cd, rfl, Rd8, b8⟩
      have b48 := hid (b47.out.trans (b8.mono b47.out.size))
      clear b8 Rg7
      go_wp2_with fail
      refine (dedup_sl al len1 cl L D nD _ (by omega) (RowAt.below Rl4 b48.out) HD.out HND.out).mono ?_
      rintro e w9 ⟨as9, cs9, rfl, Rs9, b9⟩
      have Rd9 := RowAt.below Rd8 b9
      have b49 := hid (b48.out.trans (b9.mono b48.out.size))
      have BF := hid (B4.out.trans (b49.out.mono B4.out.size))
      clear b9 Rd8
      obtain ⟨_, _, _, _, hcd⟩ := Rd9
      obtain ⟨_, _, _, _, hcs⟩ := Rs9
      clear Rb4 Rw4 Rl4
      go_wp2
      go_loopw [10] (fun i wr => ∃ k : Nat, k ≤ nD ∧ i = .int .i64 k ∧ ∃ m, wr = w9.drewN m) (fun i _ => nD - (intOf i).toNat)
      case atStart => exact ⟨0, Nat.zero_le _, rfl, 0, rfl⟩
      case round =>
        obtain ⟨k, hk, rfl, m, rfl⟩ := hrel
        by_cases hlt : k < nD
        · obtain ⟨b, off, rfl, hc⟩ := hcd (by omega)
          obtain ⟨b', off', rfl, hc'⟩ := hcs (by omega)
          have h1 := hc k hlt
          have h2 := hc' k hlt
          have hkn : (k : Int) < (nD : Int) := by omega
          generalize D.getD k 0 = z at h1 h2
          clear hc hc' hcd hcs
          go_wp2
          go_quiet (fail)
          go_wp2
          go_roundw
          case rel => exact ⟨k + 1, by omega, by go_num, m + nq, by first | rfl | rw [World.drewN_drewN]⟩
          case measure => simp [intOf]; omega
        · clear hcd hcs
          go_wp2
          go_ret
          exact ⟨rfl, below_drewN BF.out _⟩
  · have hsf : sortedB L = false := by simpa using hsort
    go_wp2
    go_ret
    exact ⟨rfl, below_drewN (Below.refl _ _) _⟩

end Go.Proofs.Qxb6003660a
