import Derived.Test.Qxb6003660aAp
import Derived.Test.Qxb6003660aBitWalk
namespace Go.Proofs.Qxb6003660a
open Go.RowKit Plain

theorem lay_val (y x : Nat) (hy : y < 256) : bits .or .u8 (y : Int) (128 / 2 ^ (x % 8)) = ((y ||| (128 >>> (x % 256 % 8)) : Nat) : Int) := by
  have hs := Plain.shift_lt (x % 8) (by omega)
  rw [shr128 (x % 8) (by omega), ← hs.2, show x % 256 % 8 = x % 8 by omega]
  exact u8_or_nat y _ hy hs.1

theorem ints_set (k : IntKind) (l : List Nat) (j z : Nat) : (ints k l).set j (.int k (z : Int)) = ints k (l.set j z) := by
  simp [ints, List.map_set]

theorem bm_store (S : List Nat) (m x y : Nat) (hm : m < S.length) (hx : x = S.getD m 0) (hy : y = (bm ((S.take m).map (· % 256))).getD (x % 256 / 8) 0) :
    (ints .u8 (bm ((S.take m).map (· % 256)))).set (x % 256 / 8) (.int .u8 (bits .or .u8 (y : Int) (128 / 2 ^ (x % 8)))) = ints .u8 (bm ((S.take (m + 1)).map (· % 256))) := by
  have hy256 : y < 256 := by
    rw [hy]
    exact bm_lt _ _ ((mem_getD _ _).2 ⟨x % 256 / 8, by rw [bm_length]; omega, rfl⟩)
  rw [lay_val y x hy256, ints_set, List.take_succ_eq_append_getElem hm, List.map_append, List.map_cons, List.map_nil, bm_snoc]
  have e : S[m] = x := by rw [hx]; simp [hm]
  rw [e]
  unfold lay
  rw [← hy]

/-- The map's octets still lie there behind an append elsewhere. -/
theorem bm_news {wr w1 : World} {o : Obj} {g : Nat} {cur : Array Value} {row : Option Nat} {l : List Nat} (hb : wr.heap[g]? = some (.cells cur 60 (0, 0))) (hc : cur.toList = ints .u8 l) (hg : (wr.alloc o).grownBy w1 row) (hlt : g < wr.heap.size) (hne : row ≠ some g) (sz : Nat) :
    ∀ j u, (ints .u8 (l.take sz))[j]? = some u → w1.cell? ((⟨g, 0, none⟩ : Addr).add j) = some u := by
  intro j u hu
  have h1 : w1.heap[g]? = some (.cells cur 60 (0, 0)) := by
    rw [hg.block g (by simp; omega) (fun e => hne e.symm), Below.heap_alloc _ _ _ hlt]; exact hb
  rw [Addr.add_lit, Nat.zero_add, cell_of_row _ _ _ _ _ _ h1]
  have h2 : cur[j]? = (ints .u8 l)[j]? := by rw [← hc]; simp
  rw [h2]
  unfold ints at hu ⊢
  rw [List.map_take, List.getElem?_take] at hu
  split at hu
  · exact hu
  · cases hu

/-- What a window's block looks like in memory. -/
theorem block_ints (S : List Nat) (m t0 l : Nat) (hm1 : 1 ≤ m) (hmS : m ≤ S.length) (ht : t0 = S.getD 0 0) (hl : l = S.getD (m - 1) 0) :
    [Value.int .u8 ((t0 : Int) / 256), Value.int .u8 ((l : Int) % 256 / 8 + 1)] ++ ints .u8 ((bm ((S.take m).map (· % 256))).take (l % 256 / 8 + 1)) = ints .u8 (serB (blockOf (S.take m))) := by
  have h1 : (S.take m).headD 0 = t0 := by
    rw [ht, List.headD_eq_head?_getD, List.head?_take, if_neg (by omega), List.head?_eq_getElem?, ← List.getD_eq_getElem?_getD]
  have h2 : (S.take m).getLastD 0 = l := by rw [hl]; exact getLastD_take S m hm1 hmS
  have h3 : ((bm ((S.take m).map (· % 256))).take (l % 256 / 8 + 1)).length = l % 256 / 8 + 1 := by rw [List.length_take, bm_length]; omega
  unfold serB blockOf
  simp only [h1, h2, h3]
  unfold ints
  simp only [List.map_cons, List.cons_append, List.nil_append]
  congr 2

theorem round_close {w : World} {v0 : Value} {xs acc L : List Nat} {n p N m t0 l cp b off : Nat} {B : Nat} {v2 w2 : _} (HN : N = n - p) (hp : p ≤ n) (hm : m ≤ N) (hm1 : 1 ≤ m) (hLX : (L.drop p).length = n - p)
    (hR : RowX .u16 w (some ⟨b, off, none⟩) (n - p) cp (L.drop p) v0.ownBlock) (hA : acc ++ enc (L.drop p) = enc L) (hal : acc.length ≤ 34 * p)
    (hT0 : t0 = (L.drop p).getD 0 0) (hLL : l = (L.drop p).getD (m - 1) 0) (hRUN : run (t0 / 256) (L.drop p) = m)
    (ho : World.ownsRow w2 B 5 1 v2 ((xs ++ acc).length + 2 + (l % 256 / 8 + 1)) (ints .u8 (xs ++ acc) ++ ([Value.int .u8 ((t0 : Int) / 256), Value.int .u8 ((l : Int) % 256 / 8 + 1)] ++ ints .u8 ((bm (((L.drop p).take m).map (· % 256))).take (l % 256 / 8 + 1)))))
    (hap : Ap w w2 v0 v2) :
    ∃ (p' : Nat) (acc' : List Nat) (ao : Option Addr) (cp' : Nat), p' ≤ n ∧ Value.slice (if cp = m then some ⟨b, off, none⟩ else some ⟨b, off + m, none⟩) (N - m) (cp - m) = .slice ao (n - p') cp' ∧ RowX .u16 w ao (n - p') cp' (L.drop p') v0.ownBlock ∧ acc' ++ enc (L.drop p') = enc L ∧ acc'.length ≤ 34 * p' ∧ w2.ownsRow B 5 1 v2 (xs ++ acc').length (ints .u8 (xs ++ acc')) ∧ Ap w w2 v0 v2 := by
  have hne : L.drop p ≠ [] := by intro h; rw [h] at hLX; simp at hLX; omega
  have hhd : (L.drop p).headD 0 = t0 := by
    rw [hT0, List.headD_eq_head?_getD, List.head?_eq_getElem?, ← List.getD_eq_getElem?_getD]
  have hstep := enc_step (L.drop p) hne
  rw [hhd, hRUN, List.drop_drop] at hstep
  have hcpn : n - p ≤ cp := hR.1.2.1
  have hcpm : cp ≤ maxLen := hR.1.2.2.1
  have e1 : n - (p + m) = n - p - m := by omega
  refine ⟨p + m, acc ++ serB (blockOf ((L.drop p).take m)), _, cp - m, by omega, by rw [e1, HN], ?_, ?_, ?_, ?_, hap⟩
  · rw [e1, ← List.drop_drop]
    refine hR.drop rfl (by omega) (by split <;> simp) (fun h => by rw [if_neg (by omega)]) (by omega) (by omega)
  · rw [List.append_assoc, ← hstep, hA]
  · rw [List.length_append, serB_length]
    have : ((L.drop p).take m).getLastD 0 % 256 / 8 < 32 := by omega
    omega
  · rw [block_ints (L.drop p) m t0 l hm1 (by omega) hT0 hLL, ← ints_append, List.append_assoc] at ho
    have hlen : (xs ++ (acc ++ serB (blockOf ((L.drop p).take m)))).length = (xs ++ acc).length + 2 + (l % 256 / 8 + 1) := by
      rw [← List.append_assoc, List.length_append, serB_length, getLastD_take _ _ hm1 (by omega), ← hLL]; omega
    rw [hlen]
    exact ho

set_option maxRecDepth 100000 in
set_option maxHeartbeats 1000000 in
theorem append_any (B : Nat) (v0 : Value) (xs : List Nat) (a : Option Addr) (n cap : Nat) (L : List Nat) (w : World) (hn : n ≤ 1048576) (hx : xs.length ≤ 67108864) (h16 : ∀ t ∈ L, t < 65536)
    (hB : B ≤ w.heap.size) (hown0 : w.ownsRow B 5 1 v0 xs.length (ints .u8 xs)) (hr : RowX .u16 w a n cap L v0.ownBlock) :
    Calls Try.prog 37 #[v0, .slice a n cap] w fun e w' => ∃ v, e = .returned v ∧ w'.ownsRow B 5 1 v (xs ++ enc L).length (ints .u8 (xs ++ enc L)) ∧ Ap w w' v0 v := by
  have hl : L.length = n := hr.1.1
  obtain ⟨i0, hi, hz0, hz1, hz2⟩ := info_parts Try.info5
  have H0 : Hid (_) := hr
  have HL : Hid (_) := hl
  clear hr hl
  go_enter Try.func37, Try.ntmps37
  go_wp2
  go_loopw [0, 1] (fun v l wr => ∃ (p : Nat) (acc : List Nat) (ao : Option Addr) (cp : Nat), p ≤ n ∧ l = .slice ao ((n - p : Nat)) cp ∧ RowX .u16 w ao (n - p) cp (L.drop p) v0.ownBlock ∧ acc ++ enc (L.drop p) = enc L ∧ acc.length ≤ 34 * p ∧ wr.ownsRow B 5 1 v (xs ++ acc).length (ints .u8 (xs ++ acc)) ∧ Ap w wr v0 v)
    (fun _ l _ => match l with | .slice _ k _ => k | _ => 0)
  case atStart => exact ⟨0, [], a, cap, Nat.zero_le _, rfl, H0.out, rfl, by simp, by simpa using hown0, Ap.refl _ _⟩
  case round =>
    obtain ⟨p, acc, ao, cp, hp, rfl, hrx, hacc, hal, hown, hap⟩ := hrel
    by_cases hlt : p < n
    · have hlx : (L.drop p).length = n - p := hrx.1.1
      obtain ⟨b, off, rfl, hb, hbne, hc⟩ := hrx.cells hap (by omega)
      have hlen : (0 : Int) < ((n - p : Nat) : Int) := by omega
      have c0 := hc 0 (by omega)
      simp only [Nat.add_zero] at c0
      obtain ⟨t0, HT0⟩ : ∃ t0, Hid (t0 = (L.drop p).getD 0 0) := ⟨_, rfl⟩
      rw [← HT0.out] at c0
      have ht0 : t0 < 65536 := by
        rw [HT0.out]; exact h16 _ (List.mem_of_mem_drop ((mem_getD _ _).2 ⟨0, by omega, rfl⟩))
      obtain ⟨N, HN⟩ : ∃ N, Hid (N = n - p) := ⟨_, rfl⟩
      rw [← HN.out]
      have hN : 0 < N := by have := HN.out; omega
      have hNn : N ≤ 1048576 := by have := HN.out; omega
      have HR : Hid (_) := hrx
      have HC : Hid (_) := hc
      have HA : Hid (_) := hacc
      have HLX : Hid (_) := hlx
      have H16 : Hid (∀ t ∈ L.drop p, t < 65536) := fun t ht => h16 t (List.mem_of_mem_drop ht)
      clear hrx hc hacc hlx hlen h16
      go_wp2
      obtain ⟨wo, rfl⟩ : ∃ wo : World, wo = wr := ⟨_, rfl⟩
      go_loopw [7] (fun c wx => ∃ (m : Nat) (cur : Array Value), m ≤ N ∧ c = .int .i64 m ∧ (∀ i, i < m → (L.drop p).getD i 0 / 256 = t0 / 256) ∧ wx.heap[wo.heap.size]? = some (.cells cur 60 (0, 0)) ∧ cur.toList = ints .u8 (bm (((L.drop p).take m).map (· % 256))) ∧ Below wo.heap.size wo wx ∧ wx.heap.size = wo.heap.size + 1) (fun c _ => N - (intOf c).toNat)
      case atStart => exact ⟨0, _, Nat.zero_le _, rfl, fun i h => by omega, heap_alloc_new _ _, by rw [List.take_zero, List.map_nil, bm_nil]; rfl, (Below.refl _ _).alloc (Nat.le_refl _) _, by simp⟩
      case round =>
        obtain ⟨m, cur, hm, rfl, hin, hblk, hcur, hbel, hsz⟩ := hrel
        have HSZ : Hid (_) := hsz
        have hszle : wo.heap.size < wr.heap.size := by omega
        clear hsz
        by_cases hcont : m < N ∧ (L.drop p).getD m 0 / 256 = t0 / 256
        · obtain ⟨hmn, hw⟩ := hcont
          have cm := (hbel.cell (p := ⟨b, off + m, none⟩) (by have := hap.size; show b < _; omega)).trans (HC.out m (by have := HN.out; omega))
          obtain ⟨x, HX⟩ : ∃ x, Hid (x = (L.drop p).getD m 0) := ⟨_, rfl⟩
          rw [← HX.out] at cm hw
          have hx16 : x < 65536 := by
            rw [HX.out]; exact H16.out _ ((mem_getD _ _).2 ⟨m, by rw [HLX.out]; have := HN.out; omega, rfl⟩)
          have hwB : ((x : Int) / 256 == (t0 : Int) / 256) = true := by rw [beq_iff_eq]; omega
          have HW : Hid (_) := hw
          have cg : wr.cell? ⟨wo.heap.size, x % 256 / 8, none⟩ = some (.int .u8 (((bm (((L.drop p).take m).map (· % 256))).getD (x % 256 / 8) 0 : Nat) : Int)) := by
            rw [cell_of_row _ _ _ _ _ _ hblk, ← ints_get _ _ _ (by rw [bm_length]; omega), ← hcur]; simp
          have fg : wr.frozen? ⟨wo.heap.size, x % 256 / 8, none⟩ = false := frozen_of_row _ _ _ _ _ hblk
          obtain ⟨y, HY⟩ : ∃ y, Hid (y = (bm (((L.drop p).take m).map (· % 256))).getD (x % 256 / 8) 0) := ⟨_, rfl⟩
          rw [← HY.out] at cg
          have HB : Hid (_) := hblk
          have HI : Hid (_) := hin
          have HCU : Hid (_) := hcur
          clear hw hin hblk hcur
          go_wp2
          go_roundw
          case rel =>
            have hst := heap_setCell_same wr wo.heap.size (x % 256 / 8) cur 60 (.int .u8 (bits .or .u8 (y : Int) (128 / 2 ^ (x % 8)))) HB.out
            refine ⟨m + 1, _, by omega, by go_num, fun i hi => ?_, hst, ?_, hbel.setCell (Nat.le_refl _) _, by simp [HSZ.out]⟩
            · by_cases h : i = m
              · rw [h, ← HX.out]; exact HW.out
              · exact HI.out i (by omega)
            · rw [Array.toList_setIfInBounds, HCU.out]
              exact bm_store _ m x y (by rw [HLX.out]; have := HN.out; omega) HX.out HY.out
          case measure => simp [intOf]; omega
        · have hm1 : 1 ≤ m := by
            by_cases h0 : m = 0
            · exact absurd ⟨by omega, by rw [h0, ← HT0.out]⟩ hcont
            · omega
          have HRUN : Hid (run (t0 / 256) (L.drop p) = m) := run_of _ _ m (by rw [HLX.out]; have := HN.out; omega) hin (by
            by_cases h : m < N
            · exact .inr fun e => hcont ⟨h, e⟩
            · left; rw [HLX.out]; have := HN.out; omega)
          have hdec : (m < N ∧ ∃ x : Nat, wr.cell? ⟨b, off + m, none⟩ = some (.int .u16 (x : Int)) ∧ x < 65536 ∧ ((x : Int) / 256 == (t0 : Int) / 256) = false) ∨ ¬ m < N := by
            by_cases h : m < N
            · refine .inl ⟨h, (L.drop p).getD m 0, (hbel.cell (p := ⟨b, off + m, none⟩) (by have := hap.size; show b < _; omega)).trans (HC.out m (by have := HN.out; omega)), H16.out _ ((mem_getD _ _).2 ⟨m, by rw [HLX.out]; have := HN.out; omega, rfl⟩), ?_⟩
              rw [beq_eq_false_iff_ne]
              exact fun e => hcont ⟨h, by omega⟩
            · exact .inr h
          have cl := (hbel.cell (p := ⟨b, off + (m - 1), none⟩) (by have := hap.size; show b < _; omega)).trans (HC.out (m - 1) (by have := HN.out; omega))
          obtain ⟨l, HLL⟩ : ∃ l, Hid (l = (L.drop p).getD (m - 1) 0) := ⟨_, rfl⟩
          rw [← HLL.out] at cl
          have hl16 : l < 65536 := by
            rw [HLL.out]; exact H16.out _ ((mem_getD _ _).2 ⟨m - 1, by rw [HLX.out]; have := HN.out; omega, rfl⟩)
          have k1 : (m : Int) - 1 < (N : Int) := by omega
          have k2 : (0 : Int) ≤ (m : Int) - 1 := by omega
          have k3 : ((m : Int) - 1).toNat = m - 1 := by omega
          have k4 : (0 : Int) ≤ (l : Int) % 256 / 8 + 1 := by omega
          have k5 : (l : Int) % 256 / 8 + 1 ≤ 32 := by omega
          have k6 : ((l : Int) % 256 / 8 + 1).toNat = l % 256 / 8 + 1 := by omega
          obtain ⟨BM, HBM⟩ : ∃ BM, Hid (BM = bm (((L.drop p).take m).map (· % 256))) := ⟨_, rfl⟩
          rw [← HBM.out] at hcur
          have HB : Hid (_) := hblk
          have HCU : Hid (_) := hcur
          have hownx := own_later hown hbel
          have hxl : (xs ++ acc).length ≤ 134217728 := by rw [List.length_append]; omega
          generalize hq : xs ++ acc = q at hownx hxl
          have HQ : Hid (_) := hq
          have hBs := hap.size
          have hown_lt : u0.ownBlock ≠ some wo.heap.size := fun e => by have := (hown.lt _ e).2; omega
          clear hblk hcur hin hcont hq hown
          rcases hdec with ⟨hmn, x, cm, hx16, hwB⟩ | hmn
          all_goals
            go_wp2_with (at_builtin; (refine wpList_append_own_at _ rfl (.tmp 57) (.tmp 61) 22 rfl B 5 i0 (.int .u8 0) 1 1 Try.underlying22 hi hz0 hz1 hz2 rfl (by decide) _ _ _ rfl (hownx.alloc _) ⟨wr.heap.size, 0, none⟩ 2 2 [.int .u8 ((t0 : Int) / 256), .int .u8 ((l : Int) % 256 / 8 + 1)] rfl rfl (cell_two_new _ _ _ _) (by intro u hu; simp at hu; rcases hu with rfl | rfl <;> rfl) (by unfold maxLen; omega) (by omega) (by simp; omega) ?_))
            intro v1 w1 ho1 hg1 _ hl1
            have hs1 : wr.heap.size < w1.heap.size := by have := hg1.size; simp at this; omega
            have hnews := bm_news HB.out HCU.out hg1 hszle hown_lt (l % 256 / 8 + 1)
            have hnl : (ints .u8 (BM.take (l % 256 / 8 + 1))).length = (l % 256 / 8 + 1) * 1 := by rw [ints_length, List.length_take, HBM.out, bm_length]; omega
            go_wp2_with (at_builtin; (refine wpList_append_own_at _ rfl (.tmp 63) (.tmp 65) 22 rfl B 5 i0 (.int .u8 0) 1 1 Try.underlying22 hi hz0 hz1 hz2 rfl (by decide) _ _ _ rfl ho1 ⟨wo.heap.size, 0, none⟩ (l % 256 / 8 + 1) 32 (ints .u8 (BM.take (l % 256 / 8 + 1))) rfl hnl hnews (ints_one _ _) (by unfold maxLen; omega) (by omega) (by omega) ?_))
            intro v2 w2 ho2 hg2 _ hl2
            have hAp2 : Ap w w2 v0 v2 := (((hap.below hbel).below ((Below.refl _ _).alloc (Nat.le_refl _) _)).step hg1 (by simpa using hl1)).step hg2 hl2
            have HO2 : Hid (_) := ho2
            clear ho1 ho2 hg1 hg2 hl1 hl2 hnews hnl
            go_wp2
            go_roundw
            case rel => exact round_close HN.out hp hm hm1 HLX.out HR.out HA.out hal HT0.out HLL.out HRUN.out (by rw [HQ.out, ← HBM.out]; exact HO2.out) hAp2
            case measure => simp; omega
    · have HE : Hid (_) := hacc
      obtain rfl : p = n := by omega
      clear hrx
      go_wp2
      go_ret
      refine ⟨_, rfl, ?_, hap⟩
      have := HE.out
      rw [List.drop_eq_nil_of_le (by rw [HL.out]; exact Nat.le_refl _), enc_nil, List.append_nil] at this
      rw [← this]
      exact hown

end Go.Proofs.Qxb6003660a
