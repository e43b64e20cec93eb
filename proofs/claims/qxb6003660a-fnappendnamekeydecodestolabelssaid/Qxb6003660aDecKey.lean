import Derived.Test.Qxb6003660aLabels
namespace Go.Proofs.Qxb6003660a
open Go.RowKit Plain

theorem Try.info22 : (Try.prog.info? 22).map (fun i => (i.zero, i.size, i.bytes)) = some (some (.slice none 0 0), 1, 24) := by kernel_rfl

/-- Rows of two element types lie apart. -/
theorem own_apart {w : World} {base base' : Nat} {v v' : Value} {n n' : Nat} {xs xs' : List Value} {e e' : TypeId} {size size' : Nat} (h : w.ownsRow base e size v n xs) (h' : w.ownsRow base' e' size' v' n' xs') (hne : e ≠ e') : v.ownBlock = none ∨ v.ownBlock ≠ v'.ownBlock := by
  rcases h'.2 with ⟨rfl, _⟩ | ⟨g', cap, c, rfl, _, hg, _⟩
  · cases hv : v.ownBlock
    · exact .inl rfl
    · right; simp [Value.ownBlock]
  · right
    have := own_ne h hg hne
    simpa [Value.ownBlock] using this

/-- The labels that are done: each in a row of its own, none in the row of the label in hand. -/
def Vals (B : Nat) (w : World) (cv : Value) (done : List (List Nat)) (vals : List Value) : Prop :=
  vals.length = done.length ∧ ∀ j, j < done.length → w.ownsRow B 5 1 (vals.getD j (.slice none 0 0)) (done.getD j []).length (ints .u8 ((done.getD j []).map low)) ∧ (∀ g, (vals.getD j (.slice none 0 0)).ownBlock = some g → cv.ownBlock ≠ some g)

/-- One octet more in the label in hand. -/
theorem Vals.char {B : Nat} {w w1 : World} {o : Obj} {cv cv' : Value} {done : List (List Nat)} {vals : List Value} (h : Vals B w cv done vals) (hg : (w.alloc o).grownBy w1 cv.ownBlock) (hl : cv'.ownBlock = cv.ownBlock ∨ cv'.ownBlock = some (w.alloc o).heap.size) : Vals B w1 cv' done vals := by
  refine ⟨h.1, fun j hj => ?_⟩
  obtain ⟨h1, h2⟩ := h.2 j hj
  refine ⟨(h1.alloc o).kept hg ?_, fun g hgv => ?_⟩
  · cases hv : (vals.getD j (.slice none 0 0)).ownBlock with
    | none => exact .inl rfl
    | some g => right; exact fun e => h2 g hv e.symm
  · rcases hl with e | e
    · rw [e]; exact h2 g hgv
    · rw [e]
      have := (h1.lt g hgv).2
      simp
      omega

/-- A label is done. -/
theorem Vals.lab {B : Nat} {w w1 : World} {o : Obj} {cv lv : Value} {done : List (List Nat)} {vals lvs : List Value} {L : List Nat} {n k : Nat} (h : Vals B w cv done vals) (hc : w.ownsRow B 5 1 cv n (ints .u8 (L.map low))) (hn : n = L.length) (hlv : w.ownsRow B 22 1 lv k lvs) (hg : (w.alloc o).grownBy w1 lv.ownBlock) :
    Vals B w1 (.slice none 0 0) (done ++ [L]) (vals ++ [cv]) := by
  refine ⟨by rw [List.length_append, List.length_append, h.1]; rfl, fun j hj => ⟨?_, fun g hg => by simp [Value.ownBlock]⟩⟩
  rw [List.length_append] at hj
  by_cases hjd : j < done.length
  · have e1 : (vals ++ [cv]).getD j (.slice none 0 0) = vals.getD j (.slice none 0 0) := by
      rw [List.getD_eq_getElem?_getD, List.getElem?_append_left (by rw [h.1]; exact hjd), ← List.getD_eq_getElem?_getD]
    have e2 : (done ++ [L]).getD j [] = done.getD j [] := by
      rw [List.getD_eq_getElem?_getD, List.getElem?_append_left hjd, ← List.getD_eq_getElem?_getD]
    rw [e1, e2]
    have h1 := (h.2 j hjd).1
    exact (h1.alloc o).kept hg (own_apart h1 hlv (by decide))
  · have hje : j = done.length := by simp at hj; omega
    have e1 : (vals ++ [cv]).getD j (.slice none 0 0) = cv := by
      rw [hje, ← h.1, List.getD_eq_getElem?_getD, List.getElem?_append_right (Nat.le_refl _)]; simp
    have e2 : (done ++ [L]).getD j [] = L := by
      rw [hje, List.getD_eq_getElem?_getD, List.getElem?_append_right (Nat.le_refl _)]; simp
    rw [e1, e2, ← hn]
    exact (hc.alloc o).kept hg (own_apart hc hlv (by decide))

theorem headD_cons' (L : List Nat) (rs : List (List Nat)) : (L :: rs).headD [] = L := rfl

set_option maxHeartbeats 2000000 in
theorem deckey_any (a : Option Addr) (n cap : Nat) (lsr : List (List Nat)) (w : World) (hn : n ≤ 4194304) (hok : ∀ l ∈ lsr, 1 ≤ l.length ∧ l.length ≤ 63) (hoct : ∀ l ∈ lsr, ∀ c ∈ l, c < 256) (hr : RowAt .u8 w a n cap (body lsr ++ [0, 0])) :
    Calls Try.prog 14 #[.slice a n cap] w fun e w' => ∃ lv vals, e = .returned (.tuple #[lv, .bool true]) ∧ w'.ownsRow w.heap.size 22 1 lv lsr.length vals ∧ Vals w.heap.size w' (.slice none 0 0) lsr vals ∧ Below w.heap.size w w' := by
  obtain ⟨i5, hi5, hz0, hz1, hz2⟩ := info_parts Try.info5
  obtain ⟨i22, hi22, hy0, hy1, hy2⟩ := info_parts Try.info22
  have HL := hid' hr.1
  have H := hid' hr
  have HOK := hid' hok
  have HOC := hid' hoct
  have hn2 : 2 ≤ n := by have := hr.1; rw [List.length_append] at this; simp at this; omega
  obtain ⟨b, off, ha, hc⟩ := hr.2.2.2.2 (by omega)
  subst ha
  have hb : b < w.heap.size := World.block_lt_of_cell? w _ (hc 0 (by omega))
  have HC : Hid (∀ wx, Below w.heap.size w wx → ∀ j, j < n → wx.cell? ⟨b, off + j, none⟩ = some (.int .u8 (((body lsr ++ [0, 0]).getD j 0 : Nat) : Int))) := fun wx hx j hj => (hx.cell (by exact hb)).trans (hc j hj)
  clear hr hok hoct hc
  go_enter Try.func14, Try.ntmps14
  go_wp2
  go_loopw [4, 5, 6] (fun lv cv i wr => ∃ (done rest : List (List Nat)) (t : Nat) (vals : List Value), lsr = done ++ rest ∧ t ≤ (rest.headD []).length ∧ i = .int .i64 ((body done ++ escs ((rest.headD []).take t)).length : Nat) ∧ wr.ownsRow w.heap.size 5 1 cv t (ints .u8 (((rest.headD []).take t).map low)) ∧ wr.ownsRow w.heap.size 22 1 lv done.length vals ∧ Vals w.heap.size wr cv done vals ∧ Below w.heap.size w wr) (fun _ _ i _ => n - (intOf i).toNat)
  case atStart => exact ⟨[], lsr, 0, [], rfl, Nat.zero_le _, by simp [body, escs], by simp [ints]; exact World.ownsRow_nil _ _ _ _, World.ownsRow_nil _ _ _ _, ⟨rfl, fun j h => by simp at h⟩, Below.refl _ _⟩
  case round =>
    obtain ⟨done, rest, t, vals, hls, ht, rfl, hcv, hlv, hvals, hbel⟩ := hrel
    have hsz := hbel.size
    obtain ⟨x, HX⟩ : ∃ x, Hid ((body done ++ escs ((rest.headD []).take t)).length = x) := ⟨_, rfl⟩
    rw [HX.out]
    obtain ⟨ac, cc, hcs, -, -⟩ := own_row hcv
    subst hcs
    cases rest with
    | nil =>
      have ht0 : t = 0 := by simpa using ht
      subst ht0
      have hd : done = lsr := by rw [hls, List.append_nil]
      subst hd
      have hx : x = (body done).length := by rw [← HX.out]; simp [escs]
      obtain ⟨k1, k2, k3⟩ := key_end done _ rfl x hx
      rw [HL.out] at k3
      have c1 := HC.out wr hbel x (by omega)
      have c2 := HC.out wr hbel (x + 1) (by omega)
      rw [k1] at c1
      rw [k2] at c2
      have hxe : ((x : Int) + 2 != (n : Int)) = false := by rw [bne_eq_false_iff_eq]; omega
      have hx1 : x + 1 < n := by omega
      have HV := hid' hvals
      clear k1 k2 k3 hx hls hvals hcv
      go_wp2
      go_ret2
      refine ⟨_, vals, rfl, hlv, ?_, hbel⟩
      exact ⟨HV.out.1, fun j hj => ⟨(HV.out.2 j hj).1, fun g hg => by simp [Value.ownBlock]⟩⟩
    | cons L rs =>
      simp only [headD_cons'] at ht hcv HX
      have hLm : L ∈ lsr := by rw [hls]; simp
      have hLok := HOK.out L hLm
      have HKE : Hid (body lsr ++ [0, 0] = body (done ++ L :: rs) ++ [0, 0]) := by show _ = _; rw [← hls]
      have HLS := hid' hls
      by_cases htl : t < L.length
      · have hmid := key_mid done L rs t htl _ HKE.out x HX.out.symm
        have hc256 : L.getD t 0 < 256 := HOC.out L hLm _ (by rw [getD_lt _ _ _ htl]; exact List.getElem_mem _)
        have HE := hid' (escs_take L t htl)
        have HTK := hid' (take_nat L t htl)
        obtain ⟨c, HCC⟩ : ∃ c, Hid (L.getD t 0 = c) := ⟨_, rfl⟩
        rw [HCC.out] at hmid hc256 HE HTK
        by_cases h0 : c = 0
        · obtain ⟨k1, k2, k3⟩ := hmid.1 h0
          rw [HL.out] at k3
          have c1 := HC.out wr hbel x (by omega)
          have c2 := HC.out wr hbel (x + 1) (by omega)
          rw [k1] at c1
          rw [k2] at c2
          have hx1 : x + 1 < n := by omega
          have HNX : Hid ((body done ++ escs (L.take (t + 1))).length = x + 2) := by
            show _ = _
            rw [HE.out, ← List.append_assoc, List.length_append, HX.out, h0]; rfl
          have HNI : Hid (ints .u8 ((L.take (t + 1)).map low) = ints .u8 ((L.take t).map low) ++ [.int .u8 0]) := by
            show _ = _
            rw [HTK.out, List.map_append, ints_append, h0]; rfl
          clear k1 k2 k3 hmid h0 hls
          go_wp2_with (at_builtin; refine wpList_append_own_at _ rfl (.tmp 37) (.tmp 38) 22 rfl w.heap.size 5 i5 (.int .u8 0) 1 1 Try.underlying22 hi5 hz0 hz1 hz2 rfl (by decide) _ _ _ rfl (hcv.alloc _) ⟨wr.heap.size, 0, none⟩ 1 1 [.int .u8 0] rfl rfl (cell_one_new _ _ _) (by intro u hu; simp at hu; subst hu; rfl) (by unfold maxLen; omega) (by omega) (by simp; omega) ?_)
          intro v' w1 hown' hgrow _ hlies
          have hb2 : Below w.heap.size w w1 := (hbel.alloc (by omega) _).grown hgrow (by simp; omega) (fun g hg => (hcv.lt g hg).1)
          have V2 := hid' (hvals.char hgrow (by simpa using hlies))
          have L2 := hid' ((hlv.alloc _).kept hgrow (own_apart hlv hcv (by decide)))
          have O2 := hid' hown'
          clear hown' hgrow hlies hcv hlv hvals hbel
          go_wp2
          go_roundw
          case rel => exact ⟨done, L :: rs, t + 1, vals, HLS.out, by simp only [headD_cons']; omega, by simp only [headD_cons']; rw [HNX.out]; go_num, by simp only [headD_cons']; rw [HNI.out, List.map_take]; exact O2.out, L2.out, V2.out, hb2⟩
          case measure => simp [intOf]; omega
        · obtain ⟨k1, k3⟩ := hmid.2 h0
          rw [HL.out] at k3
          have c1 := HC.out wr hbel x (by omega)
          rw [k1] at c1
          have hlow := low_lt c hc256
          have hlow0 : (((low c : Nat) : Int) != 0) = true := by rw [bne_iff_ne]; have := low_pos c h0; omega
          have hx1 : x + 1 < n := by omega
          have HNX : Hid ((body done ++ escs (L.take (t + 1))).length = x + 1) := by
            show _ = _
            rw [HE.out, ← List.append_assoc, List.length_append, HX.out]; unfold esc; rw [if_neg h0]; rfl
          have HNI : Hid (ints .u8 ((L.take (t + 1)).map low) = ints .u8 ((L.take t).map low) ++ [.int .u8 ((low c : Nat) : Int)]) := by
            show _ = _
            rw [HTK.out, List.map_append, ints_append]; rfl
          obtain ⟨z, HZ⟩ : ∃ z, Hid (low c = z) := ⟨_, rfl⟩
          rw [HZ.out] at c1 hlow hlow0 HNI
          clear k1 k3 hmid h0 hls
          go_wp2_with (at_builtin; refine wpList_append_own_at _ rfl (.tmp 19) (.tmp 21) 22 rfl w.heap.size 5 i5 (.int .u8 0) 1 1 Try.underlying22 hi5 hz0 hz1 hz2 rfl (by decide) _ _ _ rfl (hcv.alloc _) ⟨wr.heap.size, 0, none⟩ 1 1 [.int .u8 ((z : Nat) : Int)] rfl rfl (cell_one_new _ _ _) (by intro u hu; simp at hu; subst hu; rfl) (by unfold maxLen; omega) (by omega) (by simp; omega) ?_)
          intro v' w1 hown' hgrow _ hlies
          have hb2 : Below w.heap.size w w1 := (hbel.alloc (by omega) _).grown hgrow (by simp; omega) (fun g hg => (hcv.lt g hg).1)
          have V2 := hid' (hvals.char hgrow (by simpa using hlies))
          have L2 := hid' ((hlv.alloc _).kept hgrow (own_apart hlv hcv (by decide)))
          have O2 := hid' hown'
          clear hown' hgrow hlies hcv hlv hvals hbel
          go_wp2
          go_roundw
          case rel => exact ⟨done, L :: rs, t + 1, vals, HLS.out, by simp only [headD_cons']; omega, by simp only [headD_cons']; rw [HNX.out]; go_num, by simp only [headD_cons']; rw [HNI.out, List.map_take]; exact O2.out, L2.out, V2.out, hb2⟩
          case measure => simp [intOf]; omega
      · have htL : t = L.length := by omega
        rw [htL, List.take_length] at hcv HX
        obtain ⟨k1, k2, k3, k4⟩ := key_lab done L rs _ HKE.out x HX.out.symm
        rw [HL.out] at k3
        have c1 := HC.out wr hbel x (by omega)
        have c2 := HC.out wr hbel (x + 1) (by omega)
        rw [k1] at c1
        rw [k2] at c2
        have hx1 : x + 1 < n := by omega
        have HK4 := hid' k4
        have hLl := hLok.1
        obtain ⟨m, HM⟩ : ∃ m, Hid (L.length = m) := ⟨_, rfl⟩
        have htm : t = m := by rw [htL, HM.out]
        subst htm
        rw [HM.out] at hcv hLl
        have hm0 : ((t : Int) == 0) = false := by rw [beq_eq_false_iff_ne]; omega
        have hdl : done.length ≤ x := by
          have h1 : ∀ d : List (List Nat), d.length ≤ (body d).length := by
            intro d
            induction d with
            | nil => simp
            | cons l d ih => rw [body_cons]; unfold labKey; simp only [List.length_append, List.length_cons, List.length_nil]; omega
          have := h1 done
          rw [← HX.out, List.length_append]; omega
        clear k1 k2 k3 k4 hls htL
        go_wp2_with (at_builtin; (refine wpList_append_own _ rfl (.tmp 47) (.tmp 49) 29 rfl w.heap.size 22 i22 (.slice none 0 0) 1 24 Try.underlying29 hi22 hy0 hy1 hy2 rfl (by decide) _ _ _ rfl (hlv.alloc _) ⟨wr.heap.size, 0, none⟩ 1 1 [.slice ac t cc] rfl rfl (cell_one_new _ _ _) (by intro u hu; simp at hu; subst hu; rfl) (by unfold maxLen; omega) (by omega) (by simp; omega) ?_))
        intro v' w1 hown' hgrow _
        have hb2 : Below w.heap.size w w1 := (hbel.alloc (by omega) _).grown hgrow (by simp; omega) (fun g hg => (hlv.lt g hg).1)
        have V2 := hid' (hvals.lab hcv HM.out.symm hlv hgrow)
        have O2 := hid' hown'
        clear hown' hgrow hcv hlv hvals hbel
        go_wp2
        go_roundw
        case rel => exact ⟨done ++ [L], rs, 0, vals ++ [.slice ac t cc], by rw [HLS.out, List.append_assoc]; rfl, Nat.zero_le _, by rw [List.take_zero, escs_nil, List.append_nil, ← HK4.out]; go_num, by rw [List.take_zero]; exact World.ownsRow_nil _ _ _ _, by rw [List.length_append]; exact O2.out, V2.out, hb2⟩
        case measure => simp [intOf]; omega

end Go.Proofs.Qxb6003660a
