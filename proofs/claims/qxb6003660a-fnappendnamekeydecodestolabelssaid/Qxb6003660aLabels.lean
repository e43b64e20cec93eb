import Derived.Test.Qxb6003660aKey
namespace Go.Proofs.Qxb6003660a
open Go.RowKit Plain

theorem Try.info9 : (Try.prog.info? 9).map (fun i => (i.zero, i.size, i.bytes)) = some (some (.string ByteArray.empty), 1, 16) := by kernel_rfl

theorem zzkey_any (B : Nat) (v0 : Value) (xs : List Nat) (s : ByteArray) (ls : List (List Nat)) (w : World) (hx : xs.length ≤ 4194304) (hB : B ≤ w.heap.size) (hown0 : w.ownsRow B 5 1 v0 xs.length (ints .u8 xs)) (hW : Wire s ls) :
    Calls Try.prog 12 #[v0, .string s] w fun e w' => ∃ v, e = .returned v ∧ w'.ownsRow B 5 1 v (xs ++ key ls).length (ints .u8 (xs ++ key ls)) ∧ Below B w w' := by
  have H := hid' hW
  have HO := hid' hown0
  clear hW hown0
  go_enter Try.func12, Try.ntmps12
  go_wp2_with fail
  refine (namekey_any B v0 xs s ls _ hx hB HO.out H.out).mono ?_
  rintro e w' ⟨v, rfl, ho, hb⟩
  go_wp2
  go_ret
  exact ⟨_, rfl, ho, hb⟩

theorem bys_extract (s : ByteArray) (a b : Nat) : bys (s.extract a b) = ((bys s).drop a).take (b - a) := by
  unfold bys
  rw [ByteArray.data_extract, Array.toList_extract, List.extract_eq_take_drop]
  simp

theorem Wire.cut {s : ByteArray} {ls : List (List Nat)} (h : Wire s ls) (k : Nat) (hk : k < ls.length) (b : Nat) (hb : b = st ls k + 1 + (ls.getD k []).length) : bys (s.extract (st ls k + 1) b) = ls.getD k [] := by
  rw [bys_extract, h.eq, wire_split ls k hk, hb]
  have e : (pref (ls.take k) ++ (((ls.getD k []).length :: ls.getD k []) ++ (pref (ls.drop (k + 1)) ++ [0]))).drop (st ls k + 1) = ls.getD k [] ++ (pref (ls.drop (k + 1)) ++ [0]) := by
    unfold st
    rw [List.drop_append, List.drop_eq_nil_of_le (by omega), List.nil_append, Nat.add_sub_cancel_left]
    rfl
  rw [e, Nat.add_sub_cancel_left, List.take_left]

set_option maxHeartbeats 2000000 in
theorem labels_any (s : ByteArray) (ls : List (List Nat)) (w : World) (hW : Wire s ls) :
    Calls Try.prog 15 #[.string s] w fun e w' => ∃ v, e = .returned v ∧ ∃ strs : List ByteArray, strs.map bys = ls ∧ w'.ownsRow w.heap.size 9 1 v ls.length (strs.map Value.string) ∧ Below w.heap.size w w' := by
  obtain ⟨i0, hi, hz0, hz1, hz2⟩ := info_parts Try.info9
  have H := hid' hW
  have hcnt := hW.count
  have hsz := hW.size
  clear hW
  go_enter Try.func15, Try.ntmps15
  go_wp2
  go_loopw [3, 4] (fun v i wr => ∃ (k : Nat) (strs : List ByteArray), k ≤ ls.length ∧ i = .int .i64 ((st ls k : Nat) : Int) ∧ strs.map bys = ls.take k ∧ wr.ownsRow w.heap.size 9 1 v k (strs.map Value.string) ∧ Below w.heap.size w wr) (fun _ i _ => s.size - (intOf i).toNat)
  case atStart => exact ⟨0, [], Nat.zero_le _, by rw [st_zero]; rfl, by simp, World.ownsRow_nil _ _ _ _, Below.refl _ _⟩
  case round =>
    obtain ⟨k, strs, hk, rfl, hstr, hown, hbel⟩ := hrel
    have hx := H.out.lt k hk
    have HSTR := hid' hstr
    clear hstr
    by_cases hlt : k < ls.length
    · have hat := H.out.at_len k hlt
      have hok := H.out.getOk k hlt
      have hnx := H.out.lt (k + 1) (by omega)
      rw [st_succ ls k hlt] at hnx
      have HST := hid' (st_succ ls k hlt)
      have HCUT := hid' (H.out.cut k hlt)
      have HTS := hid' (take_snoc ls k hlt)
      obtain ⟨n, HN⟩ : ∃ n, Hid ((ls.getD k []).length = n) := ⟨_, rfl⟩
      simp only [HN.out] at hat hok hnx HST HCUT
      obtain ⟨x, HX⟩ : ∃ x, Hid (st ls k = x) := ⟨_, rfl⟩
      simp only [HX.out] at hx hat hnx HST HCUT ⊢
      have g0 : ((n : Int) != 0) = true := by rw [bne_iff_ne]; omega
      have hsb := hbel.size
      go_wp2_with (at_builtin; (refine wpList_append_own _ rfl (.tmp 28) (.tmp 37) 32 rfl w.heap.size 9 i0 (.string ByteArray.empty) 1 16 Try.underlying32 hi hz0 hz1 hz2 rfl (by decide) _ _ _ rfl (hown.alloc _) ⟨wr.heap.size, 0, none⟩ 1 1 [.string (s.extract (x + 1) (x + 1 + n))] rfl rfl (cell_one_new _ _ _) (by intro u hu; simp at hu; subst hu; rfl) (by unfold maxLen; omega) (by omega) (by simp; omega) ?_))
      intro v' w1 hown' hgrow _
      have hb2 : Below w.heap.size w w1 := (hbel.alloc (by omega) _).grown hgrow (by simp; omega) (fun g hg => (hown.lt g hg).1)
      have HO2 := hid' hown'
      clear hown' hgrow hown hbel
      go_wp2
      go_roundw
      case rel =>
        refine ⟨k + 1, strs ++ [s.extract (x + 1) (x + 1 + n)], by omega, by rw [HST.out]; go_num, ?_, ?_, hb2⟩
        · rw [List.map_append, HSTR.out, List.map_cons, List.map_nil, HCUT.out _ rfl, HTS.out]
        · rw [List.map_append]; exact HO2.out
      case measure => simp [intOf]; omega
    · obtain rfl : k = ls.length := by omega
      have hat := H.out.at_end
      obtain ⟨x, HX⟩ : ∃ x, Hid (st ls ls.length = x) := ⟨_, rfl⟩
      simp only [HX.out] at hx hat ⊢
      go_wp2
      go_ret
      exact ⟨_, rfl, strs, by rw [HSTR.out, List.take_length], hown, hbel⟩

end Go.Proofs.Qxb6003660a
