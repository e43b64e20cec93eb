import Derived.Test.Qxb6003660aBase
import Derived.Test.Qxb6003660aNames
import Derived.WalkSmall
namespace Go.Proofs.Qxb6003660a
open Go.RowKit Plain

theorem hid' {p : Prop} (h : p) : Hid p := h

/-- A string's octets. -/
def bys (s : ByteArray) : List Nat := s.data.toList.map UInt8.toNat
theorem bys_length (s : ByteArray) : (bys s).length = s.size := by
  unfold bys; rw [List.length_map, Array.length_toList]; rfl
theorem bys_get (s : ByteArray) (k : Nat) (h : k < s.size) : (s[k]'h).toNat = (bys s).getD k 0 := by
  have h2 : k < s.data.toList.length := by rw [Array.length_toList]; exact h
  unfold bys
  rw [List.getD_eq_getElem?_getD, List.getElem?_map, List.getElem?_eq_getElem h2]
  simp
  rfl
theorem bys_lt (s : ByteArray) : ∀ x ∈ bys s, x < 256 := by
  intro x hx
  obtain ⟨c, _, rfl⟩ := List.mem_map.1 hx
  exact c.toNat_lt

/-- The string is a name of these labels. -/
structure Wire (s : ByteArray) (ls : List (List Nat)) : Prop where
  eq : bys s = pref ls ++ [0]
  ok : ∀ l ∈ ls, 1 ≤ l.length ∧ l.length ≤ 63
  size : s.size ≤ 255

set_option maxHeartbeats 400000 in
theorem lower16_any (c : Nat) (w : World) (hc : c < 256) : Calls Try.prog 16 #[.int .u8 (c : Int)] w fun e w' => e = .returned (.int .u8 ((low c : Nat) : Int)) ∧ w' = w := by
  by_cases h1 : 65 ≤ c
  · by_cases h2 : c ≤ 90
    · have HL := hid' (show low c = c + 32 by unfold low; rw [if_pos ⟨h1, h2⟩])
      go_enter Try.func16, Try.ntmps16
      go_wp2
      go_ret
      exact ⟨by rw [HL.out]; rfl, rfl⟩
    · have HL := hid' (show low c = c by unfold low; rw [if_neg (by omega)])
      go_enter Try.func16, Try.ntmps16
      go_wp2
      go_ret
      exact ⟨by rw [HL.out]; rfl, rfl⟩
  · have HL := hid' (show low c = c by unfold low; rw [if_neg (by omega)])
    go_enter Try.func16, Try.ntmps16
    go_wp2
    go_ret
    exact ⟨by rw [HL.out]; rfl, rfl⟩

set_option maxHeartbeats 400000 in
theorem lower39_any (c : Nat) (w : World) (hc : c < 256) : Calls Try.prog 39 #[.int .u8 (c : Int)] w fun e w' => e = .returned (.int .u8 ((low c : Nat) : Int)) ∧ w' = w := by
  by_cases h1 : 65 ≤ c
  · by_cases h2 : c ≤ 90
    · have HL := hid' (show ((c : Int) + 97 - 65) = ((low c : Nat) : Int) by unfold low; rw [if_pos ⟨h1, h2⟩]; omega)
      go_enter Try.func39, Try.ntmps39
      go_wp2
      go_ret
      refine ⟨?_, rfl⟩
      have := HL.out
      show Ending.returned (.int .u8 _) = _
      congr 2
    · have HL := hid' (show low c = c by unfold low; rw [if_neg (by omega)])
      go_enter Try.func39, Try.ntmps39
      go_wp2
      go_ret
      exact ⟨by rw [HL.out]; rfl, rfl⟩
  · have HL := hid' (show low c = c by unfold low; rw [if_neg (by omega)])
    go_enter Try.func39, Try.ntmps39
    go_wp2
    go_ret
    exact ⟨by rw [HL.out]; rfl, rfl⟩

theorem pref_snoc (done : List (List Nat)) (l : List Nat) : pref (done ++ [l]) = pref done ++ (l.length :: l) := by
  rw [pref_append, pref_cons, pref_nil, List.append_nil]

/-- One label more has been read. -/
theorem valid_step (B : List Nat) (k c : Nat) (done : List (List Nat)) (hk : B.take k = pref done) (hlt : k < B.length) (hc : c = B.getD k 0) (h2 : k + (1 + c) ≤ B.length) :
    B.take (k + (1 + c)) = pref (done ++ [(B.drop (k + 1)).take c]) ∧ ((B.drop (k + 1)).take c).length = c := by
  have hl : ((B.drop (k + 1)).take c).length = c := by rw [List.length_take, List.length_drop]; omega
  refine ⟨?_, hl⟩
  rw [pref_snoc, hl, ← hk]
  have e1 : B.drop k = c :: B.drop (k + 1) := by rw [hc, getD_lt _ _ _ hlt, List.getElem_cons_drop]
  rw [List.take_add, e1, show 1 + c = c + 1 by omega, List.take_succ_cons]

/-- How the look at a name ends. -/
def VP (s : ByteArray) (w : World) (e : Ending) (w' : World) : Prop := (e = .returned (.bool true) ∧ w' = w ∧ ∃ ls, Wire s ls) ∨ (e = .returned (.bool false) ∧ w' = w)

set_option maxHeartbeats 1000000 in
theorem valid_any (s : ByteArray) (w : World) (hs : s.size ≤ 1048576) :
    Calls Try.prog 10 #[.string s] w fun e w' => VP s w e w' := by
  by_cases h1 : s.size < 1
  · go_enter Try.func10, Try.ntmps10
    go_wp2
    go_ret
    exact Or.inr ⟨rfl, rfl⟩
  by_cases h2 : 255 < s.size
  · go_enter Try.func10, Try.ntmps10
    go_wp2
    go_ret
    exact Or.inr ⟨rfl, rfl⟩
  have HL := hid' (bys_length s)
  go_enter Try.func10, Try.ntmps10
  go_wp2
  go_loop [3] (fun i => ∃ k : Nat, i = .int .i64 k ∧ k ≤ 400 ∧ (k ≤ s.size → ∃ done, (bys s).take k = pref done ∧ ∀ l ∈ done, 1 ≤ l.length ∧ l.length ≤ 63)) (fun i => 400 - (intOf i).toNat)
  case atStart => exact ⟨0, rfl, by omega, fun _ => ⟨[], rfl, by simp⟩⟩
  case round =>
    obtain ⟨k, rfl, hk, hd⟩ := hrel
    by_cases hlt : k < s.size
    · have hx := bys_get s k hlt
      have hb : (bys s).getD k 0 < 256 := bys_lt s _ (by rw [getD_lt _ _ _ (show k < (bys s).length by rw [HL.out]; exact hlt)]; exact List.getElem_mem _)
      obtain ⟨c, HC⟩ : ∃ c, Hid (c = (bys s).getD k 0) := ⟨_, rfl⟩
      rw [← HC.out] at hx hb
      have HD := hid' hd
      clear hd
      by_cases h0 : c = 0
      · have g0 : ((c : Int) == 0) = true := by rw [beq_iff_eq]; omega
        by_cases hend : k = s.size - 1
        · have g1 : ((k : Int) == (s.size : Int) - 1) = true := by rw [beq_iff_eq]; omega
          have HW : Hid (∃ ls, Wire s ls) := by
            obtain ⟨done, hp, hok⟩ := HD.out (by omega)
            refine ⟨done, ⟨?_, hok, by omega⟩⟩
            have e1 : bys s = (bys s).take k ++ (bys s).drop k := (List.take_append_drop _ _).symm
            have e2 : (bys s).drop k = [0] := by
              have hl := HL.out
              have : (bys s).drop k = (bys s).getD k 0 :: (bys s).drop (k + 1) := by
                rw [getD_lt _ _ _ (show k < (bys s).length by omega), List.getElem_cons_drop]
              rw [this, ← HC.out, h0, List.drop_eq_nil_of_le (by omega)]
            rw [e1, e2, hp]
          have HE := hid' hend
          clear h0 hend
          go_wp2
          go_ret
          exact Or.inl ⟨rfl, rfl, HW.out⟩
        · have g1 : ((k : Int) == (s.size : Int) - 1) = false := by rw [beq_eq_false_iff_ne]; omega
          clear h0 hend
          go_wp2
          go_ret
          exact Or.inr ⟨rfl, rfl⟩
      · have g0 : ((c : Int) == 0) = false := by rw [beq_eq_false_iff_ne]; omega
        by_cases h63 : 63 < c
        · go_wp2
          go_ret
          exact Or.inr ⟨rfl, rfl⟩
        · go_wp2
          go_round
          case rel =>
            refine ⟨k + (1 + c), by go_num, by omega, fun hle => ?_⟩
            obtain ⟨done, hp, hok⟩ := HD.out (by omega)
            obtain ⟨e1, e2⟩ := valid_step (bys s) k c done hp (by rw [HL.out]; exact hlt) HC.out (by rw [HL.out]; exact hle)
            refine ⟨_, e1, fun l hl => ?_⟩
            rcases List.mem_append.1 hl with h | h
            · exact hok l h
            · simp only [List.mem_singleton] at h
              rw [h, e2]; omega
          case measure => simp [intOf]; omega
    · clear hd
      go_wp2
      go_ret
      exact Or.inr ⟨rfl, rfl⟩

end Go.Proofs.Qxb6003660a
