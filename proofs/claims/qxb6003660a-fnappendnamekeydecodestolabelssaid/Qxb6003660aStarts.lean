import Derived.Test.Qxb6003660aValid
namespace Go.Proofs.Qxb6003660a
open Go.RowKit Plain

theorem Wire.len {s : ByteArray} {ls : List (List Nat)} (h : Wire s ls) : s.size = st ls ls.length + 1 := by
  rw [← bys_length, h.eq, wire_len]
theorem Wire.lt {s : ByteArray} {ls : List (List Nat)} (h : Wire s ls) (k : Nat) (hk : k ≤ ls.length) : st ls k < s.size := by
  have := st_mono ls k ls.length hk (Nat.le_refl _)
  rw [h.len]; omega
theorem Wire.at_len {s : ByteArray} {ls : List (List Nat)} (h : Wire s ls) (k : Nat) (hk : k < ls.length) : (s[st ls k]'(h.lt k (by omega))).toNat = (ls.getD k []).length := by
  rw [bys_get, h.eq, wire_at_len ls k hk]
theorem Wire.at_end {s : ByteArray} {ls : List (List Nat)} (h : Wire s ls) : (s[st ls ls.length]'(h.lt _ (Nat.le_refl _))).toNat = 0 := by
  rw [bys_get, h.eq, wire_at_end]
theorem Wire.getOk {s : ByteArray} {ls : List (List Nat)} (h : Wire s ls) (k : Nat) (hk : k < ls.length) : 1 ≤ (ls.getD k []).length ∧ (ls.getD k []).length ≤ 63 := by
  rw [getD_lt _ _ _ hk]; exact h.ok _ (List.getElem_mem _)
theorem Wire.count {s : ByteArray} {ls : List (List Nat)} (h : Wire s ls) : ls.length ≤ 127 := by
  have h1 := st_two ls (fun l hl => (h.ok l hl).1) ls.length (Nat.le_refl _)
  have h2 := h.len
  have h3 := h.size
  omega
theorem Wire.in_lt {s : ByteArray} {ls : List (List Nat)} (h : Wire s ls) (k : Nat) (hk : k < ls.length) (t : Nat) (ht : t < (ls.getD k []).length) : st ls k + 1 + t < s.size := by
  have h1 := st_succ ls k hk
  have h2 := h.lt (k + 1) (by omega)
  omega
theorem Wire.at_in {s : ByteArray} {ls : List (List Nat)} (h : Wire s ls) (k : Nat) (hk : k < ls.length) (t : Nat) (ht : t < (ls.getD k []).length) : (s[st ls k + 1 + t]'(h.in_lt k hk t ht)).toNat = (ls.getD k []).getD t 0 := by
  rw [bys_get, h.eq, wire_at ls k hk t ht]
theorem Wire.oct {s : ByteArray} {ls : List (List Nat)} (h : Wire s ls) (k : Nat) (hk : k < ls.length) (t : Nat) (ht : t < (ls.getD k []).length) : (ls.getD k []).getD t 0 < 256 := by
  rw [← h.at_in k hk t ht]; exact UInt8.toNat_lt _

set_option maxHeartbeats 1000000 in
theorem starts_any (s : ByteArray) (ls : List (List Nat)) (g : Nat) (cur : Array Value) (w : World) (hW : Wire s ls) (hb : w.heap[g]? = some (.cells cur 57 (0, 0))) (hc : cur.size = 127) :
    Calls Try.prog 38 #[.string s, .pointer (some ⟨g, 0, none⟩)] w fun e w' => e = .returned (.int .i64 (ls.length : Nat)) ∧ ∃ cur', w'.heap[g]? = some (.cells cur' 57 (0, 0)) ∧ cur'.size = 127 ∧ (∀ j, j < ls.length → cur'[j]? = some (.int .u8 ((st ls j : Nat) : Int))) ∧ w.grownBy w' (some g) ∧ w'.heap.size = w.heap.size := by
  have hsz := hW.size
  have hcnt := hW.count
  have H := hid' hW
  have HB := hid' hb
  clear hW hb
  go_enter Try.func38, Try.ntmps38
  go_wp2
  go_loopw [5, 6] (fun c i wr => ∃ (k : Nat) (cur' : Array Value), k ≤ ls.length ∧ c = .int .i64 k ∧ i = .int .i64 (st ls k : Nat) ∧ wr.heap[g]? = some (.cells cur' 57 (0, 0)) ∧ cur'.size = 127 ∧ (∀ j, j < k → cur'[j]? = some (.int .u8 ((st ls j : Nat) : Int))) ∧ w.grownBy wr (some g) ∧ wr.heap.size = w.heap.size) (fun c _ _ => ls.length - (intOf c).toNat)
  case atStart => exact ⟨0, cur, Nat.zero_le _, rfl, by rw [st_zero]; rfl, HB.out, hc, fun j h => by omega, World.grownBy.refl _ _, rfl⟩
  case round =>
    obtain ⟨k, cur', hk, rfl, rfl, hblk, hcs, hall, hgr, hhs⟩ := hrel
    have hx := H.out.lt k hk
    have HST := hid' (st_succ ls k)
    by_cases hlt : k < ls.length
    · have hat := H.out.at_len k hlt
      have hok := H.out.getOk k hlt
      have hnx := H.out.lt (k + 1) (by omega)
      rw [HST.out hlt] at hnx
      generalize hL : (ls.getD k []).length = n at *
      have HN := hid' hL
      clear hL
      obtain ⟨x, HX⟩ : ∃ x, Hid (st ls k = x) := ⟨_, rfl⟩
      simp only [HX.out] at hx hat hnx ⊢
      have g0 : ((n : Int) != 0) = true := by rw [bne_iff_ne]; omega
      have hck : wr.cell? ⟨g, k, none⟩ = some (cur'[k]'(by omega)) := by
        rw [cell_of_row _ _ _ _ _ _ hblk, Array.getElem?_eq_getElem (by omega)]
      have hfk : wr.frozen? ⟨g, k, none⟩ = false := frozen_of_row _ _ _ _ _ hblk
      generalize cur'[k]'(by omega) = old at hck
      have HBL := hid' hblk
      have HALL := hid' hall
      have HHS := hid' hhs
      clear hblk hall hhs
      go_wp2
      go_roundw
      case rel =>
        have hst := heap_setCell_same wr g k cur' 57 (.int .u8 ((x : Nat) : Int)) HBL.out
        refine ⟨k + 1, _, by omega, by go_num, by rw [HST.out hlt, HX.out]; go_num, hst, by simpa using hcs, fun j hj => ?_, ?_, by simp [HHS.out]⟩
        · by_cases h : j = k
          · subst h
            rw [Array.getElem?_setIfInBounds_self_of_lt (by omega), HX.out]
          · rw [Array.getElem?_setIfInBounds_ne (by omega)]
            exact HALL.out j (by omega)
        · exact ⟨hgr.os, hgr.tape, hgr.output, by simp [HHS.out], fun i hi hne => by rw [heap_setCell_other _ _ _ _ (fun e => hne (by rw [e]))]; exact hgr.block i hi hne⟩
      case measure => simp [intOf]; omega
    · obtain rfl : k = ls.length := by omega
      have hat := H.out.at_end
      obtain ⟨x, HX⟩ : ∃ x, Hid (st ls ls.length = x) := ⟨_, rfl⟩
      simp only [HX.out] at hx hat ⊢
      have HBL := hid' hblk
      have HALL := hid' hall
      have HHS := hid' hhs
      clear hblk hall hhs
      go_wp2
      go_ret
      exact ⟨rfl, cur', HBL.out, hcs, HALL.out, hgr, HHS.out⟩

end Go.Proofs.Qxb6003660a
