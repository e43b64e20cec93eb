import Derived.Test.Qxb6003660aBase
import Derived.Test.Qxb6003660aBits
import Derived.WalkSmall
import Derived.BigQuiet
import Derived.Deep.QuietTactic
namespace Go.Proofs.Qxb6003660a
open Go.RowKit

/-- Is the list sorted? -/
def sortedB (s : List Nat) : Bool := decide (∀ i, i < s.length → i + 1 < s.length → s.getD i 0 ≤ s.getD (i + 1) 0)

theorem sortedB_true {s : List Nat} (h : ∀ i, i + 1 < s.length → s.getD i 0 ≤ s.getD (i + 1) 0) : sortedB s = true := decide_eq_true fun i _ hi => h i hi
theorem sortedB_false {s : List Nat} {k : Nat} (hk : k + 1 < s.length) (h : ¬ s.getD k 0 ≤ s.getD (k + 1) 0) : sortedB s = false := decide_eq_false fun h' => h (h' k (by omega) hk)
theorem sorted_of {s : List Nat} (h : sortedB s = true) : Plain.Sorted s := by
  have := of_decide_eq_true h
  intro i hi
  exact this i (by omega) hi

set_option maxHeartbeats 400000 in
theorem sorted_any (a : Option Addr) (n cap : Nat) (s : List Nat) (w : World) (hn : n ≤ 67108864) (hr : RowAt .u16 w a n cap s) :
    Calls Try.prog 28 #[.slice a n cap] w fun e w' => e = .returned (.bool (sortedB s)) ∧ ∃ m, w' = w.drewN m := by
  obtain ⟨hl, _, _, _, hcell⟩ := hr
  go_enter Try.func28, Try.ntmps28
  go_wp2
  go_loopw [3] (fun i wr => ∃ k : Nat, (k = 0 ∨ k < n) ∧ i = .int .i64 ((k : Int) + 1) ∧ (∀ j, j + 1 < k + 1 → s.getD j 0 ≤ s.getD (j + 1) 0) ∧ ∃ m, wr = w.drewN m) (fun i _ => n - (intOf i).toNat)
  case atStart => exact ⟨0, by omega, by go_num, fun j h => by omega, 0, rfl⟩
  case round =>
    obtain ⟨k, hk, rfl, hall, m, rfl⟩ := hrel
    by_cases hlt : k + 1 < n
    · obtain ⟨b, off, rfl, hc⟩ := hcell (by omega)
      have h1 := hc k (by omega)
      have h2 := hc (k + 1) hlt
      have hk1 : (k : Int) < (n : Int) := by omega
      have hk2 : (k : Int) + 1 < (n : Int) := by omega
      have hk3 : ((k : Int) + 1).toNat = k + 1 := by omega
      have hk4 := wrapN k (by omega)
      have hk5 : (0 : Int) ≤ (k : Int) + 1 := by omega
      by_cases hle : s.getD k 0 ≤ s.getD (k + 1) 0
      · have HE : Hid (_) := hle
        have HA : Hid (_) := hall
        have hle' : ¬ ((s.getD (k + 1) 0 : Nat) : Int) < ((s.getD k 0 : Nat) : Int) := by omega
        generalize s.getD k 0 = x at h1 hle'
        generalize s.getD (k + 1) 0 = y at h2 hle'
        clear hle hall hc hcell
        go_wp2
        go_quiet (fail)
        go_wp2
        go_roundw
        case rel =>
          refine ⟨k + 1, by omega, by go_num, fun j hj => ?_, ?_⟩
          · by_cases h : j = k
            · rw [h]; exact HE.out
            · exact HA.out j (by omega)
          · exact ⟨m + nq, by first | rfl | rw [World.drewN_drewN]⟩
        case measure => simp [intOf]; omega
      · have HP : Hid (_) := sortedB_false (s := s) (k := k) (by omega) hle
        have hle' : ((s.getD (k + 1) 0 : Nat) : Int) < ((s.getD k 0 : Nat) : Int) := by omega
        generalize s.getD k 0 = x at h1 hle'
        generalize s.getD (k + 1) 0 = y at h2 hle'
        clear hle hall hc hcell
        go_wp2
        go_quiet (fail)
        go_wp2
        go_ret
        exact ⟨by rw [HP.out]; rfl, m + nq, by first | rfl | rw [World.drewN_drewN]⟩
    · have HP : Hid (_) := sortedB_true (s := s) (fun i hi => hall i (by omega))
      clear hall hcell
      go_wp2
      go_ret
      exact ⟨by rw [HP.out]; rfl, m, rfl⟩

end Go.Proofs.Qxb6003660a
