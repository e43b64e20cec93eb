import Derived.Test.Qxb6003660aBase
import Derived.WalkSmall
import Derived.BigQuiet
import Derived.Deep.QuietTactic
namespace Go.Proofs.Qxb6003660a
open Go.RowKit

/-- Do the numbers p begin the numbers s? -/
def pre (s p : List Nat) : Bool := decide (p.length ≤ s.length ∧ ∀ i, i < p.length → s.getD i 0 = p.getD i 0)

theorem pre_short {s p : List Nat} (h : s.length < p.length) : pre s p = false := by
  unfold pre; exact decide_eq_false (fun h' => by omega)
theorem pre_miss {s p : List Nat} {k : Nat} (hk : k < p.length) (h : s.getD k 0 ≠ p.getD k 0) : pre s p = false := by
  unfold pre; exact decide_eq_false (fun h' => h (h'.2 k hk))
theorem pre_all {s p : List Nat} (hl : p.length ≤ s.length) (h : ∀ i, i < p.length → s.getD i 0 = p.getD i 0) : pre s p = true := decide_eq_true ⟨hl, h⟩

set_option maxHeartbeats 400000 in
theorem prefix_any (a : Option Addr) (n cap : Nat) (s : List Nat) (a' : Option Addr) (n' cap' : Nat) (p : List Nat) (w : World) (hn : n ≤ 67108864) (hn' : n' ≤ 67108864) (hr : RowAt .u8 w a n cap s) (hr' : RowAt .u8 w a' n' cap' p) :
    Calls Try.prog 13 #[.slice a n cap, .slice a' n' cap'] w fun e w' => e = .returned (.bool (pre s p)) ∧ ∃ m, w' = w.drewN m := by
  obtain ⟨hl, _, _, _, hcell⟩ := hr
  obtain ⟨hl', _, _, _, hcell'⟩ := hr'
  by_cases hlt : n < n'
  · have hp := pre_short (s := s) (p := p) (by omega)
    have HP : Hid (_) := hp
    clear hp hcell hcell'
    go_enter Try.func13, Try.ntmps13
    go_wp2
    go_ret
    exact ⟨by rw [HP.out]; rfl, 0, rfl⟩
  · go_enter Try.func13, Try.ntmps13
    go_wp2
    go_loopw [5] (fun i wr => ∃ k : Nat, k ≤ n' ∧ i = .int .i64 k ∧ (∀ j, j < k → s.getD j 0 = p.getD j 0) ∧ ∃ m, wr = w.drewN m) (fun i _ => n' - (intOf i).toNat)
    case atStart => exact ⟨0, Nat.zero_le _, rfl, fun j h => by omega, 0, rfl⟩
    case round =>
      obtain ⟨k, hk, rfl, hall, m, rfl⟩ := hrel
      by_cases hlt' : k < n'
      · obtain ⟨b, off, rfl, hc⟩ := hcell (by omega)
        obtain ⟨b', off', rfl, hc'⟩ := hcell' (by omega)
        have h1 := hc k (by omega)
        have h2 := hc' k hlt'
        have hkn : (k : Int) < (n : Int) := by omega
        have hkn' : (k : Int) < (n' : Int) := by omega
        by_cases heq : s.getD k 0 = p.getD k 0
        · have HE : Hid (_) := heq
          have HA : Hid (_) := hall
          rw [heq] at h1
          generalize p.getD k 0 = z at h1 h2
          clear heq hall hc hc' hcell hcell'
          go_wp2
          go_quiet (fail)
          go_wp2
          go_roundw
          case rel =>
            refine ⟨k + 1, by omega, by go_num, fun j hj => ?_, ?_⟩
            · by_cases h : j = k
              · rw [h]; exact HE.out
              · exact HA.out j (by omega)
            · exact ⟨m + nq, by first | rfl | rw [World.drewN_drewN]⟩
          case measure => simp [intOf]; omega
        · have HP : Hid (_) := pre_miss (s := s) (p := p) (by omega) heq
          have hne : (((s.getD k 0 : Nat) : Int) != ((p.getD k 0 : Nat) : Int)) = true := by rw [bne_iff_ne]; omega
          generalize s.getD k 0 = y at h1 hne
          generalize p.getD k 0 = z at h2 hne
          clear heq hall hc hc' hcell hcell'
          go_wp2
          go_quiet (fail)
          go_wp2
          go_ret
          exact ⟨by rw [HP.out]; rfl, m + nq, by first | rfl | rw [World.drewN_drewN]⟩
      · have HP : Hid (_) := pre_all (s := s) (p := p) (by omega) (fun i hi => hall i (by omega))
        clear hall hcell hcell'
        go_wp2
        go_ret
        exact ⟨by rw [HP.out]; rfl, m, rfl⟩

end Go.Proofs.Qxb6003660a
