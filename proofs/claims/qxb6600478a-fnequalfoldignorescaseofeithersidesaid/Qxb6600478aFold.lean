/- The plain laws of folding: no Go in sight. -/
namespace Go.Proofs.Qxb6600478a.Plain

def low (c : Nat) : Nat := if 65 ≤ c ∧ c ≤ 90 then c + 32 else c
def up (c : Nat) : Nat := if 97 ≤ c ∧ c ≤ 122 then c - 32 else c

theorem low_lt (c : Nat) (h : c < 256) : low c < 256 := by unfold low; split <;> omega
theorem up_lt (c : Nat) (h : c < 256) : up c < 256 := by unfold up; split <;> omega
theorem low_up (c : Nat) : low (up c) = low c := by unfold up low; split <;> split <;> (try split) <;> omega
theorem low_low (c : Nat) : low (low c) = low c := by unfold low; split <;> (try split) <;> omega

/-- Are the two texts one but for the letters' case? -/
def foldEq (xs ys : List Nat) : Bool := decide (xs.map low = ys.map low)

theorem foldEq_refl (xs : List Nat) : foldEq xs xs = true := decide_eq_true rfl
theorem foldEq_symm (xs ys : List Nat) : foldEq xs ys = foldEq ys xs := by
  unfold foldEq
  rw [Bool.eq_iff_iff]
  simp only [decide_eq_true_eq]
  exact ⟨Eq.symm, Eq.symm⟩
theorem foldEq_trans (xs ys zs : List Nat) (h1 : foldEq xs ys = true) (h2 : foldEq ys zs = true) : foldEq xs zs = true :=
  decide_eq_true ((of_decide_eq_true h1).trans (of_decide_eq_true h2))
theorem map_low_up (xs : List Nat) : (xs.map up).map low = xs.map low := by
  rw [List.map_map]; exact List.map_congr_left fun c _ => low_up c
theorem map_low_low (xs : List Nat) : (xs.map low).map low = xs.map low := by
  rw [List.map_map]; exact List.map_congr_left fun c _ => low_low c
theorem foldEq_up_low (xs ys : List Nat) : foldEq (xs.map up) (ys.map low) = foldEq xs ys := by
  unfold foldEq; rw [map_low_up, map_low_low]
theorem foldEq_up (xs : List Nat) : foldEq xs (xs.map up) = true := by unfold foldEq; rw [map_low_up]; exact decide_eq_true rfl
theorem foldEq_low_up (xs : List Nat) : foldEq (xs.map low) (xs.map up) = true := by unfold foldEq; rw [map_low_up, map_low_low]; exact decide_eq_true rfl

theorem foldEq_short {xs ys : List Nat} (h : xs.length ≠ ys.length) : foldEq xs ys = false :=
  decide_eq_false fun e => h (by have := congrArg List.length e; simpa using this)
theorem getD_map (f : Nat → Nat) (xs : List Nat) (k : Nat) (h : k < xs.length) : (xs.map f).getD k 0 = f (xs.getD k 0) := by
  simp [h]
theorem foldEq_miss {xs ys : List Nat} {k : Nat} (hx : k < xs.length) (hy : k < ys.length) (h : low (xs.getD k 0) ≠ low (ys.getD k 0)) : foldEq xs ys = false :=
  decide_eq_false fun e => h (by rw [← getD_map low xs k hx, ← getD_map low ys k hy, e])
theorem foldEq_all {xs ys : List Nat} (hl : xs.length = ys.length) (h : ∀ i, i < xs.length → low (xs.getD i 0) = low (ys.getD i 0)) : foldEq xs ys = true := by
  refine decide_eq_true (List.ext_getElem? fun i => ?_)
  by_cases hi : i < xs.length
  · have := h i hi
    rw [← getD_map low xs i hi, ← getD_map low ys i (by omega)] at this
    rw [List.getD_eq_getElem?_getD, List.getD_eq_getElem?_getD, List.getElem?_eq_getElem (by simpa using hi), List.getElem?_eq_getElem (by simp; omega)] at this
    rw [List.getElem?_eq_getElem (by simpa using hi), List.getElem?_eq_getElem (by simp; omega)]
    simpa using this
  · rw [List.getElem?_eq_none (by simp; omega), List.getElem?_eq_none (by simp; omega)]

/-! ### The model by xor -/
theorem tab1 : ∀ x, x < 256 → (97 ≤ x ||| 32 ∧ x ||| 32 ≤ 122) → low x = low (x ^^^ 32) := by decide +kernel
theorem tab2 : ∀ x, x < 256 → 65 ≤ x → x ≤ 90 → x ^^^ (x + 32) = 32 ∧ (x + 32) ^^^ x = 32 ∧ 97 ≤ x ||| 32 ∧ x ||| 32 ≤ 122 ∧ 97 ≤ (x + 32) ||| 32 ∧ (x + 32) ||| 32 ≤ 122 := by decide +kernel

theorem xor_yes (x y : Nat) (hx : x < 256) (h : x ^^^ y = 32) (h1 : 97 ≤ x ||| 32) (h2 : x ||| 32 ≤ 122) : low x = low y := by
  have hy : y = x ^^^ 32 := by rw [← h, ← Nat.xor_assoc, Nat.xor_self, Nat.zero_xor]
  rw [hy]; exact tab1 x hx ⟨h1, h2⟩

theorem xor_no (x y : Nat) (hx : x < 256) (hy : y < 256) (hne : x ≠ y) (h : low x = low y) : x ^^^ y = 32 ∧ 97 ≤ x ||| 32 ∧ x ||| 32 ≤ 122 := by
  have hc : (65 ≤ x ∧ x ≤ 90 ∧ y = x + 32) ∨ (65 ≤ y ∧ y ≤ 90 ∧ x = y + 32) := by
    unfold low at h
    split at h <;> split at h <;> omega
  rcases hc with ⟨a, b, rfl⟩ | ⟨a, b, rfl⟩
  · obtain ⟨t1, _, t3, t4, _, _⟩ := tab2 x hx a b
    exact ⟨t1, t3, t4⟩
  · obtain ⟨_, t2, _, _, t5, t6⟩ := tab2 y hy a b
    exact ⟨t2, t5, t6⟩

end Go.Proofs.Qxb6600478a.Plain
