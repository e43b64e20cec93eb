/- The plain laws of names and their keys: no Go in sight. -/
namespace Go.Proofs.Qxb6003660a.Plain

/-- The labels' octets, each behind its length. -/
def pref (ls : List (List Nat)) : List Nat := ls.flatMap fun l => l.length :: l

/-- Where label k begins. -/
def st (ls : List (List Nat)) (k : Nat) : Nat := (pref (ls.take k)).length

theorem pref_nil : pref [] = [] := rfl
theorem pref_append (a b : List (List Nat)) : pref (a ++ b) = pref a ++ pref b := by simp [pref]
theorem pref_cons (l : List Nat) (ls : List (List Nat)) : pref (l :: ls) = (l.length :: l) ++ pref ls := by simp [pref]

theorem getD_lt {α : Type} (l : List α) (d : α) (i : Nat) (h : i < l.length) : l.getD i d = l[i] := by simp [h]

theorem st_zero (ls : List (List Nat)) : st ls 0 = 0 := by simp [st, pref]
theorem take_snoc (ls : List (List Nat)) (k : Nat) (h : k < ls.length) : ls.take (k + 1) = ls.take k ++ [ls.getD k []] := by
  rw [List.take_succ_eq_append_getElem h, getD_lt _ _ _ h]
theorem st_succ (ls : List (List Nat)) (k : Nat) (h : k < ls.length) : st ls (k + 1) = st ls k + 1 + (ls.getD k []).length := by
  unfold st
  rw [take_snoc ls k h, pref_append, List.length_append, pref_cons, pref_nil]
  simp only [List.length_cons, List.append_nil]
  omega

theorem st_mono (ls : List (List Nat)) (j k : Nat) (hjk : j ≤ k) (hk : k ≤ ls.length) : st ls j ≤ st ls k := by
  induction k with
  | zero => have : j = 0 := by omega
            subst this; exact Nat.le_refl _
  | succ k ih =>
    by_cases h : j = k + 1
    · subst h; exact Nat.le_refl _
    · have := ih (by omega) (by omega)
      rw [st_succ ls k (by omega)]
      omega

theorem st_two (ls : List (List Nat)) (hok : ∀ l ∈ ls, 1 ≤ l.length) (k : Nat) (hk : k ≤ ls.length) : 2 * k ≤ st ls k := by
  induction k with
  | zero => omega
  | succ k ih =>
    have := ih (by omega)
    have h1 := hok (ls.getD k []) (by rw [getD_lt _ _ _ (show k < ls.length by omega)]; exact List.getElem_mem _)
    rw [st_succ ls k (by omega)]
    omega

theorem wire_split (ls : List (List Nat)) (k : Nat) (h : k < ls.length) : pref ls ++ [0] = pref (ls.take k) ++ (((ls.getD k []).length :: ls.getD k []) ++ (pref (ls.drop (k + 1)) ++ [0])) := by
  have e : ls = ls.take k ++ ls.getD k [] :: ls.drop (k + 1) := by
    rw [getD_lt _ _ _ h, List.getElem_cons_drop, List.take_append_drop]
  have e2 : pref ls = pref (ls.take k ++ ls.getD k [] :: ls.drop (k + 1)) := congrArg pref e
  rw [e2, pref_append, pref_cons]
  simp only [List.append_assoc]

theorem wire_len (ls : List (List Nat)) : (pref ls ++ [0]).length = st ls ls.length + 1 := by simp [st]

theorem wire_at_len (ls : List (List Nat)) (k : Nat) (h : k < ls.length) : (pref ls ++ [0]).getD (st ls k) 0 = (ls.getD k []).length := by
  unfold st
  rw [wire_split ls k h, List.getD_eq_getElem?_getD, List.getElem?_append_right (Nat.le_refl _)]
  simp

theorem wire_at_end (ls : List (List Nat)) : (pref ls ++ [0]).getD (st ls ls.length) 0 = 0 := by
  unfold st
  rw [List.take_length, List.getD_eq_getElem?_getD, List.getElem?_append_right (Nat.le_refl _)]
  simp

theorem wire_at (ls : List (List Nat)) (k : Nat) (h : k < ls.length) (t : Nat) (ht : t < (ls.getD k []).length) : (pref ls ++ [0]).getD (st ls k + 1 + t) 0 = (ls.getD k []).getD t 0 := by
  rw [wire_split ls k h, List.getD_eq_getElem?_getD, List.getElem?_append_right (by unfold st; omega)]
  unfold st
  rw [show (pref (ls.take k)).length + 1 + t - (pref (ls.take k)).length = t + 1 by omega]
  rw [List.cons_append, List.getElem?_cons_succ, List.getElem?_append_left ht, ← List.getD_eq_getElem?_getD]

/-- An octet in lower case. -/
def low (c : Nat) : Nat := if 65 ≤ c ∧ c ≤ 90 then c + 32 else c
theorem low_lt (c : Nat) (h : c < 256) : low c < 256 := by unfold low; split <;> omega
theorem low_zero : low 0 = 0 := rfl
theorem low_pos (c : Nat) (h : c ≠ 0) : low c ≠ 0 := by unfold low; split <;> omega

/-- An octet as the key writes it. -/
def esc (c : Nat) : List Nat := if c = 0 then [0, 255] else [low c]
def escs (l : List Nat) : List Nat := l.flatMap esc
def labKey (l : List Nat) : List Nat := escs l ++ [0, 1]
def body (ls : List (List Nat)) : List Nat := ls.flatMap labKey
def key (ls : List (List Nat)) : List Nat := body ls.reverse ++ [0, 0]

theorem escs_snoc (l : List Nat) (c : Nat) : escs (l ++ [c]) = escs l ++ esc c := by simp [escs]
theorem escs_nil : escs [] = [] := rfl
theorem body_nil : body [] = [] := rfl
theorem body_append (a b : List (List Nat)) : body (a ++ b) = body a ++ body b := by simp [body]
theorem body_one (l : List Nat) : body [l] = labKey l := by simp [body]
theorem body_cons (l : List Nat) (ls : List (List Nat)) : body (l :: ls) = labKey l ++ body ls := by simp [body]

theorem esc_len (c : Nat) : (esc c).length ≤ 2 := by unfold esc; split <;> simp
theorem escs_len (l : List Nat) : (escs l).length ≤ 2 * l.length := by
  induction l with
  | nil => simp [escs]
  | cons c cs ih =>
    have e : escs (c :: cs) = esc c ++ escs cs := by simp [escs]
    have := esc_len c
    rw [e, List.length_append, List.length_cons]
    omega

theorem take_nat (l : List Nat) (t : Nat) (h : t < l.length) : l.take (t + 1) = l.take t ++ [l.getD t 0] := by
  rw [List.take_succ_eq_append_getElem h, getD_lt _ _ _ h]

theorem escs_take (l : List Nat) (t : Nat) (h : t < l.length) : escs (l.take (t + 1)) = escs (l.take t) ++ esc (l.getD t 0) := by
  rw [take_nat l t h, escs_snoc]

/-- The labels from k on, the last first. -/
def tailKey (ls : List (List Nat)) (k : Nat) : List Nat := body (ls.drop k).reverse
theorem tailKey_end (ls : List (List Nat)) : tailKey ls ls.length = [] := by simp [tailKey, body]
theorem tailKey_zero (ls : List (List Nat)) : tailKey ls 0 ++ [0, 0] = key ls := by simp [tailKey, key]
theorem tailKey_step (ls : List (List Nat)) (k : Nat) (h : k < ls.length) : tailKey ls k = tailKey ls (k + 1) ++ (escs (ls.getD k []) ++ [0, 1]) := by
  unfold tailKey
  have e : ls.drop k = ls.getD k [] :: ls.drop (k + 1) := by rw [getD_lt _ _ _ h, List.getElem_cons_drop]
  rw [e, List.reverse_cons, body_append, body_one]
  rfl

theorem body_len (ls : List (List Nat)) : (body ls).length ≤ 2 * (pref ls).length := by
  induction ls with
  | nil => simp [body, pref]
  | cons l ls ih =>
    have := escs_len l
    rw [body_cons, pref_cons]
    unfold labKey
    simp only [List.length_append, List.length_cons, List.length_nil]
    omega

theorem pref_reverse_len (ls : List (List Nat)) : (pref ls.reverse).length = (pref ls).length := by
  induction ls with
  | nil => rfl
  | cons l ls ih =>
    rw [List.reverse_cons, pref_append, pref_cons l ls, List.length_append, List.length_append, ih]
    simp [pref]
    omega

theorem key_len (ls : List (List Nat)) : (key ls).length ≤ 2 * (pref ls).length + 2 := by
  unfold key
  have h1 := body_len ls.reverse
  rw [pref_reverse_len] at h1
  rw [List.length_append]
  simp only [List.length_cons, List.length_nil]
  omega

/-- What stands in a key behind the labels done and t octets of the next one. -/
theorem key_at (done : List (List Nat)) (l : List Nat) (rest : List (List Nat)) (t : Nat) :
    body (done ++ l :: rest) ++ [0, 0] = (body done ++ escs (l.take t)) ++ (escs (l.drop t) ++ ([0, 1] ++ (body rest ++ [0, 0]))) := by
  have e : escs l = escs (l.take t) ++ escs (l.drop t) := by
    have : escs l = escs (l.take t ++ l.drop t) := by rw [List.take_append_drop]
    rw [this]; unfold escs; rw [List.flatMap_append]
  rw [body_append, body_cons]
  unfold labKey
  rw [e]
  simp only [List.append_assoc]

theorem getD_right (a b : List Nat) (j : Nat) : (a ++ b).getD (a.length + j) 0 = b.getD j 0 := by
  rw [List.getD_eq_getElem?_getD, List.getElem?_append_right (by omega), Nat.add_sub_cancel_left, ← List.getD_eq_getElem?_getD]

/-- In the midst of a label: its next octet. -/
theorem key_mid (done : List (List Nat)) (l : List Nat) (rest : List (List Nat)) (t : Nat) (ht : t < l.length) (K : List Nat) (hK : K = body (done ++ l :: rest) ++ [0, 0]) (i : Nat) (hi : i = (body done ++ escs (l.take t)).length) :
    (l.getD t 0 = 0 → K.getD i 0 = 0 ∧ K.getD (i + 1) 0 = 255 ∧ i + 2 < K.length) ∧ (l.getD t 0 ≠ 0 → K.getD i 0 = low (l.getD t 0) ∧ i + 1 < K.length) := by
  subst hK
  subst hi
  have e : l.drop t = l.getD t 0 :: l.drop (t + 1) := by rw [getD_lt _ _ _ ht, List.getElem_cons_drop]
  have e2 : escs (l.drop t) = esc (l.getD t 0) ++ escs (l.drop (t + 1)) := by rw [e]; simp [escs]
  rw [key_at done l rest t, e2]
  have hg := getD_right (body done ++ escs (l.take t)) ((esc (l.getD t 0) ++ escs (l.drop (t + 1))) ++ ([0, 1] ++ (body rest ++ [0, 0])))
  have h0 := hg 0
  have h1 := hg 1
  simp only [Nat.add_zero] at h0
  rw [h0, h1]
  simp only [List.length_append, List.length_cons, List.length_nil]
  constructor
  · intro hz
    rw [hz]
    refine ⟨by simp [esc], by simp [esc], by simp [esc]; omega⟩
  · intro hz
    have : esc (l.getD t 0) = [low (l.getD t 0)] := by unfold esc; rw [if_neg hz]
    rw [this]
    refine ⟨by simp, by simp; omega⟩

/-- At a label's end. -/
theorem key_lab (done : List (List Nat)) (l : List Nat) (rest : List (List Nat)) (K : List Nat) (hK : K = body (done ++ l :: rest) ++ [0, 0]) (i : Nat) (hi : i = (body done ++ escs l).length) :
    K.getD i 0 = 0 ∧ K.getD (i + 1) 0 = 1 ∧ i + 2 < K.length ∧ i + 2 = (body (done ++ [l])).length := by
  subst hK
  subst hi
  have e := key_at done l rest l.length
  rw [List.take_length, List.drop_length, escs_nil, List.nil_append] at e
  rw [e]
  have hg := getD_right (body done ++ escs l) ([0, 1] ++ (body rest ++ [0, 0]))
  have h0 := hg 0
  have h1 := hg 1
  rw [Nat.add_zero] at h0
  rw [h0, h1, body_append, body_one]
  unfold labKey
  simp only [List.length_append, List.length_cons, List.length_nil]
  refine ⟨by simp, by simp, by omega, by omega⟩

/-- At the name's end. -/
theorem key_end (done : List (List Nat)) (K : List Nat) (hK : K = body done ++ [0, 0]) (i : Nat) (hi : i = (body done).length) :
    K.getD i 0 = 0 ∧ K.getD (i + 1) 0 = 0 ∧ i + 2 = K.length := by
  subst hK
  subst hi
  have hg := getD_right (body done) [0, 0]
  have h0 := hg 0
  have h1 := hg 1
  rw [Nat.add_zero] at h0
  rw [h0, h1]
  simp

end Go.Proofs.Qxb6003660a.Plain
