/- What the walks of this seat share: a slice of numbers that is read; a row that the call owns; small laws on them. -/
import Derived.Test.Qxb6600478aProg
import Derived.WalkKit
import Derived.WalkSpells
import Derived.Below
import Derived.Maps.AppendAt
import Derived.KernelRfl
namespace Go.Proofs.Qxb6600478a
open Go.RowKit

/-- The slice ⟨a, n, cap⟩ reads the numbers zs of kind k. -/
def RowAt (k : IntKind) (w : World) (a : Option Addr) (n cap : Nat) (zs : List Nat) : Prop :=
  zs.length = n ∧ n ≤ cap ∧ cap ≤ maxLen ∧ (a = none → n = 0 ∧ cap = 0) ∧
  (0 < n → ∃ b off, a = some ⟨b, off, none⟩ ∧ ∀ i, i < n → w.cell? ⟨b, off + i, none⟩ = some (.int k ((zs.getD i 0 : Nat) : Int)))

/-- The same numbers in a later world. -/
theorem RowAt.later {k : IntKind} {w w' : World} {a : Option Addr} {n cap : Nat} {zs : List Nat} (h : RowAt k w a n cap zs) {B : Nat} (hb : Below B w w') (hB : ∀ b off, a = some ⟨b, off, none⟩ → b < B) : RowAt k w' a n cap zs := by
  obtain ⟨h1, h2, h3, h4, h5⟩ := h
  refine ⟨h1, h2, h3, h4, fun hp => ?_⟩
  obtain ⟨b, off, ha, hc⟩ := h5 hp
  exact ⟨b, off, ha, fun i hi => (hb.cell (p := ⟨b, off + i, none⟩) (hB b off ha)).trans (hc i hi)⟩

theorem RowAt.below {k : IntKind} {w w' : World} {a : Option Addr} {n cap : Nat} {zs : List Nat} (h : RowAt k w a n cap zs) (hb : Below w.heap.size w w') : RowAt k w' a n cap zs := by
  obtain ⟨h1, h2, h3, h4, h5⟩ := h
  refine ⟨h1, h2, h3, h4, fun hp => ?_⟩
  obtain ⟨b, off, ha, hc⟩ := h5 hp
  have hlt : b < w.heap.size := World.block_lt_of_cell? w _ (hc 0 hp)
  exact ⟨b, off, ha, fun i hi => (hb.cell (p := ⟨b, off + i, none⟩) hlt).trans (hc i hi)⟩

/-- Octets as cells. -/
def u8s (zs : List Nat) : List Value := zs.map fun z => Value.int .u8 ((z : Nat) : Int)
def u16s (zs : List Nat) : List Value := zs.map fun z => Value.int .u16 ((z : Nat) : Int)
def ints (k : IntKind) (zs : List Nat) : List Value := zs.map fun z => Value.int k ((z : Nat) : Int)

theorem ints_length (k : IntKind) (zs : List Nat) : (ints k zs).length = zs.length := by simp [ints]
theorem ints_append (k : IntKind) (a b : List Nat) : ints k (a ++ b) = ints k a ++ ints k b := by simp [ints]
theorem ints_one (k : IntKind) (zs : List Nat) : ∀ u ∈ ints k zs, u.oneCell' = true := by
  intro u hu
  obtain ⟨_, _, rfl⟩ := List.mem_map.1 hu
  rfl
theorem ints_get (k : IntKind) (zs : List Nat) (i : Nat) (h : i < zs.length) : (ints k zs)[i]? = some (.int k ((zs.getD i 0 : Nat) : Int)) := by
  simp [ints, h]

/-- An owned row of numbers, read as a slice. -/
theorem own_row {k : IntKind} {w : World} {base : Nat} {e : TypeId} {v : Value} {n : Nat} {zs : List Nat} (h : w.ownsRow base e 1 v n (ints k zs)) :
    ∃ a cap, v = .slice a n cap ∧ RowAt k w a n cap zs ∧ (∀ b off, a = some ⟨b, off, none⟩ → base ≤ b ∧ b < w.heap.size) := by
  have hl : zs.length = n := by have := h.1; rw [ints_length] at this; omega
  rcases h.2 with ⟨rfl, hn⟩ | ⟨g, cap, cur, rfl, hb, hg, hnc, hcm, hcs, htake⟩
  · refine ⟨none, 0, by rw [hn], ⟨hl, by omega, by simp [maxLen], fun _ => ⟨hn, rfl⟩, fun hp => by omega⟩, fun b off h0 => by simp at h0⟩
  · refine ⟨some ⟨g, 0, none⟩, cap, rfl, ⟨hl, hnc, hcm, fun h0 => by simp at h0, fun hp => ⟨g, 0, rfl, fun i hi => ?_⟩⟩, fun b off h' => ?_⟩
    · rw [Nat.zero_add, h.cellAt i (by omega), ints_get k zs i (by omega)]
    · simp only [Option.some.injEq, Addr.mk.injEq] at h'
      rw [← h'.1]
      exact ⟨hb, (Array.getElem?_eq_some_iff.1 hg).1⟩

/-- What is owned stays owned over steps that leave old blocks alone. -/
theorem own_below {w w' : World} {base : Nat} {e : TypeId} {size : Nat} {v : Value} {n : Nat} {xs : List Value} (h : w.ownsRow base e size v n xs) {B : Nat} (hb : Below B w w') (hB : ∀ g, v.ownBlock = some g → g < B) : w'.ownsRow base e size v n xs := by
  obtain ⟨h1, h2⟩ := h
  refine ⟨h1, ?_⟩
  rcases h2 with h2 | ⟨g, cap, cur, rfl, hg, hh, r⟩
  · exact Or.inl h2
  · exact Or.inr ⟨g, cap, cur, rfl, hg, by rw [hb.block g (hB g rfl)]; exact hh, r⟩

theorem own_later {w w' : World} {base : Nat} {e : TypeId} {size : Nat} {v : Value} {n : Nat} {xs : List Value} (h : w.ownsRow base e size v n xs) (hb : Below w.heap.size w w') : w'.ownsRow base e size v n xs :=
  own_below h hb fun g hg => (h.lt g hg).2

/-- A copy that is made up to k. -/
def copied (k : IntKind) (zs : List Nat) (n i : Nat) : List Value := ints k (zs.take i) ++ List.replicate (n - i) (.int k 0)

theorem copied_zero (k : IntKind) (zs : List Nat) (n : Nat) : copied k zs n 0 = List.replicate n (.int k 0) := by simp [copied, ints]
theorem copied_full (k : IntKind) (zs : List Nat) (n : Nat) (h : zs.length = n) : copied k zs n n = ints k zs := by
  simp [copied, ← h]
theorem copied_set (k : IntKind) (zs : List Nat) (n i : Nat) (h : zs.length = n) (hi : i < n) : (copied k zs n i).set i (.int k ((zs.getD i 0 : Nat) : Int)) = copied k zs n (i + 1) := by
  have hl : (ints k (zs.take i)).length = i := by rw [ints_length, List.length_take]; omega
  unfold copied
  rw [List.set_append_right _ _ (by omega), hl, Nat.sub_self, show n - i = (n - (i + 1)) + 1 by omega, List.replicate_succ, List.set_cons_zero]
  rw [List.take_succ_eq_append_getElem (by omega), ints_append, List.append_assoc]
  congr 1
  have hil : i < zs.length := by omega
  simp [ints, hil]

theorem wrapN (k : Nat) (h : k ≤ 1000000000) : IntKind.i64.wrap (k : Int) = (k : Int) := by rw [IntKind.wrap_i64]; omega

theorem Try.info5 : (Try.prog.info? 5).map (fun i => (i.zero, i.size, i.bytes)) = some (some (.int .u8 0), 1, 1) := by kernel_rfl

end Go.Proofs.Qxb6600478a
