import Derived.Test.Qxb6003660aBase
import Derived.WalkSmall
namespace Go.Proofs.Qxb6003660a
open Go.RowKit

/-- What a run of appends onto v leaves: of old blocks only v's own may have turned; what comes back lies there, or in a new block. -/
structure Ap (w w' : World) (v v' : Value) : Prop where
  grown : w.grownBy w' v.ownBlock
  lies : v'.ownBlock = v.ownBlock ∨ ∃ g, v'.ownBlock = some g ∧ w.heap.size ≤ g

theorem Ap.refl (w : World) (v : Value) : Ap w w v v := ⟨World.grownBy.refl _ _, .inl rfl⟩

theorem Ap.size {w w' : World} {v v' : Value} (h : Ap w w' v v') : w.heap.size ≤ w'.heap.size := h.grown.size

/-- One more step that turns only the row of what came back, or new blocks. -/
theorem Ap.step {w w1 w2 : World} {v v1 v2 : Value} (h : Ap w w1 v v1) (hg : w1.grownBy w2 v1.ownBlock) (hl : v2.ownBlock = v1.ownBlock ∨ v2.ownBlock = some w1.heap.size) : Ap w w2 v v2 := by
  refine ⟨⟨hg.os.trans h.grown.os, hg.tape.trans h.grown.tape, hg.output.trans h.grown.output, Nat.le_trans h.grown.size hg.size, fun k hk hne => ?_⟩, ?_⟩
  · have hs := h.size
    rw [hg.block k (by omega) ?_, h.grown.block k hk hne]
    rcases h.lies with e | ⟨g, e, hgs⟩
    · rw [e]; exact hne
    · rw [e]; simp; omega
  · rcases hl with e | e
    · rw [e]; exact h.lies
    · exact .inr ⟨_, e, h.size⟩

theorem Ap.trans {w w1 w2 : World} {v v1 v2 : Value} (h : Ap w w1 v v1) (h2 : Ap w1 w2 v1 v2) : Ap w w2 v v2 := by
  refine ⟨⟨h2.grown.os.trans h.grown.os, h2.grown.tape.trans h.grown.tape, h2.grown.output.trans h.grown.output, Nat.le_trans h.grown.size h2.grown.size, fun k hk hne => ?_⟩, ?_⟩
  · have hs := h.size
    rw [h2.grown.block k (by omega) ?_, h.grown.block k hk hne]
    rcases h.lies with e | ⟨g, e, hgs⟩
    · rw [e]; exact hne
    · rw [e]; simp; omega
  · rcases h2.lies with e | ⟨g, e, hgs⟩
    · rw [e]; exact h.lies
    · exact .inr ⟨g, e, Nat.le_trans h.size hgs⟩

/-- A step that leaves all old blocks alone. -/
theorem Ap.below {w w1 w2 : World} {v v1 : Value} (h : Ap w w1 v v1) (hb : Below w1.heap.size w1 w2) : Ap w w2 v v1 :=
  h.trans ⟨⟨hb.os, hb.tape, hb.output, hb.size, fun k hk _ => hb.block k hk⟩, .inl rfl⟩

/-- Below a base beneath the row nothing has turned. -/
theorem Ap.toBelow {w w' : World} {v v' : Value} (h : Ap w w' v v') {B : Nat} (hB : B ≤ w.heap.size) (hv : ∀ g, v.ownBlock = some g → B ≤ g) : Below B w w' :=
  ⟨h.grown.os, h.grown.tape, h.grown.output, h.grown.size, fun k hk => h.grown.block k (by omega) (fun e => by have := hv k e.symm; omega)⟩

theorem Ap.cell {w w' : World} {v v' : Value} (h : Ap w w' v v') {b o : Nat} (hb : b < w.heap.size) (hne : v.ownBlock ≠ some b) : w'.cell? ⟨b, o, none⟩ = w.cell? ⟨b, o, none⟩ :=
  World.cell?_of_block (a := ⟨b, o, none⟩) (h.grown.block b hb (fun e => hne e.symm))

/-- A slice that is read and does not lie in the row that is appended to. -/
def RowX (k : IntKind) (w : World) (a : Option Addr) (n cap : Nat) (zs : List Nat) (av : Option Nat) : Prop :=
  RowAt k w a n cap zs ∧ (0 < n → ∀ b off, a = some ⟨b, off, none⟩ → av ≠ some b)

theorem RowX.cells {k : IntKind} {w w' : World} {a : Option Addr} {n cap : Nat} {zs : List Nat} {v v' : Value} (h : RowX k w a n cap zs v.ownBlock) (ha : Ap w w' v v') (hp : 0 < n) :
    ∃ b off, a = some ⟨b, off, none⟩ ∧ b < w.heap.size ∧ v.ownBlock ≠ some b ∧ ∀ i, i < n → w'.cell? ⟨b, off + i, none⟩ = some (.int k ((zs.getD i 0 : Nat) : Int)) := by
  obtain ⟨⟨_, _, _, _, h5⟩, h6⟩ := h
  obtain ⟨b, off, rfl, hc⟩ := h5 hp
  have hlt : b < w.heap.size := World.block_lt_of_cell? w _ (hc 0 hp)
  have hne := h6 hp b off rfl
  exact ⟨b, off, rfl, hlt, hne, fun i hi => (ha.cell hlt hne).trans (hc i hi)⟩

/-- The rest of a slice behind its first m numbers, whatever address a cut at the capacity's end bears. -/
theorem RowX.drop {k : IntKind} {w : World} {a a' : Option Addr} {n cap cap' : Nat} {zs : List Nat} {av : Option Nat} {b off m : Nat} (h : RowX k w a n cap zs av) (ha : a = some ⟨b, off, none⟩) (hm : m ≤ n) (hn : a' ≠ none) (ha' : m < n → a' = some ⟨b, off + m, none⟩) (hc : n - m ≤ cap') (hc' : cap' ≤ maxLen) :
    RowX k w a' (n - m) cap' (zs.drop m) av := by
  obtain ⟨⟨h1, h2, h3, h4, h5⟩, h6⟩ := h
  refine ⟨⟨by rw [List.length_drop, h1], hc, hc', fun e => absurd e hn, fun hp => ?_⟩, fun hp b' off' e => ?_⟩
  · obtain ⟨b2, off2, e2, hcell⟩ := h5 (by omega)
    rw [ha] at e2
    simp only [Option.some.injEq, Addr.mk.injEq, and_true] at e2
    obtain ⟨rfl, rfl⟩ := e2
    refine ⟨b, off + m, ha' (by omega), fun i hi => ?_⟩
    rw [Nat.add_assoc, hcell (m + i) (by omega)]
    simp [List.getD_eq_getElem?_getD, List.getElem?_drop]
  · rw [ha' (by omega)] at e
    simp only [Option.some.injEq, Addr.mk.injEq, and_true] at e
    rw [← e.1]
    exact h6 (by omega) b off ha

end Go.Proofs.Qxb6003660a
