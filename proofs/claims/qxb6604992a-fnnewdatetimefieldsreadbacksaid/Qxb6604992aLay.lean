import Derived.Test.Qxb6604992aDay
namespace Go.Proofs.Qxb6604992a
open Go.RowKit Plain

theorem lay_bits0 (D h mi s p o f : Nat) (hD : D ≤ 3652424) (h1 : h ≤ 24) (mi1 : mi ≤ 59) (s1 : s ≤ 60) (p1 : p ≤ 7) (ho : o < 4096) (hf : f ≤ 2) :
    bits BinOp.or IntKind.u64 (bits BinOp.or IntKind.u64 (bits BinOp.or IntKind.u64 (131072 * (D : Int)) (64 * (60 * (h : Int) + (mi : Int)) + (s : Int))) (8796093022208 * (f : Int) + 4503599627370496 * (o : Int))) ((p : Int) * 1099511627776) = ((lay D (60 * h + mi) s o f p 0 : Nat) : Int) := by
  have e1 : (131072 * D) ||| (64 * (60 * h + mi) + s) = 131072 * D + (64 * (60 * h + mi) + s) := or_low 17 D _ (by omega)
  have a1 : bits BinOp.or IntKind.u64 (131072 * (D : Int)) (64 * (60 * (h : Int) + (mi : Int)) + (s : Int)) = ((131072 * D + (64 * (60 * h + mi) + s) : Nat) : Int) := by
    rw [show (131072 * (D : Int)) = ((131072 * D : Nat) : Int) by omega, show (64 * (60 * (h : Int) + (mi : Int)) + (s : Int)) = ((64 * (60 * h + mi) + s : Nat) : Int) by omega, u64_or_nat _ _ (by omega) (by omega), e1]
  rw [a1]
  have hA : 131072 * D + (64 * (60 * h + mi) + s) < 549755813888 := by omega
  have e2 : (8796093022208 * (f + 512 * o)) ||| (131072 * D + (64 * (60 * h + mi) + s)) = 8796093022208 * (f + 512 * o) + (131072 * D + (64 * (60 * h + mi) + s)) := or_low 43 (f + 512 * o) _ (by omega)
  have a2 : bits BinOp.or IntKind.u64 ((131072 * D + (64 * (60 * h + mi) + s) : Nat) : Int) (8796093022208 * (f : Int) + 4503599627370496 * (o : Int)) = ((8796093022208 * (f + 512 * o) + (131072 * D + (64 * (60 * h + mi) + s)) : Nat) : Int) := by
    rw [show (8796093022208 * (f : Int) + 4503599627370496 * (o : Int)) = ((8796093022208 * (f + 512 * o) : Nat) : Int) by omega, u64_or_nat _ _ (by omega) (by omega), Nat.or_comm, e2]
  rw [a2]
  have e3 : (8796093022208 * (f + 512 * o) + (131072 * D + (64 * (60 * h + mi) + s))) ||| (1099511627776 * p) = 8796093022208 * (f + 512 * o) + (1099511627776 * p + (131072 * D + (64 * (60 * h + mi) + s))) := or_mid 40 3 (f + 512 * o) _ p (by omega) (by omega)
  have hp : (p : Int) * 1099511627776 = ((1099511627776 * p : Nat) : Int) := by omega
  rw [hp, u64_or_nat _ _ (by omega) (by omega), e3]
  unfold lay
  omega

theorem lay_bits0w (D h mi s p o f : Nat) (hD : D ≤ 3652424) (h1 : h ≤ 24) (mi1 : mi ≤ 59) (s1 : s ≤ 60) (p1 : p ≤ 7) (ho : o < 4096) (hf : f ≤ 2) :
    bits BinOp.or IntKind.u64 (bits BinOp.or IntKind.u64 (bits BinOp.or IntKind.u64 (131072 * (D : Int)) (64 * (60 * (h : Int) + (mi : Int)) + (s : Int))) (8796093022208 * (f : Int) + 4503599627370496 * (o : Int))) (IntKind.u64.wrap (IntKind.u64.wrap (p : Int) * 1099511627776)) = ((lay D (60 * h + mi) s o f p 0 : Nat) : Int) := by
  have e1 : IntKind.u64.wrap (p : Int) = (p : Int) := by rw [IntKind.wrap_u64]; omega
  have e2 : IntKind.u64.wrap ((p : Int) * 1099511627776) = (p : Int) * 1099511627776 := by rw [IntKind.wrap_u64]; omega
  rw [e1, e2]
  exact lay_bits0 D h mi s p o f hD h1 mi1 s1 p1 ho hf

theorem lay_bits1 (D mn s p o f : Nat) (hD : D ≤ 3652424) (h1 : mn ≤ 1499) (s1 : s ≤ 60) (p1 : p ≤ 7) (ho : o < 4096) (hf : f ≤ 2) :
    bits BinOp.or IntKind.u64 ((lay D mn s o f p 0 : Nat) : Int) 549755813888 = ((lay D mn s o f p 1 : Nat) : Int) := by
  have e : (1099511627776 * (p + 8 * (f + 512 * o)) + (131072 * D + (64 * mn + s))) ||| (549755813888 * 1) = 1099511627776 * (p + 8 * (f + 512 * o)) + (549755813888 * 1 + (131072 * D + (64 * mn + s))) := or_mid 39 1 (p + 8 * (f + 512 * o)) _ 1 (by omega) (by omega)
  have h0 : lay D mn s o f p 0 = 1099511627776 * (p + 8 * (f + 512 * o)) + (131072 * D + (64 * mn + s)) := by unfold lay; omega
  have h2 : lay D mn s o f p 1 = 1099511627776 * (p + 8 * (f + 512 * o)) + (549755813888 * 1 + (131072 * D + (64 * mn + s))) := by unfold lay; omega
  rw [h2, ← e, h0]
  have h3 := u64_or_nat (1099511627776 * (p + 8 * (f + 512 * o)) + (131072 * D + (64 * mn + s))) (549755813888 * 1) (by omega) (by omega)
  exact h3

theorem lay_lt (D mn s p o f t : Nat) (hD : D ≤ 3652424) (h1 : mn ≤ 1499) (s1 : s ≤ 60) (p1 : p ≤ 7) (ho : o < 4096) (hf : f ≤ 2) (ht : t ≤ 1) : lay D mn s o f p t < 18446744073709551616 := by
  unfold lay; omega

theorem clock_wrap (h mi : Nat) (h1 : h ≤ 24) (mi1 : mi ≤ 59) : IntKind.i64.wrap (IntKind.i64.wrap (60 * (h : Int)) + (mi : Int)) = ((60 * h + mi : Nat) : Int) := by
  have e1 : IntKind.i64.wrap (60 * (h : Int)) = 60 * (h : Int) := by rw [IntKind.wrap_i64]; omega
  rw [e1, IntKind.wrap_i64]; omega

end Go.Proofs.Qxb6604992a
