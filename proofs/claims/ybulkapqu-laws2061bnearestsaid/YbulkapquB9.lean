import Derived.Test.YbulkapquB7
import Derived.Test.YbulkapquB8
namespace Go.Proofs.Ybulkapqu
open Go.RowKit Go.Sort

theorem dist_val (lk la : List UInt8) (hk : lk.length = 20) (ha : la.length = 20) : Lib.beNat (distL lk la) = min (dn (Lib.beNat lk) (Lib.beNat la)) (up (Lib.beNat lk) (Lib.beNat la)) := by
  have h1 := sub_val lk la hk ha
  have h2 := sub_val la lk ha hk
  unfold distL
  rw [h1, h2]
  unfold up dn
  split
  · rw [h2]; omega
  · rw [h1]; omega
theorem near_val (lk la lb : List UInt8) (hk : lk.length = 20) (ha : la.length = 20) (hb : lb.length = 20) : nearL lk la lb = decide (rank (Lib.beNat lk) (Lib.beNat la) < rank (Lib.beNat lk) (Lib.beNat lb)) := by
  have key := near_rank (Lib.beNat lk) (Lib.beNat la) (Lib.beNat lb) (beNat_lt20 lk hk) (beNat_lt20 la ha) (beNat_lt20 lb hb)
  have e1 : (la ≠ lb) ↔ Lib.beNat la ≠ Lib.beNat lb := ⟨fun h e => h (beNat_inj _ _ (ha.trans hb.symm) e), fun h e => h (by rw [e])⟩
  have e2 : (subL la lk = distL lk la) ↔ up (Lib.beNat lk) (Lib.beNat la) = min (dn (Lib.beNat lk) (Lib.beNat la)) (up (Lib.beNat lk) (Lib.beNat la)) := by
    rw [← dist_val lk la hk ha, show up (Lib.beNat lk) (Lib.beNat la) = Lib.beNat (subL la lk) from (sub_val la lk ha hk).symm]
    exact ⟨fun h => by rw [h], fun h => beNat_inj _ _ ((length_subL la lk).trans (length_distL lk la).symm) h⟩
  unfold nearL
  rw [dist_val lk la hk ha, dist_val lk lb hk hb]
  by_cases h : min (dn (Lib.beNat lk) (Lib.beNat la)) (up (Lib.beNat lk) (Lib.beNat la)) = min (dn (Lib.beNat lk) (Lib.beNat lb)) (up (Lib.beNat lk) (Lib.beNat lb))
  · rw [if_pos h] at key ⊢
    rw [← Bool.decide_and]
    exact decide_eq_decide.2 ((and_congr e1 e2).trans key)
  · rw [if_neg h] at key ⊢
    exact decide_eq_decide.2 key
end Go.Proofs.Ybulkapqu
