import Derived.Test.YbulkapquB4
import Derived.ChangeKeysEq
namespace Go.Proofs.Ybulkapqu
open Go.RowKit Go.Sort

theorem cells5 : Yba.prog.cellsOf 5 = 1 := by kernel_rfl
theorem run_part5 (la : List UInt8) (j : Nat) (hj : j < la.length) (w : World) : (part 5 (idV la).toArray (j * 1)).run Yba.prog w = .ok (.int .u8 ((la.getD j 0).toNat : Int)) w := by
  have : (idV la).toArray[j]? = some (.int .u8 ((la.getD j 0).toNat : Int)) := by
    simp [idV, List.getElem?_eq_getElem hj, List.getD_eq_getElem?_getD]
  simp [part, Yba.isAgg5, this]

theorem run_eqItems_ids (d : Nat) (la lb : List UInt8) : ∀ (is : List Nat) (w : World), (∀ i ∈ is, i < la.length ∧ i < lb.length) →
    (Op.eqItems (d + 1) 5 (Yba.prog.cellsOf 5) (idV la).toArray (idV lb).toArray is).run Yba.prog w = .ok (is.all fun i => la.getD i 0 == lb.getD i 0) w
  | [], w, _ => by simp [Op.eqItems]
  | j :: is, w, h => by
    obtain ⟨ha, hb⟩ := h j (List.mem_cons_self)
    rw [cells5]
    simp only [Op.eqItems, Sem.run_bind, run_part5 la j ha, run_part5 lb j hb, Result.andThen_ok]
    rw [run_equalIn_int w d 5 .u8 .u8 _ _ Yba.underlying5]
    simp only [Result.andThen_ok, List.all_cons]
    have e : ((((la.getD j 0).toNat : Int)) == ((lb.getD j 0).toNat : Int)) = (la.getD j 0 == lb.getD j 0) := by
      rw [Bool.eq_iff_iff]
      simp only [beq_iff_eq]
      constructor
      · intro h1; exact UInt8.toNat_inj.1 (by omega)
      · intro h1; rw [h1]
    rw [e]
    cases (la.getD j 0 == lb.getD j 0) with
    | false => simp
    | true =>
      have ih := run_eqItems_ids d la lb is w (fun i hi => h i (List.mem_cons_of_mem _ hi))
      rw [cells5] at ih
      simpa using ih

set_option maxRecDepth 100000 in
theorem run_eqIds (la lb : List UInt8) (hla : la.length = 20) (hlb : lb.length = 20) (w : World) : (Op.equalIn 10000 37 (.agg (idV la).toArray) (.agg (idV lb).toArray)).run Yba.prog w = .ok (decide (la = lb)) w := by
  obtain ⟨i, hi⟩ : ∃ i, Yba.prog.info? 5 = some i := by
    have : (Yba.prog.info? 5).isSome = true := by kernel_rfl
    exact Option.isSome_iff_exists.1 this
  rw [run_equalIn_array w 9999 (n := 20) (e := 5) _ _ (by kernel_rfl) hi, run_eqItems_ids 9998 la lb _ w (fun i hi => by have := List.mem_range.1 hi; omega)]
  congr 1
  rw [Bool.eq_iff_iff]
  simp only [List.all_eq_true, List.mem_range, beq_iff_eq, decide_eq_true_eq]
  constructor
  · intro h
    apply List.ext_getElem (by omega)
    intro k h1 h2
    have := h k (by omega)
    simpa [List.getD_eq_getElem?_getD, h1, h2] using this
  · rintro rfl k _
    rfl
end Go.Proofs.Ybulkapqu
