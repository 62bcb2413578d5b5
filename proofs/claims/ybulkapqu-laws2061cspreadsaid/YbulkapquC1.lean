import Derived.Test.YbulkapquB12
import Derived.Laws.BitsAllLaws
import Derived.OpenShut
namespace Go.Proofs.Ybulkapqu
open Go.RowKit Go.Sort

/-! ### zzs2061cid -/
def cidX (v : Int) : Int := bits BinOp.xor IntKind.u8 v 90
theorem u8_range {n : Int} (h : (Lit.int .u8 n).wf = true) : 0 ≤ n ∧ n ≤ 255 := by
  simp only [Lit.wf, Bool.and_eq_true, decide_eq_true_eq] at h
  exact h
theorem cidX_range (v : Int) : 0 ≤ cidX v ∧ cidX v ≤ 255 := u8_range (wf_bits _ _ _ _)
def cidL (v : Int) : List UInt8 := (((List.replicate 20 0).set 0 (UInt8.ofNat v.toNat)).set 1 (UInt8.ofNat (cidX v).toNat)).set 19 (UInt8.ofNat v.toNat)
theorem length_cidL (v : Int) : (cidL v).length = 20 := by simp [cidL]
theorem byte_back (v : Int) (h0 : 0 ≤ v) (h1 : v ≤ 255) : (((UInt8.ofNat v.toNat).toNat : Nat) : Int) = v := by rw [UInt8.toNat_ofNat']; omega
theorem cidV_eq (v : Int) (h0 : 0 ≤ v) (h1 : v ≤ 255) : ((zeroA.setIfInBounds 0 (.int .u8 v)).setIfInBounds 1 (.int .u8 (cidX v))).setIfInBounds 19 (.int .u8 v) = (idV (cidL v)).toArray := by
  have e1 := byte_back v h0 h1
  have e2 := byte_back (cidX v) (cidX_range v).1 (cidX_range v).2
  have : (idV (cidL v)) = (((idV (List.replicate 20 0)).set 0 (.int .u8 (((UInt8.ofNat v.toNat).toNat : Nat) : Int))).set 1 (.int .u8 (((UInt8.ofNat (cidX v).toNat).toNat : Nat) : Int))).set 19 (.int .u8 (((UInt8.ofNat v.toNat).toNat : Nat) : Int)) := by
    simp only [idV, cidL, List.map_set]
  rw [this, e1, e2, zeroA]
  simp

set_option maxHeartbeats 4000000 in
set_option maxRecDepth 1000000 in
theorem cid_calls (w : World) (v : Int) (h0 : 0 ≤ v) (h1 : v ≤ 255) : Calls Yba.prog 20 #[.int .u8 v] w fun e w' => e = .returned (.agg (idV (cidL v)).toArray) ∧ Gr w w' := by
  obtain ⟨S, hS⟩ : ∃ S, S = w.heap.size := ⟨_, rfl⟩
  obtain ⟨w1, hw1⟩ : ∃ w1, w1 = (w.alloc (.cells zeroA 37)).alloc (.cells zeroA 37) := ⟨_, rfl⟩
  have a0 : At w1 S zeroA 37 := by rw [hw1, hS]; exact (At.new w _ _).alloc _
  have a1 : At w1 (S + 1) zeroA 37 := by
    have := At.new (w.alloc (.cells zeroA 37)) zeroA 37
    rw [World.size_alloc, ← hS] at this
    rw [hw1]; exact this
  have g1 : Gr w w1 := by rw [hw1]; exact ((Gr.refl w).alloc _).alloc _
  obtain ⟨X, hX⟩ : ∃ X, X = cidX v := ⟨_, rfl⟩
  obtain ⟨w2, hw2⟩ : ∃ w2, w2 = ((w1.setCell ⟨S + 1, 0, none⟩ (.int .u8 v)).setCell ⟨S + 1, 1, none⟩ (.int .u8 X)).setCell ⟨S + 1, 19, none⟩ (.int .u8 v) := ⟨_, rfl⟩
  obtain ⟨l, hl⟩ : ∃ l, l = cidL v := ⟨_, rfl⟩
  have hl20 : l.length = 20 := by rw [hl]; exact length_cidL v
  have a2 : At w2 (S + 1) (idV l).toArray 37 := by
    have := ((a1.set 0 (.int .u8 v)).set 1 (.int .u8 (cidX v))).set 19 (.int .u8 v)
    rw [cidV_eq v h0 h1] at this
    rw [hw2, hl, hX]; exact this
  have b2 : At w2 S zeroA 37 := by rw [hw2]; exact ((a0.setOther _ _ (by simp)).setOther _ _ (by simp)).setOther _ _ (by simp)
  have g2 : Gr w w2 := by rw [hw2]; exact ((g1.setCell _ _ (by rw [← hS]; simp)).setCell _ _ (by rw [← hS]; simp)).setCell _ _ (by rw [← hS]; simp)
  have L2 := hide (idload a2.all hl20)
  have T2 := hide (b2.zthere hl20)
  have F2 := hide (b2.zput hl20)
  have g3 : Hid (Gr w (w2.setCells S 0 (idV l).toArray.toList)) := Gr.setCells S (by rw [hS]; exact Nat.le_refl _) _ _ _ g2
  have HO := hide (id_one l)
  have HN := hide (id_info hl20)
  have c0 : w1.cell? ⟨S + 1, 0, none⟩ = some (.int .u8 0) := a1.cell 0
  have c1 : w1.cell? ⟨S + 1, 1, none⟩ = some (.int .u8 0) := a1.cell 1
  have c19 : w1.cell? ⟨S + 1, 19, none⟩ = some (.int .u8 0) := a1.cell 19
  have f0 := a1.frozen 0
  have f1 := a1.frozen 1
  have f19 := a1.frozen 19
  have hxx : bits BinOp.xor IntKind.u8 v 90 = X := by rw [hX]; rfl
  have HW := hide hw1
  have HW2 := hide hw2
  have HS := hide hS
  have HZ := hide zeroA_eq
  have HL := hide hl
  clear hw1 hw2 hS a0 a1 g1 a2 b2 g2 hX hl
  go_enter Yba.func20, Yba.ntmps20
  go_upto_region 2 with fail
  rw [← HZ.out, ← HW.out, ← HS.out]
  go_upto_region 5 with fail
  rw [← HW2.out]
  go_wp2_with (first | refine wpList_load_run rfl 37 _ rfl (S + 1) 0 rfl _ L2.out ?_ | refine wpList_store_mid rfl 37 _ _ rfl S 0 _ rfl rfl T2.out HN.out HO.out ?_)
  refine bodyPost_ret_by (results_cell_row (P := Yba.prog) (p := 2) (ty := 37) rfl _ _ S 37 (idV l).toArray _ _ rfl F2.out Yba.underlying37 rfl HN.out) rfl ?_
  exact ⟨by rw [← HL.out], g3.out⟩

/-! ### layouts -/
def layV (x f t : Int) : Array Value := #[.int .i64 x, .int .i64 f, .int .i64 t]
set_option maxHeartbeats 4000000 in
set_option maxRecDepth 1000000 in
theorem rings_calls (w : World) (x f t : Int) : Calls Yba.prog 35 #[.agg (layV x f t)] w fun e w' => e = .returned (.int .i64 (if t > f then 2 else 1)) ∧ Gr w w' := by
  by_cases h : f < t
  · rw [if_pos h]
    unfold layV
    go_enter Yba.func35, Yba.ntmps35
    go_wp2
    go_ret
    exact ⟨rfl, (Gr.refl w).alloc _⟩
  · rw [if_neg h]
    unfold layV
    go_enter Yba.func35, Yba.ntmps35
    go_wp2
    go_ret
    exact ⟨rfl, (Gr.refl w).alloc _⟩
end Go.Proofs.Ybulkapqu
