import Derived.Test.YbulkapquC34
namespace Go.Proofs.Ybulkapqu
open Go.RowKit Go.Sort

theorem box20 (w : World) (l : List UInt8) (hl : l.length = 20) : (w.alloc (.cells zeroA 37)).there w.heap.size 0 (idV l).toArray.size ∧ Gr w ((w.alloc (.cells zeroA 37)).setCells w.heap.size 0 (idV l)) ∧ At ((w.alloc (.cells zeroA 37)).setCells w.heap.size 0 (idV l)) w.heap.size (idV l).toArray 37 := by
  have a := At.new w zeroA 37
  have hz : zeroA.toList.length = 20 := by kernel_rfl
  refine ⟨?_, Gr.setCells _ (Nat.le_refl _) _ _ _ ((Gr.refl w).alloc _), ?_⟩
  · rw [show (idV l).toArray.size = 20 by simp [length_idV, hl]]
    exact At.there (l := zeroA.toList) a 0 20 (by rw [hz]; omega)
  · exact At.lput (l0 := zeroA.toList) a (by rw [length_idV, hl, hz])
theorem info37s (l : List UInt8) (hl : l.length = 20) : (Yba.prog.info? 37).map (·.size) = some (idV l).toArray.size := by
  rw [show (idV l).toArray.size = 20 by simp [length_idV, hl]]; kernel_rfl
def BytesAt (w : World) (a : Option Addr) (n : Nat) : Prop := ∀ i, i < n → ∃ b o v : Nat, a = some ⟨b, o, none⟩ ∧ v < 256 ∧ w.cell? ⟨b, o + i, none⟩ = some (.int .u8 (v : Int))
theorem below_cell {S : Nat} {w W : World} (h : Below S w W) (hS : S = w.heap.size) {a : Addr} {v : Value} (hc : w.cell? a = some v) : W.cell? a = some v := by
  have hlt := World.block_lt_of_cell? _ _ hc
  exact (World.cell?_of_block (h.block a.block (by omega))).trans hc
theorem built114 (stamp : Int) (r0 r1 h0 h1 : Bool) : Yba.prog.built 114 [(0, .int .u64 stamp), (2, .agg #[.bool r0, .bool r1]), (3, .agg #[.bool h0, .bool h1])] = some #[.int .u64 stamp, .int .i64 0, .bool r0, .bool r1, .bool h0, .bool h1, .int .u64 0, .int .u64 0, .pointer none, .int .u16 0] := by kernel_rfl
theorem built114z : (Yba.prog.built 114 []).map (·.size) = some 10 := by kernel_rfl
theorem z108 : Yba.zeroCells108 = (List.replicate 256 (Value.bool false)).toArray := by kernel_rfl
theorem run_eq49 (a b : Bool) (w : World) : (Op.equalIn 10000 49 (.agg #[.bool a, .bool b]) (.agg #[.bool a, .bool b])).run Yba.prog w = .ok true w := by
  cases a <;> cases b <;> kernel_rfl
def mkK (MB RB LB SU WA D TR S SB Q nr x t : Nat) (self did : List UInt8) (rel hand wat : Nat → Bool) (w : World) : Kc :=
  { c := newCfg MB RB LB SU WA nr x x t self, D := D, TR := TR, S0 := S, SB := SB, DB := Q, base := S, did := did, rel := rel, hand := hand, wat := wat, w0 := w }
theorem lw_start {w w4 : World} {MB RB LB SU WA D TR S Q nr x t : Nat} {self did : List UInt8} {rel hand wat : Nat → Bool} {v : Nat → Value} (hM : Mb (newCfg MB RB LB SU WA nr x x t self) D TR [] v w4) (hR : Rows w4 S v (ids0 nr self)) (hg : Gr w w4) (hS : S = w.heap.size)
    (f1 : At w4 S (twoV rel) 49) (f2 : At w4 (S + 1) (twoV hand) 49) (f3 : At w4 (S + 1 + 1) (twoV wat) 49) (f4 : At w4 TR #[.slice none 0 0] 55) (f5 : At w4 Q (idV did).toArray 37) (ok : (mkK MB RB LB SU WA D TR S w4.heap.size Q nr x t self did rel hand wat w).Ok) (j : Nat) :
    LW (mkK MB RB LB SU WA D TR S w4.heap.size Q nr x t self did rel hand wat w) 1 v (ids0 nr self) [] ((w4.alloc (.cells Yba.zeroCells108 108)).setCell ⟨w4.heap.size, j, none⟩ (.bool true)) := by
  have g4 : Gr w4 (w4.alloc (.cells Yba.zeroCells108 108)) := (Gr.refl w4).alloc _
  have h : LW (mkK MB RB LB SU WA D TR S w4.heap.size Q nr x t self did rel hand wat w) 1 v (ids0 nr self) [] (w4.alloc (.cells Yba.zeroCells108 108)) := by
    refine ⟨hM.gr g4, hR.gr g4, fun i => ?_, by simp, ⟨f1.gr g4, f2.gr g4, f3.gr g4, f4.gr g4, f5.gr g4, ⟨_, by rw [z108, List.size_toArray, List.length_replicate], fun i hi => ⟨false, ?_⟩, At.new _ _ _⟩⟩, ?_⟩
    · unfold ids0; split
      · simp
      · split <;> simp
    · rw [z108, List.getElem?_toArray, List.getElem?_replicate, if_pos hi]
    · have := (hg.trans g4).below S (by omega)
      exact this
  exact h.seen ok j
end Go.Proofs.Ybulkapqu
