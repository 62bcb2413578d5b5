import Derived.Test.YbulkapquC11
namespace Go.Proofs.Ybulkapqu
open Go.RowKit Go.Sort

set_option maxHeartbeats 4000000 in
set_option maxRecDepth 1000000 in
theorem speaksFor_calls (c : Cfg) (ok : Ok c) (w : World) (h : Mem c w) (r : Nat) (hr : r < c.nr) (id : List UInt8) (hid : id.length = 20) (hlen : (c.cw r).length ≤ 100000) (h20 : ∀ l ∈ c.cw r, l.length = 20) :
    Calls Yba.prog 26 #[.pointer (some ⟨c.MB, 0, none⟩), .int .i64 (r : Int), .agg (idV id).toArray] w fun e w' => e = .returned (.bool (!(spkB c r id))) ∧ Gr w w' := by
  obtain ⟨S, hS⟩ : ∃ S, S = w.heap.size := ⟨_, rfl⟩
  obtain ⟨w1, hw1⟩ : ∃ w1, w1 = w.alloc (.cells (idV id).toArray 37) := ⟨_, rfl⟩
  have g1 : Gr w w1 := by rw [hw1]; exact (Gr.refl w).alloc _
  have aI : At w1 S (idV id).toArray 37 := by rw [hw1, hS]; exact At.new w _ _
  have L1 := hide (idload aI.all hid)
  have HC := hide (speaker_calls c ok w1 (h.gr g1) r hr id hid hlen h20)
  have HW := hide hw1
  have HS := hide hS
  have HG := hide g1
  have HZ := hide zeroP_eq
  generalize spkB c r id = b at *
  clear h g1 aI hw1 hS ok h20
  go_enter Yba.func26, Yba.ntmps26
  go_upto_region 1 with fail
  rw [← HW.out, ← HS.out]
  go_wp2_with (first | refine wpList_load_run rfl 37 _ rfl S 0 rfl _ L1.out ?_)
  refine HC.out.mono ?_
  rintro e w2 ⟨⟨l, hl, rfl⟩, g2⟩
  obtain ⟨X, hX⟩ : ∃ X, X = w2.heap.size := ⟨_, rfl⟩
  obtain ⟨w3, hw3⟩ : ∃ w3, w3 = w2.alloc (.cells zeroP 110) := ⟨_, rfl⟩
  have aX : At w3 X (peerV (List.replicate 20 0)).toArray 110 := by rw [hw3, hX]; exact At.new w2 _ _
  have TX := hide (aX.pthere (by simp) hl)
  have HO := hide (peer_one l)
  have HN := hide (peer_info hl)
  have HG2 : Hid (Gr w (w3.setCells X 0 (peerV l).toArray.toList)) := (HG.out.trans g2).trans (by rw [hw3]; exact Gr.setCells X (by omega) _ _ _ ((Gr.refl w2).alloc _))
  have HX := hide hX
  have HW3 := hide hw3
  clear HG g2 HC L1 HW hX hw3 aX
  go_wp2_with (first | (rw [← HZ.out, ← HW3.out, ← HX.out]; refine wpList_store_mid rfl 110 _ _ rfl X 0 _ rfl rfl TX.out HN.out HO.out ?_))
  go_ret
  exact ⟨rfl, HG2.out⟩
end Go.Proofs.Ybulkapqu
