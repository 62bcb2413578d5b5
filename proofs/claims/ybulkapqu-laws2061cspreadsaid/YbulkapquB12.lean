import Derived.Test.YbulkapquA6
import Derived.Test.YbulkapquB5
namespace Go.Proofs.Ybulkapqu
open Go.RowKit Go.Sort

theorem below_setCells {S : Nat} {w : World} (b : Nat) (hb : S ≤ b) : ∀ (vs : List Value) (o : Nat) (w' : World), Below S w w' → Below S w (w'.setCells b o vs)
  | [], _, _, h => h
  | v :: r, o, _, h => below_setCells b hb r (o + 1) _ (h.setCell (p := ⟨b, o, none⟩) hb v)
theorem IdsAt.there {w : World} {B : Nat} {ids : List (List UInt8)} (h : IdsAt w B ids) (i : Nat) (hi : i < ids.length) (l : List UInt8) (hl : l.length = 20) : w.there B (i * 20) (idV l).toArray.size := fun j hj => by
  obtain ⟨C, hC⟩ := h.blk
  refine ⟨?_, hC.frozen _⟩
  have hj' : j < 20 := by simpa [length_idV, hl] using hj
  have h20 := h.len _ (List.getElem_mem hi)
  have := h.row i _ (List.getElem?_eq_getElem hi) j _ (List.getElem?_eq_getElem (by rw [length_idV, h20]; exact hj'))
  rw [this]
  rfl
theorem IdsAt.put {w : World} {B : Nat} {ids : List (List UInt8)} (h : IdsAt w B ids) (i : Nat) (hi : i < ids.length) (l : List UInt8) (hl : l.length = 20) : IdsAt (w.setCells B (i * 20) (idV l).toArray.toList) B (ids.set i l) := by
  have ht := h.there i hi l hl
  obtain ⟨C, hC⟩ := h.blk
  show IdsAt (w.setCells B (i * 20) (idV l)) B (ids.set i l)
  have hsz : i * 20 + (idV l).length ≤ C.toList.length := by
    have h19 := (ht 19 (by simp [length_idV, hl])).1
    rw [hC.cell] at h19
    have : i * 20 + 19 < C.size := by
      simpa using h19
    rw [length_idV, hl, Array.length_toList]
    omega
  refine ⟨⟨_, At.setCells (idV l) (i * 20) w C.toList (by simpa using hC) hsz⟩, fun m hm => ?_, fun i' l' hl' => ?_⟩
  · rcases List.mem_or_eq_of_mem_set hm with h1 | rfl
    · exact h.len m h1
    · exact hl
  · by_cases e : i = i'
    · subst e
      rw [List.getElem?_set_self hi] at hl'
      obtain rfl := Option.some.inj hl'
      exact World.rangeAt_setCells_same _ _ _ _ (by simpa using ht)
    · rw [List.getElem?_set_ne (by omega)] at hl'
      refine World.rangeAt_setCells_apart (h.row i' l' hl') _ _ _ (.inr ?_)
      rw [length_idV, length_idV, hl, h.len l' (List.mem_of_getElem? hl')]
      omega

/-! ### zzs2061bid -/
def bidL (v : Int) : List UInt8 := ((List.replicate 20 0).set 0 (UInt8.ofNat (v / 256).toNat)).set 19 (UInt8.ofNat (v % 256).toNat)
theorem length_bidL (v : Int) : (bidL v).length = 20 := by simp [bidL]
theorem zeroA_eq : zeroA = #[.int .u8 0, .int .u8 0, .int .u8 0, .int .u8 0, .int .u8 0, .int .u8 0, .int .u8 0, .int .u8 0, .int .u8 0, .int .u8 0, .int .u8 0, .int .u8 0, .int .u8 0, .int .u8 0, .int .u8 0, .int .u8 0, .int .u8 0, .int .u8 0, .int .u8 0, .int .u8 0] := rfl

theorem bidV_eq (v : Int) (h0 : 0 ≤ v) (h1 : v ≤ 65535) : (zeroA.setIfInBounds 0 (.int .u8 (v / 256))).setIfInBounds 19 (.int .u8 (v % 256)) = (idV (bidL v)).toArray := by
  have e1 : (((UInt8.ofNat (v / 256).toNat).toNat : Nat) : Int) = v / 256 := by rw [UInt8.toNat_ofNat']; omega
  have e2 : (((UInt8.ofNat (v % 256).toNat).toNat : Nat) : Int) = v % 256 := by rw [UInt8.toNat_ofNat']; omega
  have : (idV (bidL v)) = ((idV (List.replicate 20 0)).set 0 (.int .u8 (v / 256))).set 19 (.int .u8 (v % 256)) := by
    rw [← e1, ← e2]
    simp only [idV, bidL, List.map_set]
  rw [this, zeroA]
  simp

set_option maxHeartbeats 4000000 in
set_option maxRecDepth 1000000 in
theorem bid_calls (w : World) (v : Int) (h0 : 0 ≤ v) (h1 : v ≤ 65535) : Calls Yba.prog 18 #[.int .u16 v] w fun e w' => e = .returned (.agg (idV (bidL v)).toArray) ∧ Gr w w' := by
  obtain ⟨S, hS⟩ : ∃ S, S = w.heap.size := ⟨_, rfl⟩
  obtain ⟨w1, hw1⟩ : ∃ w1, w1 = (w.alloc (.cells zeroA 37)).alloc (.cells zeroA 37) := ⟨_, rfl⟩
  have a0 : At w1 S zeroA 37 := by rw [hw1, hS]; exact (At.new w _ _).alloc _
  have a1 : At w1 (S + 1) zeroA 37 := by
    have := At.new (w.alloc (.cells zeroA 37)) zeroA 37
    rw [World.size_alloc, ← hS] at this
    rw [hw1]; exact this
  have g1 : Gr w w1 := by rw [hw1]; exact ((Gr.refl w).alloc _).alloc _
  obtain ⟨w2, hw2⟩ : ∃ w2, w2 = (w1.setCell ⟨S + 1, 0, none⟩ (.int .u8 (v / 256))).setCell ⟨S + 1, 19, none⟩ (.int .u8 (v % 256)) := ⟨_, rfl⟩
  have a2 : At w2 (S + 1) (idV (bidL v)).toArray 37 := by
    have := (a1.set 0 (.int .u8 (v / 256))).set 19 (.int .u8 (v % 256))
    rw [bidV_eq v h0 h1] at this
    rw [hw2]; exact this
  have b2 : At w2 S zeroA 37 := by rw [hw2]; exact (a0.setOther _ _ (by simp)).setOther _ _ (by simp)
  have g2 : Gr w w2 := by rw [hw2]; exact (g1.setCell _ _ (by rw [← hS]; simp)).setCell _ _ (by rw [← hS]; simp)
  have L2 := hide (idload a2.all (length_bidL v))
  have T2 := hide (b2.zthere (length_bidL v))
  have F2 := hide (b2.zput (length_bidL v))
  have g3 : Hid (Gr w (w2.setCells S 0 (idV (bidL v)).toArray.toList)) := Gr.setCells S (by rw [hS]; exact Nat.le_refl _) _ _ _ g2
  have HO := hide (id_one (bidL v))
  have HN := hide (id_info (length_bidL v))
  have c0 : w1.cell? ⟨S + 1, 0, none⟩ = some (.int .u8 0) := a1.cell 0
  have c19 : w1.cell? ⟨S + 1, 19, none⟩ = some (.int .u8 0) := a1.cell 19
  have f0 := a1.frozen 0
  have f19 := a1.frozen 19
  have HW := hide hw1
  have HW2 := hide hw2
  have HS := hide hS
  have HZ := hide zeroA_eq
  clear hw1 hw2 hS a0 a1 g1 a2 b2 g2
  go_enter Yba.func18, Yba.ntmps18
  go_upto_region 2 with fail
  rw [← HZ.out, ← HW.out, ← HS.out]
  go_upto_region 4 with fail
  rw [← HW2.out]
  go_wp2_with (first | refine wpList_load_run rfl 37 _ rfl (S + 1) 0 rfl _ L2.out ?_ | refine wpList_store_mid rfl 37 _ _ rfl S 0 _ rfl rfl T2.out HN.out HO.out ?_)
  refine bodyPost_ret_by (results_cell_row (P := Yba.prog) (p := 2) (ty := 37) rfl _ _ S 37 (idV (bidL v)).toArray _ _ rfl F2.out Yba.underlying37 rfl HN.out) rfl ?_
  exact ⟨rfl, g3.out⟩
end Go.Proofs.Ybulkapqu
