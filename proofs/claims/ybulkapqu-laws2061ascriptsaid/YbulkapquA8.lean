import Derived.Test.YbulkapquA5
import Derived.Test.YbulkapquShelf3
namespace Go.Proofs.Ybulkapqu
open Go.RowKit Go.Sort

theorem At.shape {w : World} {b : Nat} {C : Array Value} {t : TypeId} (h : At w b C t) : w.shape? b = some (t, C.size) := by
  unfold World.shape?
  rw [show w.heap[b]? = _ from h]

theorem ins_shift (X sp : List Value) (s v : Value) (p : Nat) (hp : p < X.length) :
    (((X ++ s :: sp).take (p + 1) ++ X.drop p ++ (X ++ s :: sp).drop (p + 1 + (X.drop p).length)).take p ++ [v] ++ ((X ++ s :: sp).take (p + 1) ++ X.drop p ++ (X ++ s :: sp).drop (p + 1 + (X.drop p).length)).drop (p + [v].length)) = X.take p ++ v :: X.drop p ++ sp := by
  have e1 : (X ++ s :: sp).take (p + 1) = X.take (p + 1) := by rw [List.take_append_of_le_length (by omega)]
  have e2 : (X ++ s :: sp).drop (p + 1 + (X.drop p).length) = sp := by
    rw [List.length_drop, show p + 1 + (X.length - p) = X.length + 1 by omega, List.drop_append]
    simp
  rw [e1, e2]
  have e3 : (X.take (p + 1) ++ X.drop p ++ sp).take p = X.take p := by
    rw [List.append_assoc, List.take_append_of_le_length (by simp; omega), List.take_take]
    congr 1
    omega
  have e4 : (X.take (p + 1) ++ X.drop p ++ sp).drop (p + [v].length) = X.drop p ++ sp := by
    have hl : (X.take (p + 1)).length = p + [v].length := by simp; omega
    rw [List.append_assoc, ← hl, List.drop_left]
  rw [e3, e4]
  simp

set_option maxHeartbeats 4000000 in
theorem insert_row {w : World} {R cap : Nat} {xs : List Nat} (h : RowAt w R xs cap) (hcap : cap < 4611686018427387904) (p i V : Nat) (hp : p ≤ xs.length) (hroom : xs.length + 1 ≤ cap) (hV : At w V #[.int .i64 (i : Int)] 3) (hVR : V ≠ R) :
    Calls Yba.prog 32 #[.slice (some ⟨R, 0, none⟩) xs.length cap, .int .i64 (p : Int), .slice (some ⟨V, 0, none⟩) 1 1] w fun e w' => e = .returned (.slice (some ⟨R, 0, none⟩) (xs.take p ++ i :: xs.drop p).length cap) ∧ RowAt w' R (xs.take p ++ i :: xs.drop p) cap ∧
      ∃ q vs o vs' o', w' = ((w.drewN q).setCells R o vs).setCells R o' vs' := by
  have hlen : (xs.take p ++ i :: xs.drop p).length = xs.length + 1 := by simp; omega
  obtain ⟨sp, h1, h2⟩ := h
  obtain ⟨s, sp', rfl⟩ : ∃ s sp', sp = s :: sp' := by
    cases sp with
    | nil => simp at h2; omega
    | cons s r => exact ⟨s, r, rfl⟩
  simp only [List.length_cons] at h2
  have hvs : ∀ (j : Nat) (v : Value), [Value.int .i64 (i : Int)][j]? = some v → w.cell? ⟨V, 0 + j, none⟩ = some v := fun j v hj => by
    rw [hV.cell, Nat.zero_add]
    simpa using hj
  have hone : ∀ v ∈ [Value.int .i64 (i : Int)], v.oneCell' = true := fun v hv => by simp at hv; subst hv; rfl
  have hsome : ∀ j, j < xs.length + 1 → (w.cell? ⟨R, 0 + j, none⟩).isSome = true := fun j hj => by
    rw [h1.cell, Nat.zero_add]
    simp
    omega
  by_cases e : p = xs.length
  · subst e
    refine (Yba.slices_Insert_end R 0 xs.length cap V 0 1 1 [.int .i64 (i : Int)] w (by omega) hroom (by omega) rfl (fun j hj => ?_) (fun j _ => h1.frozen _) hvs hone).mono ?_
    · rw [Nat.add_assoc]
      exact hsome _ (by omega)
    · rintro e w' ⟨rfl, rfl⟩
      refine ⟨by rw [hlen], ⟨sp', ?_, by rw [hlen]; omega⟩, 0, [], 0, _, _, rfl⟩
      have := At.setCells [Value.int .i64 (i : Int)] (0 + xs.length) w (xs.map nv ++ s :: sp') h1 (by simp)
      have e1 : (xs.map nv ++ s :: sp').take (0 + xs.length) = xs.map nv := by
        rw [Nat.zero_add, List.take_left' (by simp)]
      have e2 : (xs.map nv ++ s :: sp').drop (0 + xs.length + [Value.int .i64 (i : Int)].length) = sp' := by
        rw [Nat.zero_add, List.drop_append]
        simp
      rw [e1, e2] at this
      simpa [nv] using this
  · have hpl : p < xs.length := by omega
    refine (Yba.slices_Insert_shift R 0 xs.length cap p V 0 1 1 (xs.map nv) [.int .i64 (i : Int)] w hpl (by omega) hroom (by omega) hVR (by simp) rfl (fun j v hj => ?_) hsome (fun j _ => h1.frozen _) hvs (fun v hv => ?_) hone
      3 3 _ _ hV.shape h1.shape (by simp) (hV.frozen _) (hV.frozen _)).mono ?_
    · rw [h1.cell, Nat.zero_add]
      have hj' := (List.getElem?_eq_some_iff.1 hj).1
      simp only [List.getElem?_toArray]
      rw [List.getElem?_append_left hj', hj]
    · simp only [List.mem_map] at hv
      obtain ⟨_, _, rfl⟩ := hv
      rfl
    · rintro e w' ⟨rfl, rfl⟩
      refine ⟨by rw [hlen], ⟨sp', ?_, by rw [hlen]; omega⟩, 1, _, _, _, _, rfl⟩
      have a1 := At.setCells ((xs.map nv).drop p) (p + 1) w.drew (xs.map nv ++ s :: sp') h1 (by simp; omega)
      have a2 := At.setCells [Value.int .i64 (i : Int)] p _ _ a1 (by simp; omega)
      rw [ins_shift (xs.map nv) sp' s _ p (by simpa using hpl)] at a2
      rw [Nat.zero_add, Nat.zero_add]
      simpa [nv, List.map_take, List.map_drop] using a2

/-! ### The list with i put in -/
theorem put_perm (xs : List Nat) (p i : Nat) : (xs.take p ++ i :: xs.drop p).Perm (i :: xs) := by
  have := List.perm_middle (a := i) (l₁ := xs.take p) (l₂ := xs.drop p)
  rwa [List.take_append_drop] at this
theorem put_sorted (f : Nat → Nat) (xs : List Nat) (p i : Nat) (hpw : xs.Pairwise (fun a b => f a ≤ f b)) (hc : ∀ (j x : Nat), xs[j]? = some x → (j < p ↔ f x < f i)) : (xs.take p ++ i :: xs.drop p).Pairwise (fun a b => f a ≤ f b) := by
  have h1 : ∀ a ∈ xs.take p, f a ≤ f i := fun a ha => by
    obtain ⟨j, hj⟩ := List.mem_iff_getElem?.1 ha
    have hjp : j < p := by have := (List.getElem?_eq_some_iff.1 hj).1; simp at this; omega
    rw [List.getElem?_take_of_lt hjp] at hj
    exact Nat.le_of_lt ((hc j a hj).1 hjp)
  have h2 : ∀ a ∈ xs.drop p, f i ≤ f a := fun a ha => by
    obtain ⟨j, hj⟩ := List.mem_iff_getElem?.1 ha
    rw [List.getElem?_drop] at hj
    have := (hc _ a hj)
    omega
  rw [← List.take_append_drop p xs] at hpw
  obtain ⟨q1, q2, q3⟩ := List.pairwise_append.1 hpw
  refine List.pairwise_append.2 ⟨q1, List.pairwise_cons.2 ⟨h2, q2⟩, fun a ha b hb => ?_⟩
  rcases List.mem_cons.1 hb with rfl | hb
  · exact h1 a ha
  · exact q3 a ha b hb

set_option maxHeartbeats 4000000 in
set_option maxRecDepth 1000000 in
theorem add_calls (w : World) (O B R n c cap : Nat) (ids : List (List UInt8)) (xs : List Nat) (G : Ring w O B R n c cap ids xs) (hcap : cap < 4611686018427387904) (i : Nat) (hi : i < n) (hroom : xs.length + 1 ≤ cap)
    (hpw : xs.Pairwise (fun a b => val ids a ≤ val ids b)) :
    Calls Yba.prog 11 #[.pointer (some ⟨O, 0, none⟩), .int .i64 (i : Int)] w fun e w' => e = .returned (.tuple #[]) ∧ (∃ ys : List Nat, Ring w' O B R n c cap ids ys ∧ ys.Perm (i :: xs) ∧ ys.Pairwise (fun a b => val ids a ≤ val ids b)) ∧ Kp O R w w' := by
  have mixed : Yba.prog.follows .mixedOrders = true := by kernel_rfl
  obtain ⟨la, hla⟩ : ∃ la, ids[i]? = some la := ⟨_, List.getElem?_eq_getElem (by have := G.hlen; omega)⟩
  have hl20 : la.length = 20 := G.hI.len _ (List.mem_of_getElem? hla)
  obtain ⟨p, hp, hc⟩ := sorted_cut (val ids) (Lib.beNat la) xs hpw
  have hval : val ids i = Lib.beNat la := by rw [val, getD_of hla]
  have hfind := find_calls w O B R n c cap ids xs G (by omega) la hl20 p hp hc
  have HF := hide hfind
  have c0 := G.hO.cell 0
  simp at c0
  have L1 : Aside ((loadVar 37 ⟨B, i * 20, none⟩).run Yba.prog w = .ok (.agg (idV la).toArray) w) := idload (G.hI.row i la hla) hl20
  have hiz : (0:Int) ≤ (i:Int) := by omega
  have hin : (i:Int) < (n:Int) := by omega
  have HG := hide G
  have HP : Hid ((xs.take p ++ i :: xs.drop p).Perm (i :: xs) ∧ (xs.take p ++ i :: xs.drop p).Pairwise (fun a b => val ids a ≤ val ids b)) := ⟨put_perm xs p i, put_sorted (val ids) xs p i hpw (by rw [hval]; exact hc)⟩
  clear hfind G hla hpw hc
  go_enter Yba.func11, Yba.ntmps11
  go_wp2_with (first | refine wpList_load_run rfl 37 _ rfl B (i * 20) rfl _ L1.out ?_)
  refine HF.out.mono ?_
  rintro e w1 ⟨⟨b, rfl, hb⟩, gr⟩
  have G1 := HG.out.gr gr
  obtain ⟨V, hV⟩ : ∃ V, V = w1.heap.size := ⟨_, rfl⟩
  obtain ⟨w2, hw2⟩ : ∃ w2, w2 = w1.alloc (.cells #[.int .i64 (i : Int)] 3) := ⟨_, rfl⟩
  have g2 : Gr w1 w2 := hw2 ▸ (Gr.refl w1).alloc _
  have G2 := G1.gr g2
  have aV : At w2 V #[.int .i64 (i : Int)] 3 := by rw [hw2, hV]; exact At.new w1 _ _
  have hVR : V ≠ R := by have := G1.hR.lt; omega
  have HD := hide (insert_row G2.hR hcap p i V hp hroom aV hVR)
  have c1 := G1.hO.cell 1
  simp at c1
  have K1 : Hid (Kp O R w w2) := Kp.of_gr (gr.trans g2)
  have HG2 := hide G2
  have HW := hide hw2
  have HV := hide hV
  clear G1 gr hb HG HF L1 c0 G2 aV hVR hw2 hV g2
  generalize hys : xs.take p ++ i :: xs.drop p = ys at *
  have HY := hide hys
  clear hys
  go_wp2_with fail
  rw [← HW.out, ← HV.out]
  refine HD.out.mono ?_
  rintro e w3 ⟨rfl, hrow, q, vs, o, vs', o', hw3⟩
  have g1 := HG2.out
  have hOR : O ≠ R := by obtain ⟨sp, h, _⟩ := g1.hR; exact g1.hO.ne h (by decide)
  have hBR : B ≠ R := by obtain ⟨sp, h, _⟩ := g1.hR; obtain ⟨C, hC⟩ := g1.hI.blk; exact hC.ne h (by decide)
  have hBO : B ≠ O := by obtain ⟨C, hC⟩ := g1.hI.blk; exact hC.ne g1.hO (by decide)
  have hO2 : At w3 O _ 28 := g1.hO.of_heap (by rw [hw3, heap_setCells_other R O hOR, heap_setCells_other R O hOR]; rfl)
  have hI2 : IdsAt w3 B ids := g1.hI.of_heap (by rw [hw3, heap_setCells_other R B hBR, heap_setCells_other R B hBR]; rfl)
  have K2 : Kp O R w w3 := K1.out.trans (by rw [hw3]; exact ((Kp.of_gr ((Gr.refl w2).drewN q)).trans (kp_setCells R (.inr rfl) _ _ _)).trans (kp_setCells R (.inr rfl) _ _ _))
  have d1 := hO2.cell 1
  have f1 := hO2.frozen 1
  simp at d1
  have hin' : ∀ y ∈ ys, y < n := fun y hy => by
    rcases List.mem_cons.1 (HP.out.1.mem_iff.1 hy) with rfl | h
    · exact hi
    · exact g1.hin y h
  have A : Aside (Ring (w3.setCell ⟨O, 1, none⟩ (.slice (some ⟨R, 0, none⟩) ys.length cap)) O B R n c cap ids ys ∧ Kp O R w (w3.setCell ⟨O, 1, none⟩ (.slice (some ⟨R, 0, none⟩) ys.length cap))) := by
    refine ⟨⟨by simpa using hO2.set 1 _, hI2.of_heap (Below.heap_setCell _ _ _ _ hBO), hrow.of_heap (Below.heap_setCell _ _ _ _ hOR.symm), g1.hlen, hin'⟩, K2.trans (kp_setCell _ _ _ (.inl rfl))⟩
  clear hrow hw3 g1 hO2 hI2 K2 HG2 HD K1 hin'
  go_wp2
  refine bodyPost_end (results_none rfl _ _ _) rfl ?_
  exact ⟨rfl, ⟨ys, A.out.1, HP.out⟩, A.out.2⟩
end Go.Proofs.Ybulkapqu
