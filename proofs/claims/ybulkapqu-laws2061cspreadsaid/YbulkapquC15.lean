import Derived.Test.YbulkapquC14
namespace Go.Proofs.Ybulkapqu
open Go.RowKit Go.Sort

structure HSt (w : World) (v : Value) (key : List UInt8) (n : Nat) (W : World) : Prop where
  gr : Gr w W
  c1 : W.cell? ⟨w.heap.size, 0, none⟩ = some v
  c2 : At W (w.heap.size + 1) (idV key).toArray 37
  c3 : W.cell? ⟨w.heap.size + 1 + 1, 0, none⟩ = some (.int .i64 (n : Int))
theorem HSt.step {w : World} {v : Value} {key : List UInt8} {n : Nat} {W W' : World} (h : HSt w v key n W) (g : Gr W W') : HSt w v key n W' := ⟨h.gr.trans g, cell_gr g h.c1, h.c2.gr g, cell_gr g h.c3⟩

set_option maxHeartbeats 4000000 in
set_option maxRecDepth 1000000 in
theorem sharing_calls (w : World) (v : Value) (ids : List (List UInt8)) (b o cap : Nat) (hp : PeersAt w v ids b o cap) (hlen : ids.length ≤ 100000) (hcap : ids.length ≤ cap) (key : List UInt8) (hkey : key.length = 20) (n : Nat) (hn : n ≤ 160) :
    Calls Yba.prog 77 #[v, .agg (idV key).toArray, .int .i64 (n : Int)] w fun e w' => (∃ v' ids' o' c', e = .returned v' ∧ PeersAt w' v' ids' b o' c' ∧ ids'.length ≤ ids.length ∧ ids'.length ≤ c') ∧ Gr w w' := by
  have mixed : Yba.prog.follows .mixedOrders = true := by kernel_rfl
  obtain ⟨S, hS⟩ : ∃ S, S = w.heap.size := ⟨_, rfl⟩
  obtain ⟨w1, hw1⟩ : ∃ w1, w1 = ((w.alloc (.cells #[v] 70)).alloc (.cells (idV key).toArray 37)).alloc (.cells #[.int .i64 (n : Int)] 3) := ⟨_, rfl⟩
  have H1 : HSt w v key n w1 := by
    have n1 := At.new w #[v] 70
    have n2 := At.new (w.alloc (.cells #[v] 70)) (idV key).toArray 37
    have n3 := At.new ((w.alloc (.cells #[v] 70)).alloc (.cells (idV key).toArray 37)) #[.int .i64 (n : Int)] 3
    simp only [World.size_alloc] at n2 n3
    rw [hw1]
    exact ⟨(((Gr.refl w).alloc _).alloc _).alloc _, ((n1.alloc _).alloc _).cell 0, n2.alloc _, n3.cell 0⟩
  have HB := hide (bsfA_calls w1 (S + 1 + 1) v ids b o cap (hp.gr H1.gr) hlen key hkey (fun l => prefY l key n) (fun W hW l hl => share1_calls W (S + 1 + 1) n hn (by rw [hS]; exact (H1.step hW).c3) l key (hp.len l hl) hkey))
  have e1 : w1.cell? ⟨S, 0, none⟩ = some v := by rw [hS]; exact H1.c1
  have LK := hide (idload H1.c2.all hkey)
  rw [← hS] at LK
  have HH := hide H1
  have HP := hide hp
  have HW := hide hw1
  have HS := hide hS
  obtain ⟨va, m, vc, rfl⟩ : ∃ a n c, v = .slice a n c := by
    rcases hp.val with h | ⟨h, _⟩
    · exact ⟨_, _, _, h⟩
    · exact ⟨_, _, _, h⟩
  have hm : ids.length = m := by
    rcases hp.val with h | ⟨h, h'⟩
    · injection h with _ h2 _; rw [h2]
    · injection h with _ h2 _; rw [h2, h']; rfl
  have HM := hide hm
  rw [hm] at HB
  have hm2 : m ≤ 100000 := by omega
  clear H1 hw1 hS hp hm
  go_enter Yba.func77, Yba.ntmps77
  go_upto_region 1 with fail
  rw [← HW.out, ← HS.out]
  go_wp2_with (first | refine wpList_load_run rfl 37 _ rfl (S + 1) 0 rfl _ LK.out ?_)
  refine HB.out.mono ?_
  rintro e w2 ⟨⟨lo, q, hlo, rfl⟩, g2⟩
  obtain ⟨X, hX⟩ : ∃ X, X = w2.heap.size := ⟨_, rfl⟩
  obtain ⟨w4, hw4⟩ : ∃ w4, w4 = w2.alloc (.cells #[.int .i64 (lo : Int)] 3) := ⟨_, rfl⟩
  have a4 : At w4 X #[.int .i64 (lo : Int)] 3 := by rw [hw4, hX]; exact At.new w2 _ _
  have g4 : Gr w1 w4 := g2.trans (by rw [hw4]; exact (Gr.refl w2).alloc _)
  have HQ : Hid (HSt w (.slice va m vc) key n w4 ∧ At w4 X #[.int .i64 (lo : Int)] 3) := ⟨HH.out.step g4, a4⟩
  have HSe : Hid (∀ W, Gr w4 W → Calls Yba.prog 101 #[.int .i64 ((m - lo : Nat) : Int), .func (.func 102) #[] #[.pointer (some ⟨S, 0, none⟩), .pointer (some ⟨X, 0, none⟩), .pointer (some ⟨S + 1, 0, none⟩), .pointer (some ⟨S + 1 + 1, 0, none⟩)]] W fun e w' => (∃ p : Nat, p ≤ m - lo ∧ e = .returned (.int .i64 (p : Int))) ∧ Gr W w') := fun W hW => by
    refine search_calls W (m - lo) (by omega) _ _ _ _ (fun j => decide (0 < prefY (ids.getD (lo + j) []) key n)) (fun V hV j hj => ?_)
    have hq := HQ.out.1.step (hW.trans hV)
    refine share2_calls V (.slice va m vc) ids b o cap (HP.out.gr hq.gr) hlen key hkey n lo hn S X (S + 1) (S + 1 + 1) (by rw [HS.out]; exact hq.c1) ((HQ.out.2.gr (hW.trans hV)).cell 0) (by rw [HS.out]; exact hq.c2.all) (by rw [HS.out]; exact hq.c3) j (by rw [HM.out]; omega)
  have hsub : (m : Int) - (lo : Int) = ((m - lo : Nat) : Int) := by omega
  have hwsub : IntKind.i64.wrap (((m - lo : Nat) : Int)) = ((m - lo : Nat) : Int) := by rw [IntKind.wrap_i64]; omega
  have HX := hide hX
  have HW4 := hide hw4
  have HF : Hid (w4.cell? ⟨S, 0, none⟩ = some (.slice va m vc) ∧ w4.cell? ⟨X, 0, none⟩ = some (.int .i64 (lo : Int))) := ⟨by rw [HS.out]; exact HQ.out.1.c1, HQ.out.2.cell 0⟩
  clear HB g2 hX hw4 a4 g4 HH e1 LK
  go_upto_region 2 with fail
  rw [← HW4.out, ← HX.out]
  go_cut [9] (fun s9 wx => ∃ hi : Nat, lo ≤ hi ∧ hi ≤ m ∧ s9 = .int .i64 (hi : Int) ∧ Gr w4 wx)
  case first =>
    refine wp_region_held_drew (S := Gr w4) (by kernel_rfl) ((Gr.refl w4).drew) (fun hHeld => ?_)
    refine wpAnyH_take (i := 0) (v := ?_) rfl (by kernel_rfl) (by kernel_rfl) (by kernel_rfl) (fun _ _ _ h => h) (Or.inl ⟨by rfl, ?_⟩) (by assumption) ?_
    rotate_left
    · intro w hSw; have q1 := cell_gr hSw HF.out.2; go_simp; try with_reducible rfl
    refine wpAnyH_take (i := 1) (v := ?_) rfl (by kernel_rfl) (by kernel_rfl) (by kernel_rfl) (fun _ _ _ h => h) (Or.inl ⟨by rfl, ?_⟩) (by assumption) ?_
    rotate_left
    · intro w hSw; have q2 := cell_gr hSw HF.out.1; go_simp; try with_reducible rfl
    refine wpAnyH_take (i := 3) (v := ?_) rfl (by kernel_rfl) (by kernel_rfl) (by kernel_rfl) (fun _ _ _ h => h) (Or.inl ⟨by rfl, ?_⟩) (by assumption) ?_
    rotate_left
    · intro w hSw; have q1 := cell_gr hSw HF.out.2; go_simp; try with_reducible rfl
    refine wpAnyH_take (i := 5) (v := ?_) rfl (by kernel_rfl) (by kernel_rfl) (by kernel_rfl) (fun _ _ _ h => h) (Or.inl ⟨by rfl, ?_⟩) (by assumption) ?_
    rotate_left
    · intro w hSw; go_simp; try with_reducible rfl
    simp only [Act.put, List.getElem_toArray, List.getElem_cons_succ, List.getElem_cons_zero, List.setIfInBounds_toArray, List.set_cons_zero, List.set_cons_succ]
    refine wpAnyH_ready (rs := [2]) (by kernel_rfl) (by simp) ?_
    refine AllReadyH.cons rfl (fun K hK => ?_) AllReadyH.nil
    go_simp
    refine hK.out _ _ hHeld (fun hHeld2 => ?_)
    clear hHeld hK K
    have hHeld := hHeld2
    clear hHeld2
    refine wpAnyH_take (i := 4) (v := ?_) rfl (by kernel_rfl) (by kernel_rfl) (by kernel_rfl) (fun _ _ _ h => h) (Or.inl ⟨by rfl, ?_⟩) (by assumption) ?_
    rotate_left
    · intro w hSw; go_simp; try with_reducible rfl
    simp only [Act.put, List.getElem_toArray, List.getElem_cons_succ, List.getElem_cons_zero, List.setIfInBounds_toArray, List.set_cons_zero, List.set_cons_succ]
    refine wpAnyH_ready (rs := [6]) (by kernel_rfl) (by simp) ?_
    refine AllReadyH.cons rfl (fun K hK => ?_) AllReadyH.nil
    go_simp
    go_at_call 101
    refine (HSe.out _ hHeld).mono ?_
    rintro e V1 ⟨⟨p, hp, rfl⟩, hg⟩
    refine hK.out _ _ (hHeld.trans hg) (fun hHeld2 => ?_)
    obtain ⟨hi, hhi⟩ : ∃ hi, hi = lo + p := ⟨_, rfl⟩
    have hadd : (lo : Int) + (p : Int) = (hi : Int) := by omega
    have hwadd : IntKind.i64.wrap (hi : Int) = (hi : Int) := by rw [IntKind.wrap_i64]; omega
    have hlh : lo ≤ hi := by omega
    have hhm : hi ≤ m := by omega
    clear hhi
    clear hg
    clear hHeld hK K
    have hHeld := hHeld2
    clear hHeld2
    refine wpAnyH_ready (rs := [7]) (by kernel_rfl) (by simp) ?_
    refine AllReadyH.cons rfl (fun K hK => ?_) AllReadyH.nil
    go_simp
    refine hK.out _ _ hHeld (fun hHeld2 => ?_)
    clear hHeld hK K
    have hHeld := hHeld2
    clear hHeld2
    refine wpAnyH_ready (rs := [8]) (by kernel_rfl) (by simp) ?_
    refine AllReadyH.cons rfl (fun K hK => ?_) AllReadyH.nil
    go_simp
    refine hK.out _ _ hHeld (fun hHeld2 => ?_)
    clear hHeld hK K
    have hHeld := hHeld2
    clear hHeld2
    refine wpAnyH_done (by kernel_rfl) ?_ _
    go_wp2_with fail
    go_meet
    exact ⟨hi, hlh, hhm, rfl, hHeld⟩
  case rest =>
    obtain ⟨hi, hlh, hhm, rfl, gx⟩ := hcut
    have q1 := cell_gr gx HF.out.1
    have q2 := cell_gr gx HF.out.2
    have HPg := hide (HP.out.gr (HQ.out.1.gr.trans gx))
    have HG := hide (HQ.out.1.gr.trans gx)
    have hvc : m ≤ vc := by
      rcases HP.out.val with h | ⟨h, h'⟩
      · injection h with _ h2 h3; rw [h2, h3]; exact hcap
      · injection h with _ h2 h3; omega
    have hiv : hi ≤ vc := by omega
    have hi1 : (hi : Int) ≤ (vc : Int) := by omega
    have hi2 : (lo : Int) ≤ (hi : Int) := by omega
    have hi0 : (0 : Int) ≤ (lo : Int) := by omega
    have hi3 : (0 : Int) ≤ (hi : Int) := by omega
    clear HQ HF HP HSe gx
    by_cases e : hi = lo
    · subst e
      have hpa : Hid (PeersAt wc (.slice va 0 0) [] b o 0) := by
        refine ⟨?_, fun l hl => by simp at hl, fun i l hl => by simp at hl⟩
        rcases HPg.out.val with h | ⟨h, _⟩
        · injection h with h1 _ _
          left; rw [h1]; rfl
        · injection h with h1 _ _
          right; exact ⟨by rw [h1], rfl⟩
      clear HPg
      go_wp2
      go_ret
      exact ⟨⟨_, [], o, 0, rfl, hpa.out, Nat.zero_le _, Nat.le_refl _⟩, HG.out⟩
    · have e' : ¬ (lo = hi) := fun h => e h.symm
      have hva : va = some ⟨b, o, none⟩ := by
        rcases HPg.out.val with h | ⟨h, _⟩
        · injection h with h1 _ _
        · injection h with _ h2 _; omega
      subst hva
      have hlen2 : ((ids.drop lo).take (hi - lo)).length = hi - lo := by rw [List.length_take, List.length_drop, HM.out]; omega
      have hpa : Hid (PeersAt wc (.slice (some ⟨b, o + lo * 24, none⟩) (hi - lo) (hi - lo)) ((ids.drop lo).take (hi - lo)) b (o + lo * 24) (hi - lo)) := by
        refine ⟨.inl (by rw [hlen2]), fun l hl => HPg.out.len l (List.mem_of_mem_drop (List.mem_of_mem_take hl)), fun i l hl => ?_⟩
        have hi' : i < hi - lo := by have := (List.getElem?_eq_some_iff.1 hl).1; simp at this; omega
        rw [List.getElem?_take_of_lt hi', List.getElem?_drop] at hl
        have := HPg.out.row (lo + i) l hl
        rwa [show o + lo * 24 + i * 24 = o + (lo + i) * 24 by omega]
      have HL2 := hide hlen2
      clear HPg hlen2
      go_wp2
      go_ret
      refine ⟨⟨_, (ids.drop lo).take (hi - lo), o + lo * 24, hi - lo, rfl, hpa.out, by rw [HL2.out, HM.out]; omega, by rw [HL2.out]; exact Nat.le_refl _⟩, HG.out⟩
end Go.Proofs.Ybulkapqu
