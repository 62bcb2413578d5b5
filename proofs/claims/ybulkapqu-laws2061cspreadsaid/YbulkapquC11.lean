import Derived.Test.YbulkapquC10
namespace Go.Proofs.Ybulkapqu
open Go.RowKit Go.Sort

def addrV : List Value := [.int .u64 0, .int .u64 0, .pointer none, .int .u16 0]
set_option maxRecDepth 100000 in
theorem built110a' (b0 b1 b2 b3 b4 b5 b6 b7 b8 b9 b10 b11 b12 b13 b14 b15 b16 b17 b18 b19 : UInt8) : Yba.prog.built 110 [(0, .agg (idV [b0, b1, b2, b3, b4, b5, b6, b7, b8, b9, b10, b11, b12, b13, b14, b15, b16, b17, b18, b19]).toArray), (1, .agg addrV.toArray)] = some (peerV [b0, b1, b2, b3, b4, b5, b6, b7, b8, b9, b10, b11, b12, b13, b14, b15, b16, b17, b18, b19]).toArray := by kernel_rfl
theorem built110a (l : List UInt8) (hl : l.length = 20) : Yba.prog.built 110 [(0, .agg (idV l).toArray), (1, .agg addrV.toArray)] = some (peerV l).toArray := by
  exact match l, hl with
  | [b0, b1, b2, b3, b4, b5, b6, b7, b8, b9, b10, b11, b12, b13, b14, b15, b16, b17, b18, b19], _ => built110a' b0 b1 b2 b3 b4 b5 b6 b7 b8 b9 b10 b11 b12 b13 b14 b15 b16 b17 b18 b19
theorem wp_build_run {P : Program} {op : Oper} {a : Act} {w : World} {K : Act → World → Prop} {Q : Exit → Act → World → Prop} (t : TypeId) (parts : Array (Nat × Operand)) (ho : op.op = .build t parts)
    (ps : List (Nat × Value)) (hp : (parts.map fun (i, x) => (i, a.eval x)).toList = ps) (cells : Array Value) (hb : P.built t ps = some cells) (h : K (a.put op.dst (.agg cells)) w) : op.wp P a w K Q := by
  refine wp_build t parts ho (by rw [hp, hb]; rfl) ?_
  rw [hp, hb]
  exact h
theorem range_addr {w : World} {B o : Nat} {l : List UInt8} (hl : l.length = 20) (h : w.rangeAt B o (peerV l)) : w.rangeAt B (o + 20) addrV := fun j v hv => by
  have := h (20 + j) v (by
    rw [peerV, List.getElem?_append_right (by rw [length_idV, hl]; omega), length_idV, hl, Nat.add_sub_cancel_left]
    exact hv)
  rwa [← Nat.add_assoc] at this
/-- Whether another speaks. -/
def spkB (c : Cfg) (r : Nat) (id : List UInt8) : Bool := (nearF (viewL c.f r id) (skipB c r id) (viewL c.f r c.self, false) (c.cw r)).2

structure SPs (w : World) (c : Cfg) (r : Nat) (id : List UInt8) (W : World) : Prop where
  c1 : W.cell? ⟨w.heap.size, 0, none⟩ = some (.pointer (some ⟨c.MB, 0, none⟩))
  c2 : W.cell? ⟨w.heap.size + 1, 0, none⟩ = some (.int .i64 (r : Int))
  c3 : At W (w.heap.size + 1 + 1) (idV id).toArray 37
  c4 : At W (w.heap.size + 1 + 1 + 1) zeroP 110
  gr : Gr w W

structure SR (c : Cfg) (w : World) (r S X : Nat) (l1 l0 : List UInt8) (W : World) : Prop where
  gr : Gr w W
  c1 : W.cell? ⟨S, 0, none⟩ = some (.pointer (some ⟨c.MB, 0, none⟩))
  c2 : W.cell? ⟨S + 1, 0, none⟩ = some (.int .i64 (r : Int))
  aX : At W X (peerV l1).toArray 110
theorem SR.step {c : Cfg} {w : World} {r S X : Nat} {l1 l0 : List UInt8} {W W' : World} (h : SR c w r S X l1 l0 W) (g : Gr W W') : SR c w r S X l1 l0 W' := ⟨h.gr.trans g, cell_gr g h.c1, cell_gr g h.c2, h.aX.gr g⟩
theorem cell_setCells_other {W : World} (b : Nat) (vs : List Value) (o : Nat) {a : Addr} {v : Value} (h : W.cell? a = some v) (hne : a.block ≠ b) : (W.setCells b o vs).cell? a = some v := by
  rw [World.cell?_setCells_out b vs o W a (fun e _ => absurd e hne)]; exact h
theorem SR.put {c : Cfg} {w : World} {r S X : Nat} {l1 l0 : List UInt8} {W : World} (h : SR c w r S X l1 l0 W) (hS : w.heap.size ≤ S) (hX : S + 1 + 1 + 1 < X) (vs : List Value) : SR c w r S X l1 l0 (W.setCells (S + 1 + 1 + 1) 0 vs) :=
  ⟨Gr.setCells _ (by omega) _ _ _ h.gr, cell_setCells_other _ _ _ h.c1 (by simp; omega), cell_setCells_other _ _ _ h.c2 (by simp), h.aX.of_heap (heap_setCells_other _ _ (by omega) _ _ _)⟩

set_option maxHeartbeats 4000000 in
set_option maxRecDepth 1000000 in
theorem speaker_calls (c : Cfg) (ok : Ok c) (w : World) (h : Mem c w) (r : Nat) (hr : r < c.nr) (id : List UInt8) (hid : id.length = 20) (hlen : (c.cw r).length ≤ 100000) (h20 : ∀ l ∈ c.cw r, l.length = 20) :
    Calls Yba.prog 43 #[.pointer (some ⟨c.MB, 0, none⟩), .int .i64 (r : Int), .agg (idV id).toArray] w fun e w' => (∃ l', l'.length = 20 ∧ e = .returned (.tuple #[.agg (peerV l').toArray, .bool (spkB c r id)])) ∧ Gr w w' := by
  have mixed : Yba.prog.follows .mixedOrders = true := by kernel_rfl
  obtain ⟨S, hS⟩ : ∃ S, S = w.heap.size := ⟨_, rfl⟩
  obtain ⟨w1, hw1⟩ : ∃ w1, w1 = (((w.alloc (.cells #[.pointer (some ⟨c.MB, 0, none⟩)] 57)).alloc (.cells #[.int .i64 (r : Int)] 3)).alloc (.cells (idV id).toArray 37)).alloc (.cells zeroP 110) := ⟨_, rfl⟩
  have P1 : SPs w c r id w1 := by
    have n1 := At.new w #[.pointer (some ⟨c.MB, 0, none⟩)] 57
    have n2 := At.new (w.alloc (.cells #[.pointer (some ⟨c.MB, 0, none⟩)] 57)) #[.int .i64 (r : Int)] 3
    have n3 := At.new ((w.alloc (.cells #[.pointer (some ⟨c.MB, 0, none⟩)] 57)).alloc (.cells #[.int .i64 (r : Int)] 3)) (idV id).toArray 37
    have n4 := At.new (((w.alloc (.cells #[.pointer (some ⟨c.MB, 0, none⟩)] 57)).alloc (.cells #[.int .i64 (r : Int)] 3)).alloc (.cells (idV id).toArray 37)) zeroP 110
    simp only [World.size_alloc] at n2 n3 n4
    rw [hw1]
    exact ⟨(((n1.alloc _).alloc _).alloc _).cell 0, ((n2.alloc _).alloc _).cell 0, n3.alloc _, n4, ((((Gr.refl w).alloc _).alloc _).alloc _).alloc _⟩
  have m1 := h.gr P1.gr
  obtain ⟨cv, cb, co, cc, hcw, hpa⟩ := m1.cwAt r hr
  have hview : (viewL c.f r id).length = 20 := length_viewL _ _ _ hid
  have hvs : (viewL c.f r c.self).length = 20 := length_viewL _ _ _ ok.self
  obtain ⟨l1, found, hres⟩ : ∃ a b, nearF (viewL c.f r id) (skipB c r id) (viewL c.f r c.self, false) (c.cw r) = (a, b) := ⟨_, _, rfl⟩
  have hr20 : l1.length = 20 := by
    have h1 := nearF_len (viewL c.f r id) (skipB c r id) (c.cw r) (viewL c.f r c.self, false) hvs h20
    rw [hres] at h1
    exact h1
  have HE : Hid (spkB c r id = found) := by show _ = _; rw [spkB, hres]
  have HL : Hid (∀ W, Gr w1 W → Calls Yba.prog 42 #[.pointer (some ⟨c.MB, 0, none⟩)] W fun e w' => e = .returned (.agg (layV c.x c.f c.t)) ∧ Gr W w') := fun W hW => layout_calls c ok W (m1.gr hW)
  have HLw : Hid (∀ W, Gr w W → Calls Yba.prog 42 #[.pointer (some ⟨c.MB, 0, none⟩)] W fun e w' => e = .returned (.agg (layV c.x c.f c.t)) ∧ Gr W w') := fun W hW => layout_calls c ok W (h.gr hW)
  have HV : Hid (∀ W, Gr w1 W → Calls Yba.prog 22 #[.agg (layV c.x c.f c.t), .int .i64 (r : Int), .agg (idV id).toArray] W fun e w' => e = .returned (.agg (idV (viewL c.f r id)).toArray) ∧ Gr W w') := fun W _ => view_calls W c.x c.t c.f ok.f id hid r
  have HNr : Hid (∀ W, Gr w1 W → Calls Yba.prog 72 #[.pointer (some ⟨c.RB, r * 47, none⟩), .agg (idV (viewL c.f r id)).toArray, .func (.func 73) #[] #[.pointer (some ⟨S, 0, none⟩), .pointer (some ⟨S + 1, 0, none⟩), .pointer (some ⟨S + 1 + 1, 0, none⟩)]] W fun e w' => e = .returned (.tuple #[.agg (peerV l1).toArray, .bool found]) ∧ Gr W w') := fun W hW => by
    have mW := m1.gr hW
    have := nearest_calls W c.RB (r * 47) (viewL c.f r c.self) (viewL c.f r id) hvs hview (mW.leaf r hr) cv (c.cw r) cb co cc (cell_gr hW hcw) (hpa.gr hW) (mW.ccw r hr) (.pointer (some ⟨S, 0, none⟩)) (.pointer (some ⟨S + 1, 0, none⟩)) (.pointer (some ⟨S + 1 + 1, 0, none⟩)) (skipB c r id)
      (fun V hV l hl => by
        have g := hW.trans hV
        refine skip_calls c ok V (m1.gr g) r hr id l hid (h20 l hl) S (S + 1) (S + 1 + 1) ?_ ?_ ?_
        · rw [hS]; exact cell_gr g P1.c1
        · rw [hS]; exact cell_gr g P1.c2
        · rw [hS]; exact (P1.c3.gr g).all) hlen
    rw [hres] at this
    exact this
  obtain ⟨m, hm⟩ : ∃ m, unviewL c.f r l1 = m := ⟨_, rfl⟩
  have hm20 : m.length = 20 := by rw [← hm]; exact length_unviewL _ _ _ hr20
  have HU : Hid (∀ W, Gr w W → Calls Yba.prog 74 #[.agg (layV c.x c.f c.t), .int .i64 (r : Int), .agg (idV l1).toArray] W fun e w' => e = .returned (.agg (idV m).toArray) ∧ Gr W w') := fun W _ => by rw [← hm]; exact unview_calls W c.x c.t c.f ok.f l1 hr20 r
  have h1 := m1.rings
  have HR := hide h1
  have hrz : (r : Int) < (c.nr : Int) := by omega
  have hrz0 : (0 : Int) ≤ (r : Int) := by omega
  have hu37 : Yba.prog.underlying 37 = some (.array 20 5) := by kernel_rfl
  have hiid : (Yba.prog.info? 37).map (·.size) = some (idV id).length := by rw [length_idV, hid]; kernel_rfl
  have hir : (Yba.prog.info? 37).map (·.size) = some (idV l1).length := by rw [length_idV, hr20]; kernel_rfl
  have hi90 : (Yba.prog.info? 90).map (·.size) = some addrV.length := by kernel_rfl
  rw [HE.out]
  have HO := hide (peer_one l1)
  have HN := hide (peer_info hr20)
  have HOm := hide (peer_one m)
  have HNm := hide (peer_info hm20)
  have HBu := hide (built110a m hm20)
  have HD : Hid (w1.cell? ⟨S, 0, none⟩ = some (.pointer (some ⟨c.MB, 0, none⟩)) ∧ w1.cell? ⟨S + 1, 0, none⟩ = some (.int .i64 (r : Int)) ∧ At w1 (S + 1 + 1) (idV id).toArray 37 ∧ At w1 (S + 1 + 1 + 1) zeroP 110 ∧ Gr w w1 ∧ w.heap.size ≤ S ∧ S + 1 + 1 + 1 < w1.heap.size) := by rw [hS]; exact ⟨P1.c1, P1.c2, P1.c3, P1.c4, P1.gr, Nat.le_refl _, P1.c4.lt⟩
  have HW := hide hw1
  have HS := hide hS
  have HZ := hide zeroP_eq
  generalize layV c.x c.f c.t = L at *
  generalize viewL c.f r id = vl at *
  clear h m1 P1 hw1 hS h1 hm hres hcw hpa HE ok
  go_enter Yba.func43, Yba.ntmps43
  go_upto_region 1 with fail
  rw [← HZ.out, ← HW.out, ← HS.out]
  go_cut [8, 9] (fun s8 s9 wx => ∃ X : Nat, s8 = .pointer (some ⟨X, 0, none⟩) ∧ s9 = .bool found ∧ w1.heap.size ≤ X ∧ Gr w1 wx ∧ At wx X (peerV l1).toArray 110)
  case first =>
    refine wp_region_held_drew (S := Gr w1) (by kernel_rfl) ((Gr.refl w1).drew) (fun hHeld => ?_)
    refine wpAnyH_take (i := 10) (v := _) rfl (by kernel_rfl) (by kernel_rfl) (by kernel_rfl) (fun _ _ _ h => h) (yieldsIf_load_mid (by rfl) 37 _ rfl (S + 1 + 1) 0 rfl (idV id) _ (fun W h => (HD.out.2.2.1.gr h).all) hu37 rfl hiid) (by assumption) ?_
    refine wpAnyH_take (i := 0) (v := ?_) rfl (by kernel_rfl) (by kernel_rfl) (by kernel_rfl) (fun _ _ _ h => h) (Or.inl ⟨by rfl, ?_⟩) (by assumption) ?_
    rotate_left
    · intro w hSw; have q1 := cell_gr hSw HD.out.1; go_simp; try with_reducible rfl
    refine wpAnyH_take (i := 1) (v := ?_) rfl (by kernel_rfl) (by kernel_rfl) (by kernel_rfl) (fun _ _ _ h => h) (Or.inl ⟨by rfl, ?_⟩) (by assumption) ?_
    rotate_left
    · intro w hSw; go_simp; try with_reducible rfl
    refine wpAnyH_take (i := 2) (v := ?_) rfl (by kernel_rfl) (by kernel_rfl) (by kernel_rfl) (fun _ _ _ h => h) (Or.inl ⟨by rfl, ?_⟩) (by assumption) ?_
    rotate_left
    · intro w hSw; go_simp; try with_reducible rfl
    refine wpAnyH_take (i := 3) (v := ?_) rfl (by kernel_rfl) (by kernel_rfl) (by kernel_rfl) (fun _ _ _ h => h) (Or.inl ⟨by rfl, ?_⟩) (by assumption) ?_
    rotate_left
    · intro w hSw; have q3 := cell_gr hSw HR.out; go_simp; try with_reducible rfl
    refine wpAnyH_take (i := 4) (v := ?_) rfl (by kernel_rfl) (by kernel_rfl) (by kernel_rfl) (fun _ _ _ h => h) (Or.inl ⟨by rfl, ?_⟩) (by assumption) ?_
    rotate_left
    · intro w hSw; have q2 := cell_gr hSw HD.out.2.1; go_simp; try with_reducible rfl
    refine wpAnyH_take (i := 5) (v := ?_) rfl (by kernel_rfl) (by kernel_rfl) (by kernel_rfl) (fun _ _ _ h => h) (Or.inl ⟨by rfl, ?_⟩) (by assumption) ?_
    rotate_left
    · intro w hSw; go_simp; try with_reducible rfl
    refine wpAnyH_take (i := 6) (v := ?_) rfl (by kernel_rfl) (by kernel_rfl) (by kernel_rfl) (fun _ _ _ h => h) (Or.inl ⟨by rfl, ?_⟩) (by assumption) ?_
    rotate_left
    · intro w hSw; go_simp; try with_reducible rfl
    refine wpAnyH_take (i := 7) (v := ?_) rfl (by kernel_rfl) (by kernel_rfl) (by kernel_rfl) (fun _ _ _ h => h) (Or.inl ⟨by rfl, ?_⟩) (by assumption) ?_
    rotate_left
    · intro w hSw; have q1 := cell_gr hSw HD.out.1; go_simp; try with_reducible rfl
    refine wpAnyH_take (i := 9) (v := ?_) rfl (by kernel_rfl) (by kernel_rfl) (by kernel_rfl) (fun _ _ _ h => h) (Or.inl ⟨by rfl, ?_⟩) (by assumption) ?_
    rotate_left
    · intro w hSw; have q2 := cell_gr hSw HD.out.2.1; go_simp; try with_reducible rfl
    refine wpAnyH_take (i := 12) (v := ?_) rfl (by kernel_rfl) (by kernel_rfl) (by kernel_rfl) (fun _ _ _ h => h) (Or.inl ⟨by rfl, ?_⟩) (by assumption) ?_
    rotate_left
    · intro w hSw; go_simp; try with_reducible rfl
    generalize w1.drew = V0 at hHeld ⊢
    simp only [Act.put, List.getElem_toArray, List.getElem_cons_succ, List.getElem_cons_zero, List.setIfInBounds_toArray, List.set_cons_zero, List.set_cons_succ]
    refine wpAnyH_ready (rs := [8, 17]) (by kernel_rfl) (by simp) ?_
    refine (AllReadyH.cons rfl (fun K hK => ?_) (AllReadyH.cons rfl (fun K hK => ?_) AllReadyH.nil))
    · go_simp
      go_at_call 42
      refine (HL.out _ hHeld).mono ?_
      rintro e V1 ⟨rfl, hg⟩
      refine hK.out _ _ (hHeld.trans hg) (fun hHeld2 => ?_)
      clear hg
      clear hHeld hK K
      have hHeld := hHeld2
      clear hHeld2
      refine wpAnyH_ready (rs := [11, 17]) (by kernel_rfl) (by simp) ?_
      refine (AllReadyH.cons rfl (fun K hK => ?_) (AllReadyH.cons rfl (fun K hK => ?_) AllReadyH.nil))
      · go_simp
        go_at_call 22
        refine (HV.out _ hHeld).mono ?_
        rintro e V2 ⟨rfl, hg⟩
        refine hK.out _ _ (hHeld.trans hg) (fun hHeld2 => ?_)
        clear hg
        clear hHeld hK K
        have hHeld := hHeld2
        clear hHeld2
        refine wpAnyH_ready (rs := [13, 17]) (by kernel_rfl) (by simp) ?_
        refine (AllReadyH.cons rfl (fun K hK => ?_) (AllReadyH.cons rfl (fun K hK => ?_) AllReadyH.nil))
        · go_simp
          go_at_call 72
          refine (HNr.out _ hHeld).mono ?_
          rintro e V3 ⟨rfl, hg⟩
          refine hK.out _ _ (hHeld.trans hg) (fun hHeld2 => ?_)
          clear hg
          clear hHeld hK K
          have hHeld := hHeld2
          clear hHeld2
          refine wpAnyH_take (i := 14) (v := ?_) rfl (by kernel_rfl) (by kernel_rfl) (by kernel_rfl) (fun _ _ _ h => h) (Or.inl ⟨by rfl, ?_⟩) (by assumption) ?_
          rotate_left
          · intro w hSw; go_simp; try with_reducible rfl
          refine wpAnyH_take (i := 15) (v := ?_) rfl (by kernel_rfl) (by kernel_rfl) (by kernel_rfl) (fun _ _ _ h => h) (Or.inl ⟨by rfl, ?_⟩) (by assumption) ?_
          rotate_left
          · intro w hSw; go_simp; try with_reducible rfl
          refine wpAnyH_take (i := 16) (v := ?_) rfl (by kernel_rfl) (by kernel_rfl) (by kernel_rfl) (fun _ _ _ h => h) (Or.inl ⟨by rfl, ?_⟩) (by assumption) ?_
          rotate_left
          · intro w hSw; go_simp; try with_reducible rfl
          simp only [Act.put, List.getElem_toArray, List.getElem_cons_succ, List.getElem_cons_zero, List.setIfInBounds_toArray, List.set_cons_zero, List.set_cons_succ]
          refine wpAnyH_ready (rs := [17]) (by kernel_rfl) (by simp) ?_
          refine (AllReadyH.cons rfl (fun K hK => ?_) AllReadyH.nil)
          go_simp
          refine hK.out _ _ (hHeld.alloc _) (fun hHeld2 => ?_)
          obtain ⟨X, hXe⟩ : ∃ q, q = V3.heap.size := ⟨_, rfl⟩
          have hXl : w1.heap.size ≤ X := by rw [hXe]; exact hHeld.size
          have hX : At (V3.alloc (.cells zeroP 110)) X zeroP 110 := by rw [hXe]; exact At.new _ _ _
          rw [← hXe, ← HZ.out]
          rw [← HZ.out] at hHeld2
          generalize V3.alloc (.cells zeroP 110) = V4 at *
          clear hXe
          clear hHeld hK K
          have hHeld := hHeld2
          clear hHeld2
          refine wpAnyH_ready (rs := [18]) (by kernel_rfl) (by simp) ?_
          refine (AllReadyH.cons rfl (fun K hK => ?_) AllReadyH.nil)
          rw [if_pos (by rfl)]
          refine wp_store_mid 110 _ _ rfl X 0 _ rfl rfl (At.pthere (l0 := List.replicate 20 0) hX (by simp) hr20) HN.out HO.out ?_
          refine hK.out _ _ (Gr.setCells X hXl _ _ _ hHeld) (fun hHeld2 => ?_)
          have hX2 := At.pput (l0 := List.replicate 20 0) hX (by simp) hr20
          generalize V4.setCells X 0 (peerV l1).toArray.toList = V5 at *
          clear hHeld hK K
          have hHeld := hHeld2
          clear hHeld2
          refine wpAnyH_ready (rs := [19]) (by kernel_rfl) (by simp) ?_
          refine (AllReadyH.cons rfl (fun K hK => ?_) AllReadyH.nil)
          go_simp
          refine hK.out _ _ hHeld (fun hHeld2 => ?_)
          clear hHeld hK K
          have hHeld := hHeld2
          clear hHeld2
          refine wpAnyH_done (by kernel_rfl) ?_ _
          go_wp2_with fail
          go_meet
          exact ⟨X, rfl, rfl, hXl, hHeld, hX2⟩
        · go_simp
          refine hK.out _ _ (hHeld.alloc _) (fun hHeld2 => ?_)
          obtain ⟨X, hXe⟩ : ∃ q, q = V2.heap.size := ⟨_, rfl⟩
          have hXl : w1.heap.size ≤ X := by rw [hXe]; exact hHeld.size
          have hX : At (V2.alloc (.cells zeroP 110)) X zeroP 110 := by rw [hXe]; exact At.new _ _ _
          rw [← hXe, ← HZ.out]
          rw [← HZ.out] at hHeld2
          generalize V2.alloc (.cells zeroP 110) = V7 at *
          clear hXe
          clear hHeld hK K
          have hHeld := hHeld2
          clear hHeld2
          refine wpAnyH_ready (rs := [13]) (by kernel_rfl) (by simp) ?_
          refine (AllReadyH.cons rfl (fun K hK => ?_) AllReadyH.nil)
          go_simp
          go_at_call 72
          refine (HNr.out _ hHeld).mono ?_
          rintro e V8 ⟨rfl, hg⟩
          refine hK.out _ _ (hHeld.trans hg) (fun hHeld2 => ?_)
          replace hX := hX.gr hg
          clear hg
          clear hHeld hK K
          have hHeld := hHeld2
          clear hHeld2
          refine wpAnyH_take (i := 14) (v := ?_) rfl (by kernel_rfl) (by kernel_rfl) (by kernel_rfl) (fun _ _ _ h => h) (Or.inl ⟨by rfl, ?_⟩) (by assumption) ?_
          rotate_left
          · intro w hSw; go_simp; try with_reducible rfl
          refine wpAnyH_take (i := 15) (v := ?_) rfl (by kernel_rfl) (by kernel_rfl) (by kernel_rfl) (fun _ _ _ h => h) (Or.inl ⟨by rfl, ?_⟩) (by assumption) ?_
          rotate_left
          · intro w hSw; go_simp; try with_reducible rfl
          refine wpAnyH_take (i := 16) (v := ?_) rfl (by kernel_rfl) (by kernel_rfl) (by kernel_rfl) (fun _ _ _ h => h) (Or.inl ⟨by rfl, ?_⟩) (by assumption) ?_
          rotate_left
          · intro w hSw; go_simp; try with_reducible rfl
          simp only [Act.put, List.getElem_toArray, List.getElem_cons_succ, List.getElem_cons_zero, List.setIfInBounds_toArray, List.set_cons_zero, List.set_cons_succ]
          refine wpAnyH_ready (rs := [18]) (by kernel_rfl) (by simp) ?_
          refine (AllReadyH.cons rfl (fun K hK => ?_) AllReadyH.nil)
          rw [if_pos (by rfl)]
          refine wp_store_mid 110 _ _ rfl X 0 _ rfl rfl (At.pthere (l0 := List.replicate 20 0) hX (by simp) hr20) HN.out HO.out ?_
          refine hK.out _ _ (Gr.setCells X hXl _ _ _ hHeld) (fun hHeld2 => ?_)
          have hX2 := At.pput (l0 := List.replicate 20 0) hX (by simp) hr20
          generalize V8.setCells X 0 (peerV l1).toArray.toList = V9 at *
          clear hHeld hK K
          have hHeld := hHeld2
          clear hHeld2
          refine wpAnyH_ready (rs := [19]) (by kernel_rfl) (by simp) ?_
          refine (AllReadyH.cons rfl (fun K hK => ?_) AllReadyH.nil)
          go_simp
          refine hK.out _ _ hHeld (fun hHeld2 => ?_)
          clear hHeld hK K
          have hHeld := hHeld2
          clear hHeld2
          refine wpAnyH_done (by kernel_rfl) ?_ _
          go_wp2_with fail
          go_meet
          exact ⟨X, rfl, rfl, hXl, hHeld, hX2⟩
      · go_simp
        refine hK.out _ _ (hHeld.alloc _) (fun hHeld2 => ?_)
        obtain ⟨X, hXe⟩ : ∃ q, q = V1.heap.size := ⟨_, rfl⟩
        have hXl : w1.heap.size ≤ X := by rw [hXe]; exact hHeld.size
        have hX : At (V1.alloc (.cells zeroP 110)) X zeroP 110 := by rw [hXe]; exact At.new _ _ _
        rw [← hXe, ← HZ.out]
        rw [← HZ.out] at hHeld2
        generalize V1.alloc (.cells zeroP 110) = V11 at *
        clear hXe
        clear hHeld hK K
        have hHeld := hHeld2
        clear hHeld2
        refine wpAnyH_ready (rs := [11]) (by kernel_rfl) (by simp) ?_
        refine (AllReadyH.cons rfl (fun K hK => ?_) AllReadyH.nil)
        go_simp
        go_at_call 22
        refine (HV.out _ hHeld).mono ?_
        rintro e V12 ⟨rfl, hg⟩
        refine hK.out _ _ (hHeld.trans hg) (fun hHeld2 => ?_)
        replace hX := hX.gr hg
        clear hg
        clear hHeld hK K
        have hHeld := hHeld2
        clear hHeld2
        refine wpAnyH_ready (rs := [13]) (by kernel_rfl) (by simp) ?_
        refine (AllReadyH.cons rfl (fun K hK => ?_) AllReadyH.nil)
        go_simp
        go_at_call 72
        refine (HNr.out _ hHeld).mono ?_
        rintro e V13 ⟨rfl, hg⟩
        refine hK.out _ _ (hHeld.trans hg) (fun hHeld2 => ?_)
        replace hX := hX.gr hg
        clear hg
        clear hHeld hK K
        have hHeld := hHeld2
        clear hHeld2
        refine wpAnyH_take (i := 14) (v := ?_) rfl (by kernel_rfl) (by kernel_rfl) (by kernel_rfl) (fun _ _ _ h => h) (Or.inl ⟨by rfl, ?_⟩) (by assumption) ?_
        rotate_left
        · intro w hSw; go_simp; try with_reducible rfl
        refine wpAnyH_take (i := 15) (v := ?_) rfl (by kernel_rfl) (by kernel_rfl) (by kernel_rfl) (fun _ _ _ h => h) (Or.inl ⟨by rfl, ?_⟩) (by assumption) ?_
        rotate_left
        · intro w hSw; go_simp; try with_reducible rfl
        refine wpAnyH_take (i := 16) (v := ?_) rfl (by kernel_rfl) (by kernel_rfl) (by kernel_rfl) (fun _ _ _ h => h) (Or.inl ⟨by rfl, ?_⟩) (by assumption) ?_
        rotate_left
        · intro w hSw; go_simp; try with_reducible rfl
        simp only [Act.put, List.getElem_toArray, List.getElem_cons_succ, List.getElem_cons_zero, List.setIfInBounds_toArray, List.set_cons_zero, List.set_cons_succ]
        refine wpAnyH_ready (rs := [18]) (by kernel_rfl) (by simp) ?_
        refine (AllReadyH.cons rfl (fun K hK => ?_) AllReadyH.nil)
        rw [if_pos (by rfl)]
        refine wp_store_mid 110 _ _ rfl X 0 _ rfl rfl (At.pthere (l0 := List.replicate 20 0) hX (by simp) hr20) HN.out HO.out ?_
        refine hK.out _ _ (Gr.setCells X hXl _ _ _ hHeld) (fun hHeld2 => ?_)
        have hX2 := At.pput (l0 := List.replicate 20 0) hX (by simp) hr20
        generalize V13.setCells X 0 (peerV l1).toArray.toList = V14 at *
        clear hHeld hK K
        have hHeld := hHeld2
        clear hHeld2
        refine wpAnyH_ready (rs := [19]) (by kernel_rfl) (by simp) ?_
        refine (AllReadyH.cons rfl (fun K hK => ?_) AllReadyH.nil)
        go_simp
        refine hK.out _ _ hHeld (fun hHeld2 => ?_)
        clear hHeld hK K
        have hHeld := hHeld2
        clear hHeld2
        refine wpAnyH_done (by kernel_rfl) ?_ _
        go_wp2_with fail
        go_meet
        exact ⟨X, rfl, rfl, hXl, hHeld, hX2⟩
    · go_simp
      refine hK.out _ _ (hHeld.alloc _) (fun hHeld2 => ?_)
      obtain ⟨X, hXe⟩ : ∃ q, q = V0.heap.size := ⟨_, rfl⟩
      have hXl : w1.heap.size ≤ X := by rw [hXe]; exact hHeld.size
      have hX : At (V0.alloc (.cells zeroP 110)) X zeroP 110 := by rw [hXe]; exact At.new _ _ _
      rw [← hXe, ← HZ.out]
      rw [← HZ.out] at hHeld2
      generalize V0.alloc (.cells zeroP 110) = V16 at *
      clear hXe
      clear hHeld hK K
      have hHeld := hHeld2
      clear hHeld2
      refine wpAnyH_ready (rs := [8]) (by kernel_rfl) (by simp) ?_
      refine (AllReadyH.cons rfl (fun K hK => ?_) AllReadyH.nil)
      go_simp
      go_at_call 42
      refine (HL.out _ hHeld).mono ?_
      rintro e V17 ⟨rfl, hg⟩
      refine hK.out _ _ (hHeld.trans hg) (fun hHeld2 => ?_)
      replace hX := hX.gr hg
      clear hg
      clear hHeld hK K
      have hHeld := hHeld2
      clear hHeld2
      refine wpAnyH_ready (rs := [11]) (by kernel_rfl) (by simp) ?_
      refine (AllReadyH.cons rfl (fun K hK => ?_) AllReadyH.nil)
      go_simp
      go_at_call 22
      refine (HV.out _ hHeld).mono ?_
      rintro e V18 ⟨rfl, hg⟩
      refine hK.out _ _ (hHeld.trans hg) (fun hHeld2 => ?_)
      replace hX := hX.gr hg
      clear hg
      clear hHeld hK K
      have hHeld := hHeld2
      clear hHeld2
      refine wpAnyH_ready (rs := [13]) (by kernel_rfl) (by simp) ?_
      refine (AllReadyH.cons rfl (fun K hK => ?_) AllReadyH.nil)
      go_simp
      go_at_call 72
      refine (HNr.out _ hHeld).mono ?_
      rintro e V19 ⟨rfl, hg⟩
      refine hK.out _ _ (hHeld.trans hg) (fun hHeld2 => ?_)
      replace hX := hX.gr hg
      clear hg
      clear hHeld hK K
      have hHeld := hHeld2
      clear hHeld2
      refine wpAnyH_take (i := 14) (v := ?_) rfl (by kernel_rfl) (by kernel_rfl) (by kernel_rfl) (fun _ _ _ h => h) (Or.inl ⟨by rfl, ?_⟩) (by assumption) ?_
      rotate_left
      · intro w hSw; go_simp; try with_reducible rfl
      refine wpAnyH_take (i := 15) (v := ?_) rfl (by kernel_rfl) (by kernel_rfl) (by kernel_rfl) (fun _ _ _ h => h) (Or.inl ⟨by rfl, ?_⟩) (by assumption) ?_
      rotate_left
      · intro w hSw; go_simp; try with_reducible rfl
      refine wpAnyH_take (i := 16) (v := ?_) rfl (by kernel_rfl) (by kernel_rfl) (by kernel_rfl) (fun _ _ _ h => h) (Or.inl ⟨by rfl, ?_⟩) (by assumption) ?_
      rotate_left
      · intro w hSw; go_simp; try with_reducible rfl
      simp only [Act.put, List.getElem_toArray, List.getElem_cons_succ, List.getElem_cons_zero, List.setIfInBounds_toArray, List.set_cons_zero, List.set_cons_succ]
      refine wpAnyH_ready (rs := [18]) (by kernel_rfl) (by simp) ?_
      refine (AllReadyH.cons rfl (fun K hK => ?_) AllReadyH.nil)
      rw [if_pos (by rfl)]
      refine wp_store_mid 110 _ _ rfl X 0 _ rfl rfl (At.pthere (l0 := List.replicate 20 0) hX (by simp) hr20) HN.out HO.out ?_
      refine hK.out _ _ (Gr.setCells X hXl _ _ _ hHeld) (fun hHeld2 => ?_)
      have hX2 := At.pput (l0 := List.replicate 20 0) hX (by simp) hr20
      generalize V19.setCells X 0 (peerV l1).toArray.toList = V20 at *
      clear hHeld hK K
      have hHeld := hHeld2
      clear hHeld2
      refine wpAnyH_ready (rs := [19]) (by kernel_rfl) (by simp) ?_
      refine (AllReadyH.cons rfl (fun K hK => ?_) AllReadyH.nil)
      go_simp
      refine hK.out _ _ hHeld (fun hHeld2 => ?_)
      clear hHeld hK K
      have hHeld := hHeld2
      clear hHeld2
      refine wpAnyH_done (by kernel_rfl) ?_ _
      go_wp2_with fail
      go_meet
      exact ⟨X, rfl, rfl, hXl, hHeld, hX2⟩
  case rest =>
    obtain ⟨X, rfl, rfl, hXl, gx, aX⟩ := hcut
    have hSX : S + 1 + 1 + 1 < X := by have := HD.out.2.2.2.2.2.2; omega
    have hwS := HD.out.2.2.2.2.2.1
    have J : SR c w r S X l1 l1 wc := ⟨HD.out.2.2.2.2.1.trans gx, cell_gr gx HD.out.1, cell_gr gx HD.out.2.1, aX⟩
    have hR0 : At wc (S + 1 + 1 + 1) (peerV (List.replicate 20 0)).toArray 110 := HD.out.2.2.2.1.gr gx
    clear HL HV HNr HR gx aX HD HO HN
    go_upto_region 2 with fail
    refine wp_region_held_drew (S := SR c w r S X l1 l1) (by kernel_rfl) (J.step ((Gr.refl wc).drew)) (fun hHeld => ?_)
    refine wpAnyH_take (i := 3) (v := ?_) rfl (by kernel_rfl) (by kernel_rfl) (by kernel_rfl) (fun _ _ _ h => h) (Or.inl ⟨by rfl, ?_⟩) (by assumption) ?_
    rotate_left
    · intro w hSw; go_simp; try with_reducible rfl
    refine wpAnyH_take (i := 6) (v := ?_) rfl (by kernel_rfl) (by kernel_rfl) (by kernel_rfl) (fun _ _ _ h => h) (Or.inl ⟨by rfl, ?_⟩) (by assumption) ?_
    rotate_left
    · intro w hSw; go_simp; try with_reducible rfl
    simp only [Act.put, List.getElem_toArray, List.getElem_cons_succ, List.getElem_cons_zero, List.setIfInBounds_toArray, List.set_cons_zero, List.set_cons_succ]
    refine wpAnyH_take (i := 4) (v := _) rfl (by kernel_rfl) (by kernel_rfl) (by kernel_rfl) (fun _ _ _ h => h) (yieldsIf_load_mid (by rfl) 37 _ rfl X 0 rfl (idV l1) _ (fun W h => range_pre h.aX.pall) hu37 rfl hir) (by assumption) ?_
    refine wpAnyH_take (i := 7) (v := _) rfl (by kernel_rfl) (by kernel_rfl) (by kernel_rfl) (fun _ _ _ h => h) (yieldsIf_load_mid (by rfl) 90 _ rfl X 20 rfl addrV _ (fun W h => by have := range_addr hr20 h.aX.pall; simpa using this) Yba.underlying90 rfl hi90) (by assumption) ?_
    refine wpAnyH_take (i := 0) (v := ?_) rfl (by kernel_rfl) (by kernel_rfl) (by kernel_rfl) (fun _ _ _ h => h) (Or.inl ⟨by rfl, ?_⟩) (by assumption) ?_
    rotate_left
    · intro w hSw; have q1 := hSw.c1; go_simp; try with_reducible rfl
    refine wpAnyH_take (i := 2) (v := ?_) rfl (by kernel_rfl) (by kernel_rfl) (by kernel_rfl) (fun _ _ _ h => h) (Or.inl ⟨by rfl, ?_⟩) (by assumption) ?_
    rotate_left
    · intro w hSw; have q2 := hSw.c2; go_simp; try with_reducible rfl
    refine wpAnyH_take (i := 9) (v := ?_) rfl (by kernel_rfl) (by kernel_rfl) (by kernel_rfl) (fun _ _ _ h => h) (Or.inl ⟨by rfl, ?_⟩) (by assumption) ?_
    rotate_left
    · intro w hSw; go_simp; try with_reducible rfl
    simp only [Act.put, List.getElem_toArray, List.getElem_cons_succ, List.getElem_cons_zero, List.setIfInBounds_toArray, List.set_cons_zero, List.set_cons_succ]
    have hR : At wc.drew (S + 1 + 1 + 1) (peerV (List.replicate 20 0)).toArray 110 := hR0
    clear J hR0
    generalize wc.drew = V0 at hHeld hR ⊢
    refine wpAnyH_ready (rs := [1]) (by kernel_rfl) (by simp) ?_
    refine AllReadyH.cons rfl (fun K hK => ?_) AllReadyH.nil
    go_simp
    go_at_call 42
    refine (HLw.out _ hHeld.gr).mono ?_
    rintro e V1 ⟨rfl, hg⟩
    refine hK.out _ _ (hHeld.step hg) (fun hHeld2 => ?_)
    replace hR := hR.gr hg
    clear hg
    clear hHeld hK K
    have hHeld := hHeld2
    clear hHeld2
    refine wpAnyH_ready (rs := [5]) (by kernel_rfl) (by simp) ?_
    refine AllReadyH.cons rfl (fun K hK => ?_) AllReadyH.nil
    go_simp
    go_at_call 74
    refine (HU.out _ hHeld.gr).mono ?_
    rintro e V2 ⟨rfl, hg⟩
    refine hK.out _ _ (hHeld.step hg) (fun hHeld2 => ?_)
    replace hR := hR.gr hg
    clear hg
    clear hHeld hK K
    have hHeld := hHeld2
    clear hHeld2
    refine wpAnyH_ready (rs := [8]) (by kernel_rfl) (by simp) ?_
    refine AllReadyH.cons rfl (fun K hK => ?_) AllReadyH.nil
    rw [if_pos (by rfl)]
    refine wp_build_run 110 _ rfl [(0, .agg (idV m).toArray), (1, .agg addrV.toArray)] (by simp [Act.eval]) _ HBu.out ?_
    refine hK.out _ _ hHeld (fun hHeld2 => ?_)
    clear hHeld hK K
    have hHeld := hHeld2
    clear hHeld2
    refine wpAnyH_ready (rs := [10]) (by kernel_rfl) (by simp) ?_
    refine AllReadyH.cons rfl (fun K hK => ?_) AllReadyH.nil
    rw [if_pos (by rfl)]
    refine wp_store_mid 110 _ _ rfl (S + 1 + 1 + 1) 0 _ rfl rfl (hR.pthere (by simp) hm20) HNm.out HOm.out ?_
    refine hK.out _ _ (hHeld.put hwS hSX _) (fun hHeld2 => ?_)
    have hR2 := hR.pput (by simp) hm20
    generalize V2.setCells (S + 1 + 1 + 1) 0 (peerV m).toArray.toList = V3 at *
    clear hR
    clear hHeld hK K
    have hHeld := hHeld2
    clear hHeld2
    refine wpAnyH_ready (rs := [11]) (by kernel_rfl) (by simp) ?_
    refine AllReadyH.cons rfl (fun K hK => ?_) AllReadyH.nil
    go_simp
    refine hK.out _ _ hHeld (fun hHeld2 => ?_)
    clear hHeld hK K
    have hHeld := hHeld2
    clear hHeld2
    refine wpAnyH_done (by kernel_rfl) ?_ _
    clear HLw HU HBu HOm
    go_wp2
    refine bodyPost_ret_by (results_cell_slot (P := Yba.prog) (p := 6) (u := 7) (ty := 110) rfl _ _ (S + 1 + 1 + 1) 110 (peerV m).toArray _ _ rfl hR2 Yba.underlying110 rfl HNm.out) rfl ?_
    exact ⟨⟨m, hm20, rfl⟩, hHeld.gr⟩
end Go.Proofs.Ybulkapqu
