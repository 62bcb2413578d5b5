import Derived.Test.YbulkapquC19
import Derived.Handy
namespace Go.Proofs.Ybulkapqu
open Go.RowKit Go.Sort

/-! ### What sending does, step by step -/
structure Step (TR : Nat) (ob : Option Nat) (w : World) (ob' : Option Nat) (w' : World) : Prop where
  fr : Fr TR ob w w'
  own : ob' = ob ∨ ∃ g, ob' = some g ∧ w.heap.size ≤ g
theorem Step.of_gr {TR : Nat} {ob : Option Nat} {w w' : World} (g : Gr w w') : Step TR ob w ob w' := by
  have b := g.below w.heap.size (Nat.le_refl _)
  exact ⟨⟨b.os, b.tape, b.output, g.size, fun k hk _ _ => g.heap hk⟩, .inl rfl⟩
theorem Step.trans {TR : Nat} {ob ob' ob'' : Option Nat} {w w' w'' : World} (h : Step TR ob w ob' w') (h' : Step TR ob' w' ob'' w'') : Step TR ob w ob'' w'' := by
  refine ⟨⟨h'.fr.os.trans h.fr.os, h'.fr.tape.trans h.fr.tape, h'.fr.output.trans h.fr.output, Nat.le_trans h.fr.size h'.fr.size, fun k hk hT ho => ?_⟩, ?_⟩
  · rw [h'.fr.block k (Nat.lt_of_lt_of_le hk h.fr.size) hT ?_, h.fr.block k hk hT ho]
    rcases h.own with e | ⟨g, e, hg⟩
    · rw [e]; exact ho
    · rw [e]; intro e2; injection e2 with e2; omega
  · rcases h'.own with e | ⟨g, e, hg⟩
    · rw [e]; exact h.own
    · exact .inr ⟨g, e, Nat.le_trans h.fr.size hg⟩
theorem Step.at {TR : Nat} {ob ob' : Option Nat} {w w' : World} (h : Step TR ob w ob' w') {b : Nat} {C : Array Value} {t : TypeId} (a : At w b C t) (hT : b ≠ TR) (ho : ob ≠ some b) : At w' b C t := a.of_heap (h.fr.block b a.lt hT ho)
theorem Step.ne {TR : Nat} {ob ob' : Option Nat} {w w' : World} (h : Step TR ob w ob' w') {b : Nat} (hb : b < w.heap.size) (ho : ob ≠ some b) : ob' ≠ some b := by
  rcases h.own with e | ⟨g, e, hg⟩
  · rw [e]; exact ho
  · rw [e]; intro e2; injection e2 with e2; omega
theorem cell_of_heap {w w' : World} {a : Addr} {v : Value} (e : w'.heap[a.block]? = w.heap[a.block]?) (h : w.cell? a = some v) : w'.cell? a = some v := by
  unfold World.cell? at h ⊢
  rw [e]; exact h
theorem Step.cell {TR : Nat} {ob ob' : Option Nat} {w w' : World} (h : Step TR ob w ob' w') {a : Addr} {v : Value} (hv : w.cell? a = some v) (hT : a.block ≠ TR) (ho : ob ≠ some a.block) : w'.cell? a = some v :=
  cell_of_heap (h.fr.block _ (World.block_lt_of_cell? _ _ hv) hT ho) hv
theorem LogAt.gr {w w' : World} {TR base : Nat} {ob : Option Nat} {ms : List (List Value)} (h : LogAt w TR base ob ms) (g : Gr w w') : LogAt w' TR base ob ms := by
  obtain ⟨v, a, b, c⟩ := h.tr
  refine ⟨v, a.gr g, b, ?_⟩
  obtain ⟨h0, h⟩ := c
  refine ⟨h0, ?_⟩
  rcases h with h | ⟨g', cap', cur, e1, e2, e3, e4⟩
  · exact .inl h
  · exact .inr ⟨g', cap', cur, e1, e2, At.gr (w := w) e3 g, e4⟩
/-- The log's own row is of messages. -/
theorem LogAt.row {w : World} {TR base : Nat} {ob : Option Nat} {ms : List (List Value)} (h : LogAt w TR base ob ms) {g : Nat} (e : ob = some g) : ∃ cs, At w g cs 94 := by
  obtain ⟨v, a, b, c⟩ := h.tr
  obtain ⟨h0, h⟩ := c
  rcases h with ⟨h, _⟩ | ⟨g', cap', cur, e1, e2, e3, e4⟩
  · subst h; subst e; simp [Value.ownBlock] at b
  · subst e1; subst e; simp [Value.ownBlock] at b; subst b; exact ⟨_, e3⟩
theorem LogAt.apart {w : World} {TR base : Nat} {ob : Option Nat} {ms : List (List Value)} (h : LogAt w TR base ob ms) {b : Nat} {C : Array Value} {t : TypeId} (a : At w b C t) (ht : t ≠ 94) : ob ≠ some b := by
  intro e
  obtain ⟨cs, hc⟩ := h.row e
  exact At.ne hc a (Ne.symm ht) rfl
theorem LogAt.apartTR {w : World} {TR base : Nat} {ob : Option Nat} {ms : List (List Value)} (h : LogAt w TR base ob ms) : ob ≠ some TR := by
  obtain ⟨v, a, _⟩ := h.tr
  exact h.apart a (by decide)

theorem info90 : (Yba.prog.info? 90).map (·.size) = some 4 := by kernel_rfl

set_option maxHeartbeats 4000000 in
set_option maxRecDepth 1000000 in
theorem handOn_calls (w : World) (TR base MB : Nat) (ob : Option Nat) (ms : List (List Value)) (m : List Value) (l : List UInt8) (v8 : Value) (hl : l.length = 20) (hL : LogAt w TR base ob ms) (hms : ms.length ≤ 100000) (hbase : base ≤ w.heap.size) (hm : m.length = 99) (h1 : ∀ v ∈ m, v.oneCell' = true)
    (net : w.cell? ⟨MB, 0, none⟩ = some (.iface 52 (.pointer (some ⟨TR, 0, none⟩)))) (per : w.cell? ⟨MB, 26, none⟩ = some (.int .i64 0)) (hMT : MB ≠ TR) (hMo : ob ≠ some MB) :
    Calls Yba.prog 83 #[.pointer (some ⟨MB, 0, none⟩), .agg (peerV l).toArray, v8, .agg m.toArray] w fun e w' => e = .returned (.tuple #[]) ∧ ∃ ob', LogAt w' TR base ob' (ms ++ [m]) ∧ Step TR ob w ob' w' := by
  have mixed : Yba.prog.follows .mixedOrders = true := by kernel_rfl
  obtain ⟨S, hS⟩ : ∃ S, S = w.heap.size := ⟨_, rfl⟩
  obtain ⟨w1, hw1⟩ : ∃ w1, w1 = (w.alloc (.cells (peerV l).toArray 110)).alloc (.cells m.toArray 94) := ⟨_, rfl⟩
  have g1 : Gr w w1 := by rw [hw1]; exact ((Gr.refl w).alloc _).alloc _
  have s1 : w1.heap.size = S + 1 + 1 := by rw [hw1, World.size_alloc, World.size_alloc, hS]
  have aP : At w1 S (peerV l).toArray 110 := by rw [hw1, hS]; exact (At.new w _ _).alloc _
  have aM : At w1 (S + 1) m.toArray 94 := by
    have := At.new (w.alloc (.cells (peerV l).toArray 110)) m.toArray 94
    rw [World.size_alloc, ← hS] at this
    rw [hw1]; exact this
  obtain ⟨V, hV⟩ : ∃ V, V = w1.drew := ⟨_, rfl⟩
  have gV : Gr w V := by rw [hV]; exact g1.drew
  have gV1 : Gr w1 V := by rw [hV]; exact (Gr.refl w1).drew
  have hu90 := Yba.underlying90
  have hi90 := info90
  have HC := hide (send_calls V TR base (S + 1) ob ms m [.int .u64 0, .int .u64 0, .pointer none, .int .u16 0] (hL.gr gV) hms (Nat.le_trans hbase gV.size) hm h1 (aM.gr gV1) hL.apartTR)
  have q1 := cell_gr gV net
  have HP := hide per
  have HQ := hide net
  have HN : Hid (S ≠ TR ∧ ob ≠ some S) := ⟨by obtain ⟨v, a, _⟩ := hL.tr; exact At.ne aP (a.gr g1) (by decide), (hL.gr g1).apart aP (by decide)⟩
  have HAp : Hid (V.rangeAt S 20 [.int .u64 0, .int .u64 0, .pointer none, .int .u16 0]) := by
    have hp : V.rangeAt S 0 (peerV l) := (aP.gr gV1).pall
    intro j v hj
    have := hp (20 + j) v (by
      unfold peerV
      rw [List.getElem?_append_right (by rw [length_idV, hl]; omega), length_idV, hl]
      rw [show 20 + j - 20 = j by omega]; exact hj)
    simpa using this
  have HGV := hide gV
  have HW := hide hw1
  have HS := hide hS
  have HV := hide hV
  have HBl := hide (And.intro hMT hMo)
  clear hL hms hbase h1 net per hw1 hS g1 s1 aP aM gV gV1 hV hMT hMo
  go_enter Yba.func83, Yba.ntmps83
  go_upto_region 1 with fail
  rw [← HW.out, ← HS.out]
  refine wp_region_held_drew (S := fun W => W.cell? ⟨MB, 0, none⟩ = some (.iface 52 (.pointer (some ⟨TR, 0, none⟩))) ∧ W.rangeAt S 20 [.int .u64 0, .int .u64 0, .pointer none, .int .u16 0]) (by kernel_rfl) (by rw [← HV.out]; exact ⟨q1, HAp.out⟩) (fun hHeld => ?_)
  rw [← HV.out] at hHeld ⊢
  clear q1
  refine wpAnyH_take (i := 0) (v := ?_) rfl (by kernel_rfl) (by kernel_rfl) (by kernel_rfl) (fun _ _ _ h => h) (Or.inl ⟨by rfl, ?_⟩) (by assumption) ?_
  rotate_left
  · intro w hSw; go_simp; try with_reducible rfl
  refine wpAnyH_take (i := 1) (v := ?_) rfl (by kernel_rfl) (by kernel_rfl) (by kernel_rfl) (fun _ _ _ h => h) (Or.inl ⟨by rfl, ?_⟩) (by assumption) ?_
  rotate_left
  · intro w hSw; go_simp; try with_reducible rfl
  refine wpAnyH_take (i := 2) (v := ?_) rfl (by kernel_rfl) (by kernel_rfl) (by kernel_rfl) (fun _ _ _ h => h) (Or.inl ⟨by rfl, ?_⟩) (by assumption) ?_
  rotate_left
  · intro w hSw; go_simp; try with_reducible rfl
  refine wpAnyH_take (i := 3) (v := ?_) rfl (by kernel_rfl) (by kernel_rfl) (by kernel_rfl) (fun _ _ _ h => h) (Or.inl ⟨by rfl, ?_⟩) (by assumption) ?_
  rotate_left
  · intro w hSw; have q1 := hSw.1; go_simp; try with_reducible rfl
  refine wpAnyH_take (i := 4) (v := ?_) rfl (by kernel_rfl) (by kernel_rfl) (by kernel_rfl) (fun _ _ _ h => h) (Or.inl ⟨by rfl, ?_⟩) (by assumption) ?_
  rotate_left
  · intro w hSw; go_simp; try with_reducible rfl
  simp only [Act.put, List.getElem_toArray, List.getElem_cons_succ, List.getElem_cons_zero, List.setIfInBounds_toArray, List.set_cons_zero, List.set_cons_succ]
  refine wpAnyH_take (i := 5) (v := _) rfl (by kernel_rfl) (by kernel_rfl) (by kernel_rfl) (fun _ _ _ h => h) (yieldsIf_load_mid (by rfl) 90 _ rfl S 20 rfl [.int .u64 0, .int .u64 0, .pointer none, .int .u16 0] _ (fun W h => h.2) hu90 rfl hi90) (by assumption) ?_
  simp only [Act.put, List.getElem_toArray, List.getElem_cons_succ, List.getElem_cons_zero, List.setIfInBounds_toArray, List.set_cons_zero, List.set_cons_succ]
  refine wpAnyH_ready (rs := [6]) (by kernel_rfl) (by simp) ?_
  refine AllReadyH.cons rfl (fun K hK => ?_) AllReadyH.nil
  go_simp
  go_invoke
  go_simp
  go_at_call 130
  refine HC.out.mono ?_
  rintro e w2 ⟨rfl, ⟨ob', hL', hown⟩, hfr⟩
  have hst : Step TR ob w ob' w2 := (Step.of_gr HGV.out).trans ⟨hfr, hown⟩
  have q26 := hst.cell HP.out HBl.out.1 HBl.out.2
  have HF := hide (And.intro hL' hst)
  have hSs : w2.rangeAt S 20 [.int .u64 0, .int .u64 0, .pointer none, .int .u16 0] := fun j v hj => by
    have hlt : S < V.heap.size := World.block_lt_of_cell? _ _ (HAp.out 0 _ rfl)
    refine cell_of_heap (w := V) ?_ (HAp.out j v hj)
    exact hfr.block S hlt (HN.out.1) (HN.out.2)
  refine hK.out _ _ ⟨hst.cell HQ.out HBl.out.1 HBl.out.2, hSs⟩ (fun _ => ?_)
  clear hHeld HC HAp HP HQ hL' hown hfr hst hSs HGV hK K
  refine wpAnyH_done (by kernel_rfl) ?_ _
  go_wp2
  refine bodyPost_end (results_none rfl _ _ _) rfl ?_
  exact ⟨rfl, _, HF.out.1, HF.out.2⟩
end Go.Proofs.Ybulkapqu
