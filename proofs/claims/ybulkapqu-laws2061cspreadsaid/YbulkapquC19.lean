import Derived.Test.YbulkapquC18
import Derived.Deep.AppendLies
import Derived.Great.BuildSlice
namespace Go.Proofs.Ybulkapqu
open Go.RowKit Go.Sort

/-! ### A slice literal of one element of many cells -/
theorem foldl_set (m : List Value) : ∀ (k : Nat) (cs : Array Value) (i : Nat), ((m.zipIdx k).foldl (fun cs (x : Value × Nat) => cs.setIfInBounds x.2 x.1) cs)[i]? = if k ≤ i ∧ i < k + m.length ∧ i < cs.size then m[i - k]? else cs[i]? := by
  induction m with
  | nil => intro k cs i; simp; omega
  | cons v r ih =>
    intro k cs i
    rw [List.zipIdx_cons, List.foldl_cons, ih (k + 1)]
    simp only [Array.size_setIfInBounds, List.length_cons]
    by_cases h1 : k + 1 ≤ i ∧ i < k + 1 + r.length ∧ i < cs.size
    · rw [if_pos h1, if_pos (by omega), show i - k = (i - (k + 1)) + 1 by omega, List.getElem?_cons_succ]
    · rw [if_neg h1, Array.getElem?_setIfInBounds]
      by_cases h2 : k = i
      · subst h2
        by_cases h3 : k < cs.size
        · rw [if_pos rfl, if_pos h3, if_pos (by omega)]; simp
        · rw [if_pos rfl, if_neg h3, if_neg (by omega), Array.getElem?_eq_none (by omega)]
      · rw [if_neg h2, if_neg (by omega)]
theorem fill_whole (m : List Value) (size : Nat) (hm : m.length = size) (cells : Array Value) (hc : cells.size = size) :
    Instr.fill (fun i => some (i * size, size)) cells [(0, .agg m.toArray)] = some m.toArray := by
  have hcs : (Value.agg m.toArray).cells = m.toArray := rfl
  unfold Instr.fill
  simp only [hcs, Nat.zero_mul, List.size_toArray, hm, ne_eq, not_true_eq_false, decide_false, Bool.false_or, Nat.zero_add, hc, gt_iff_lt, Nat.lt_irrefl]
  unfold Instr.fill
  rw [if_neg (by simp)]
  congr 1
  apply Array.ext_getElem?
  intro i
  have e : (m.toArray.zipIdx.foldl (fun cs (x : Value × Nat) => cs.setIfInBounds x.2 x.1) cells) = (m.zipIdx 0).foldl (fun cs (x : Value × Nat) => cs.setIfInBounds x.2 x.1) cells := by simp
  have h := foldl_set m 0 cells i
  rw [← e] at h
  simp only [Nat.zero_add] at h
  rw [h]
  by_cases hi : i < m.length
  · rw [if_pos (by omega)]; simp
  · rw [if_neg (by omega), Array.getElem?_eq_none (by omega), Array.getElem?_eq_none (by simpa using hi)]

theorem info94 : (Yba.prog.info? 94).map (fun i => (i.zero, i.size, i.bytes)) = some (some (.agg Yba.zeroCells94), 99, 424) := by kernel_rfl
theorem zero94 : (Yba.zeroCells94).size = 99 := by kernel_rfl

/-! ### The log -/
/-- A message that tells of this death. -/
structure Msg (ring : Int) (key : List UInt8) (stamp : Int) (m : List Value) : Prop where
  len : m.length = 99
  kind : m[0]? = some (.int .u8 19)
  ring : m[1]? = some (.int .i64 ring)
  key : ∀ (j : Nat) (x : Value), (idV key)[j]? = some x → m[22 + j]? = some x
  stamp : m[79]? = some (.int .u64 stamp)
  one : ∀ v ∈ m, v.oneCell' = true
structure LogAt (W : World) (TR base : Nat) (ob : Option Nat) (ms : List (List Value)) : Prop where
  tr : ∃ v, At W TR #[v] 55 ∧ v.ownBlock = ob ∧ W.ownsRow base 94 99 v ms.length ms.flatten
/-- What sending leaves alone. -/
structure Fr (TR : Nat) (ob : Option Nat) (w w' : World) : Prop where
  os : w'.os = w.os
  tape : w'.tape = w.tape
  output : w'.output = w.output
  size : w.heap.size ≤ w'.heap.size
  block : ∀ k, k < w.heap.size → k ≠ TR → ob ≠ some k → w'.heap[k]? = w.heap[k]?

theorem send_fin {w V w' : World} {TR base : Nat} {ob : Option Nat} {ms : List (List Value)} {m : List Value} {v : Value} {g cap : Nat} (gV : Gr w V) (T : At V TR #[v] 55) (hv2 : v.ownBlock = ob) (hgrow : V.grownBy w' v.ownBlock)
    (hown : w'.ownsRow base 94 99 (.slice (some ⟨g, 0, none⟩) (ms.length + 1) cap) (ms.length + 1) (ms.flatten ++ m)) (hat : v.ownBlock = some g ∨ g = V.heap.size) (hT : ob ≠ some TR) :
    At w' TR #[v] 55 ∧ (∃ ob', LogAt (w'.setCell ⟨TR, 0, none⟩ (.slice (some ⟨g, 0, none⟩) (ms.length + 1) cap)) TR base ob' (ms ++ [m]) ∧ (ob' = ob ∨ ∃ g, ob' = some g ∧ w.heap.size ≤ g)) ∧ Fr TR ob w (w'.setCell ⟨TR, 0, none⟩ (.slice (some ⟨g, 0, none⟩) (ms.length + 1) cap)) := by
  subst hv2
  have T' : At w' TR #[v] 55 := T.of_heap (hgrow.block TR T.lt (fun e => hT e.symm))
  have hgT : g ≠ TR := by
    obtain ⟨_, h⟩ := hown
    rcases h with ⟨h, _⟩ | ⟨g', cap', cur, e1, _, e3, _⟩
    · simp at h
    · injection e1 with e1 _ _
      injection e1 with e1
      injection e1 with e1 _ _
      subst e1
      exact At.ne (w := w') e3 T' (by decide)
  have hs := gV.size
  refine ⟨T', ⟨some g, ⟨⟨_, by simpa using T'.set 0 (.slice (some ⟨g, 0, none⟩) (ms.length + 1) cap), rfl, ?_⟩⟩, ?_⟩, ?_⟩
  · obtain ⟨h0, h⟩ := hown
    refine ⟨by simpa using h0, ?_⟩
    rcases h with h | ⟨g', cap', cur, e1, e2, e3, e4⟩
    · simp at h
    · right
      refine ⟨g', cap', cur, by simpa using e1, e2, ?_, by simpa using e4⟩
      injection e1 with e1' _ _
      injection e1' with e1'
      injection e1' with e1' _ _
      subst e1'
      rw [Below.heap_setCell _ _ _ _ hgT]
      exact e3
  · rcases hat with h | h
    · exact .inl h.symm
    · exact .inr ⟨g, rfl, by omega⟩
  · have b := gV.below w.heap.size (Nat.le_refl _)
    refine ⟨hgrow.os.trans b.os, hgrow.tape.trans b.tape, hgrow.output.trans b.output, by rw [World.size_setCell]; exact Nat.le_trans hs hgrow.size, fun k hk hkT hko => ?_⟩
    rw [Below.heap_setCell _ _ _ _ hkT, hgrow.block k (Nat.lt_of_lt_of_le hk hs) (fun e => hko e.symm), gV.heap hk]

set_option maxHeartbeats 4000000 in
set_option maxRecDepth 1000000 in
theorem send_calls (w : World) (TR base Mg : Nat) (ob : Option Nat) (ms : List (List Value)) (m addr : List Value) (hL : LogAt w TR base ob ms) (hms : ms.length ≤ 100000) (hbase : base ≤ w.heap.size) (hm : m.length = 99) (h1 : ∀ v ∈ m, v.oneCell' = true) (hMg : At w Mg m.toArray 94) (hT : ob ≠ some TR) :
    Calls Yba.prog 130 #[.pointer (some ⟨TR, 0, none⟩), .agg addr.toArray, .pointer (some ⟨Mg, 0, none⟩)] w fun e w' => e = .returned (.tuple #[]) ∧ (∃ ob', LogAt w' TR base ob' (ms ++ [m]) ∧ (ob' = ob ∨ ∃ g, ob' = some g ∧ w.heap.size ≤ g)) ∧ Fr TR ob w w' := by
  have mixed : Yba.prog.follows .mixedOrders = true := by kernel_rfl
  obtain ⟨v, hv1, hv2, hv3⟩ := hL.tr
  obtain ⟨i0, hi0, hz0, hz1, hz2⟩ := info_parts info94
  have hu94 := Yba.underlying94
  have hi94 : (Yba.prog.info? 94).map (·.size) = some m.length := by rw [hm]; kernel_rfl
  obtain ⟨w1, hw1⟩ : ∃ w1, w1 = w.alloc (.cells addr.toArray 90) := ⟨_, rfl⟩
  have g1 : Gr w w1 := by rw [hw1]; exact (Gr.refl w).alloc _
  have T1 : At w1 TR #[v] 55 := hv1.gr g1
  have O1 : w1.ownsRow base 94 99 v ms.length ms.flatten := by rw [hw1]; exact hv3.alloc _
  have M1 : At w1 Mg m.toArray 94 := hMg.gr g1
  have hfill : Instr.fill (fun i => some (i * i0.size, i0.size)) ((Array.range (1 * i0.size)).map ((Value.agg Yba.zeroCells94).cells[· % (Value.agg Yba.zeroCells94).cells.size]!)) [(0, .agg m.toArray)] = some m.toArray := by
    rw [hz1]; exact fill_whole m 99 hm _ (by simp)
  have HFl := hide hfill
  have HW := hide hw1
  have HZ0 := hide hz0
  obtain ⟨nn, hnn⟩ : ∃ nn, nn = ms.length := ⟨_, rfl⟩
  obtain ⟨xs, hxs⟩ : ∃ xs, xs = ms.flatten := ⟨_, rfl⟩
  rw [← hnn, ← hxs] at O1
  have hnn2 : nn ≤ 100000 := by omega
  have HNN := hide (And.intro hnn hxs)
  have HG := hide g1
  have HV2 := hide hv2
  have HH1 := hide h1
  clear hw1 hfill hz0 hv1 hv3 hL hMg hnn hxs g1 hv2 h1 hms
  go_enter Yba.func130, Yba.ntmps130
  go_upto_region 1 with fail
  rw [← HW.out]
  refine wp_region_held_drew (S := fun _ => True) (by kernel_rfl) trivial (fun hHeld => ?_)
  refine wpAnyH_take (i := 0) (v := ?_) rfl (by kernel_rfl) (by kernel_rfl) (by kernel_rfl) (fun _ _ _ h => h) (Or.inl ⟨by rfl, ?_⟩) (by assumption) ?_
  rotate_left
  · intro w hSw; go_simp; try with_reducible rfl
  refine wpAnyH_take (i := 1) (v := ?_) rfl (by kernel_rfl) (by kernel_rfl) (by kernel_rfl) (fun _ _ _ h => h) (Or.inl ⟨by rfl, ?_⟩) (by assumption) ?_
  rotate_left
  · intro w hSw; go_simp; try with_reducible rfl
  refine wpAnyH_take (i := 2) (v := ?_) rfl (by kernel_rfl) (by kernel_rfl) (by kernel_rfl) (fun _ _ _ h => h) (Or.inl ⟨by rfl, ?_⟩) (by assumption) ?_
  rotate_left
  · intro w hSw; go_simp; try with_reducible rfl
  refine wpAnyH_take (i := 3) (v := ?_) rfl (by kernel_rfl) (by kernel_rfl) (by kernel_rfl) (fun _ _ _ h => h) (Or.inl ⟨by rfl, ?_⟩) (by assumption) ?_
  rotate_left
  · intro w hSw; go_simp; try with_reducible rfl
  refine wpAnyH_take (i := 5) (v := ?_) rfl (by kernel_rfl) (by kernel_rfl) (by kernel_rfl) (fun _ _ _ h => h) (Or.inl ⟨by rfl, ?_⟩) (by assumption) ?_
  rotate_left
  · intro w hSw; go_simp; try with_reducible rfl
  refine wpAnyH_take (i := 6) (v := ?_) rfl (by kernel_rfl) (by kernel_rfl) (by kernel_rfl) (fun _ _ _ h => h) (Or.inl ⟨by rfl, ?_⟩) (by assumption) ?_
  rotate_left
  · intro w hSw; go_simp; try with_reducible rfl
  simp only [Act.put, List.getElem_toArray, List.getElem_cons_succ, List.getElem_cons_zero, List.setIfInBounds_toArray, List.set_cons_zero, List.set_cons_succ]
  have T : At w1.drew TR #[v] 55 := T1
  have O : w1.drew.ownsRow base 94 99 v nn xs := O1
  have M : At w1.drew Mg m.toArray 94 := M1
  have gV : Gr w w1.drew := HG.out.drew
  clear T1 O1 M1 HG HW
  generalize w1.drew = V0 at *
  refine wpAnyH_ready (rs := [4, 7]) (by kernel_rfl) (by simp) ?_
  refine (AllReadyH.cons rfl (fun K hK => ?_) (AllReadyH.cons rfl (fun K hK => ?_) AllReadyH.nil))
  · have q4 := T.cell 0
    simp at q4
    go_simp
    refine hK.out _ _ trivial (fun _ => ?_)
    clear q4 hK K
    refine wpAnyH_ready (rs := [7]) (by kernel_rfl) (by simp) ?_
    refine (AllReadyH.cons rfl (fun K hK => ?_) AllReadyH.nil)
    rw [if_pos (by rfl)]
    refine wp_load_mid 94 _ rfl Mg 0 rfl m _ (fun j u hj => by rw [M.cell, Nat.zero_add]; simpa using hj) hu94 rfl hi94 ?_
    refine hK.out _ _ trivial (fun _ => ?_)
    clear hK K
    refine wpAnyH_ready (rs := [8]) (by kernel_rfl) (by simp) ?_
    refine (AllReadyH.cons rfl (fun K hK => ?_) AllReadyH.nil)
    rw [if_pos (by rfl)]
    refine wp_buildSlice 53 94 1 _ rfl m.toArray i0 (.agg Yba.zeroCells94) Yba.underlying53 hi0 HZ0.out (by rw [hz1]; decide) (by rw [hz1]; decide) (Eq.trans (congrArg _ (by first | (simp [Act.eval]; done) | simp [Act.eval, Act.put])) HFl.out) ?_
    refine hK.out _ _ trivial (fun _ => ?_)
    obtain ⟨B3, hB3⟩ : ∃ q, q = V0.heap.size := ⟨_, rfl⟩
    have N8 : At (V0.alloc (.cells m.toArray 94)) B3 m.toArray 94 := by rw [hB3]; exact At.new _ _ _
    replace T := T.alloc (.cells m.toArray 94)
    replace O := O.alloc (.cells m.toArray 94)
    replace M := M.alloc (.cells m.toArray 94)
    replace gV := gV.alloc (.cells m.toArray 94)
    rw [← hB3]
    generalize V0.alloc (.cells m.toArray 94) = V3 at *
    clear hK K
    refine wpAnyH_ready (rs := [9]) (by kernel_rfl) (by simp) ?_
    refine (AllReadyH.cons rfl (fun K hK => ?_) AllReadyH.nil)
    rw [if_pos (by rfl)]
    refine wp_append_lies _ _ _ 53 rfl base 94 i0 _ 99 424 Yba.underlying53 hi0 HZ0.out hz1 hz2 zero94 (by omega) v nn xs (by rfl) O ⟨B3, 0, none⟩ 1 1 m (by rfl) (by rw [hm]) (fun j u hj => by rw [Addr.add_mid, N8.cell, Nat.zero_add]; simpa using hj) HH1.out (by omega) (by unfold maxLen; omega) (by omega) (by have := gV.size; omega) _ rfl ?_
    intro g cap V4 hown hgrow hat hlt
    refine hK.out _ _ trivial (fun _ => ?_)
    have hfin := send_fin (ms := ms) (m := m) gV T HV2.out hgrow (by rw [← HNN.out.1, ← HNN.out.2]; exact hown) hat hT
    rw [← HNN.out.1] at hfin
    clear hK K hown hgrow hat hlt
    refine wpAnyH_ready (rs := [10]) (by kernel_rfl) (by simp) ?_
    refine (AllReadyH.cons rfl (fun K hK => ?_) AllReadyH.nil)
    go_simp
    refine hK.out _ _ trivial (fun _ => ?_)
    clear hK K
    refine wpAnyH_ready (rs := [11]) (by kernel_rfl) (by simp) ?_
    refine (AllReadyH.cons rfl (fun K hK => ?_) AllReadyH.nil)
    go_simp
    refine hK.out _ _ trivial (fun _ => ?_)
    clear hK K
    refine wpAnyH_ready (rs := [12]) (by kernel_rfl) (by simp) ?_
    refine (AllReadyH.cons rfl (fun K hK => ?_) AllReadyH.nil)
    have q12 := hfin.1.cell 0
    have f12 := hfin.1.frozen 0
    simp at q12
    go_simp
    refine hK.out _ _ trivial (fun _ => ?_)
    clear q12 f12 hK K
    refine wpAnyH_done (by kernel_rfl) ?_ _
    clear T O M
    go_wp2
    refine bodyPost_end (results_none rfl _ _ _) rfl ?_
    exact ⟨rfl, hfin.2.1, hfin.2.2⟩
  · rw [if_pos (by rfl)]
    refine wp_load_mid 94 _ rfl Mg 0 rfl m _ (fun j u hj => by rw [M.cell, Nat.zero_add]; simpa using hj) hu94 rfl hi94 ?_
    refine hK.out _ _ trivial (fun _ => ?_)
    clear hK K
    refine wpAnyH_ready (rs := [4, 8]) (by kernel_rfl) (by simp) ?_
    refine (AllReadyH.cons rfl (fun K hK => ?_) (AllReadyH.cons rfl (fun K hK => ?_) AllReadyH.nil))
    · have q4 := T.cell 0
      simp at q4
      go_simp
      refine hK.out _ _ trivial (fun _ => ?_)
      clear q4 hK K
      refine wpAnyH_ready (rs := [8]) (by kernel_rfl) (by simp) ?_
      refine (AllReadyH.cons rfl (fun K hK => ?_) AllReadyH.nil)
      rw [if_pos (by rfl)]
      refine wp_buildSlice 53 94 1 _ rfl m.toArray i0 (.agg Yba.zeroCells94) Yba.underlying53 hi0 HZ0.out (by rw [hz1]; decide) (by rw [hz1]; decide) (Eq.trans (congrArg _ (by first | (simp [Act.eval]; done) | simp [Act.eval, Act.put])) HFl.out) ?_
      refine hK.out _ _ trivial (fun _ => ?_)
      obtain ⟨B8, hB8⟩ : ∃ q, q = V0.heap.size := ⟨_, rfl⟩
      have N8 : At (V0.alloc (.cells m.toArray 94)) B8 m.toArray 94 := by rw [hB8]; exact At.new _ _ _
      replace T := T.alloc (.cells m.toArray 94)
      replace O := O.alloc (.cells m.toArray 94)
      replace M := M.alloc (.cells m.toArray 94)
      replace gV := gV.alloc (.cells m.toArray 94)
      rw [← hB8]
      generalize V0.alloc (.cells m.toArray 94) = V8 at *
      clear hK K
      refine wpAnyH_ready (rs := [9]) (by kernel_rfl) (by simp) ?_
      refine (AllReadyH.cons rfl (fun K hK => ?_) AllReadyH.nil)
      rw [if_pos (by rfl)]
      refine wp_append_lies _ _ _ 53 rfl base 94 i0 _ 99 424 Yba.underlying53 hi0 HZ0.out hz1 hz2 zero94 (by omega) v nn xs (by rfl) O ⟨B8, 0, none⟩ 1 1 m (by rfl) (by rw [hm]) (fun j u hj => by rw [Addr.add_mid, N8.cell, Nat.zero_add]; simpa using hj) HH1.out (by omega) (by unfold maxLen; omega) (by omega) (by have := gV.size; omega) _ rfl ?_
      intro g cap V9 hown hgrow hat hlt
      refine hK.out _ _ trivial (fun _ => ?_)
      have hfin := send_fin (ms := ms) (m := m) gV T HV2.out hgrow (by rw [← HNN.out.1, ← HNN.out.2]; exact hown) hat hT
      rw [← HNN.out.1] at hfin
      clear hK K hown hgrow hat hlt
      refine wpAnyH_ready (rs := [10]) (by kernel_rfl) (by simp) ?_
      refine (AllReadyH.cons rfl (fun K hK => ?_) AllReadyH.nil)
      go_simp
      refine hK.out _ _ trivial (fun _ => ?_)
      clear hK K
      refine wpAnyH_ready (rs := [11]) (by kernel_rfl) (by simp) ?_
      refine (AllReadyH.cons rfl (fun K hK => ?_) AllReadyH.nil)
      go_simp
      refine hK.out _ _ trivial (fun _ => ?_)
      clear hK K
      refine wpAnyH_ready (rs := [12]) (by kernel_rfl) (by simp) ?_
      refine (AllReadyH.cons rfl (fun K hK => ?_) AllReadyH.nil)
      have q12 := hfin.1.cell 0
      have f12 := hfin.1.frozen 0
      simp at q12
      go_simp
      refine hK.out _ _ trivial (fun _ => ?_)
      clear q12 f12 hK K
      refine wpAnyH_done (by kernel_rfl) ?_ _
      clear T O M
      go_wp2
      refine bodyPost_end (results_none rfl _ _ _) rfl ?_
      exact ⟨rfl, hfin.2.1, hfin.2.2⟩
    · rw [if_pos (by rfl)]
      refine wp_buildSlice 53 94 1 _ rfl m.toArray i0 (.agg Yba.zeroCells94) Yba.underlying53 hi0 HZ0.out (by rw [hz1]; decide) (by rw [hz1]; decide) (Eq.trans (congrArg _ (by first | (simp [Act.eval]; done) | simp [Act.eval, Act.put])) HFl.out) ?_
      refine hK.out _ _ trivial (fun _ => ?_)
      obtain ⟨B11, hB11⟩ : ∃ q, q = V0.heap.size := ⟨_, rfl⟩
      have N8 : At (V0.alloc (.cells m.toArray 94)) B11 m.toArray 94 := by rw [hB11]; exact At.new _ _ _
      replace T := T.alloc (.cells m.toArray 94)
      replace O := O.alloc (.cells m.toArray 94)
      replace M := M.alloc (.cells m.toArray 94)
      replace gV := gV.alloc (.cells m.toArray 94)
      rw [← hB11]
      generalize V0.alloc (.cells m.toArray 94) = V11 at *
      clear hK K
      refine wpAnyH_ready (rs := [4]) (by kernel_rfl) (by simp) ?_
      refine (AllReadyH.cons rfl (fun K hK => ?_) AllReadyH.nil)
      have q4 := T.cell 0
      simp at q4
      go_simp
      refine hK.out _ _ trivial (fun _ => ?_)
      clear q4 hK K
      refine wpAnyH_ready (rs := [9]) (by kernel_rfl) (by simp) ?_
      refine (AllReadyH.cons rfl (fun K hK => ?_) AllReadyH.nil)
      rw [if_pos (by rfl)]
      refine wp_append_lies _ _ _ 53 rfl base 94 i0 _ 99 424 Yba.underlying53 hi0 HZ0.out hz1 hz2 zero94 (by omega) v nn xs (by rfl) O ⟨V0.heap.size, 0, none⟩ 1 1 m (by rfl) (by rw [hm]) (fun j u hj => by rw [Addr.add_mid, ← hB11, N8.cell, Nat.zero_add]; simpa using hj) HH1.out (by omega) (by unfold maxLen; omega) (by omega) (by have := gV.size; omega) _ rfl ?_
      intro g cap V13 hown hgrow hat hlt
      refine hK.out _ _ trivial (fun _ => ?_)
      have hfin := send_fin (ms := ms) (m := m) gV T HV2.out hgrow (by rw [← HNN.out.1, ← HNN.out.2]; exact hown) hat hT
      rw [← HNN.out.1] at hfin
      clear hK K hown hgrow hat hlt
      refine wpAnyH_ready (rs := [10]) (by kernel_rfl) (by simp) ?_
      refine (AllReadyH.cons rfl (fun K hK => ?_) AllReadyH.nil)
      go_simp
      refine hK.out _ _ trivial (fun _ => ?_)
      clear hK K
      refine wpAnyH_ready (rs := [11]) (by kernel_rfl) (by simp) ?_
      refine (AllReadyH.cons rfl (fun K hK => ?_) AllReadyH.nil)
      go_simp
      refine hK.out _ _ trivial (fun _ => ?_)
      clear hK K
      refine wpAnyH_ready (rs := [12]) (by kernel_rfl) (by simp) ?_
      refine (AllReadyH.cons rfl (fun K hK => ?_) AllReadyH.nil)
      have q12 := hfin.1.cell 0
      have f12 := hfin.1.frozen 0
      simp at q12
      go_simp
      refine hK.out _ _ trivial (fun _ => ?_)
      clear q12 f12 hK K
      refine wpAnyH_done (by kernel_rfl) ?_ _
      clear T O M
      go_wp2
      refine bodyPost_end (results_none rfl _ _ _) rfl ?_
      exact ⟨rfl, hfin.2.1, hfin.2.2⟩
end Go.Proofs.Ybulkapqu
