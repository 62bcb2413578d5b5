import Derived.Test.YbulkapquC27
import Derived.RangeFuncRecord
namespace Go.Proofs.Ybulkapqu
open Go.RowKit Go.Sort

theorem Gr.putObj {a b : World} (h : Gr a b) (r : Nat) (o : Obj) (hr : a.heap.size ≤ r) : Gr a (b.putObj r o) := by
  have B := h.below a.heap.size (Nat.le_refl _)
  exact gr_of ⟨B.os, B.tape, B.output, by rw [World.putObj_size]; exact B.size, fun k hk => (World.putObj_heap_other (by omega)).trans (B.block k hk)⟩ h.drawn
theorem wp_mapUpdate_run {P : Program} {o : Oper} {a : Act} {w : World} {K : Act → World → Prop} {Q : Exit → Act → World → Prop} (t : TypeId) (m k v : Operand) (ho : o.op = .mapUpdate t m k v) (M Ky V : Value) (hm : a.eval m = M) (hk : a.eval k = Ky) (hv : a.eval v = V) (w' : World)
    (hr : (Instr.mapUpdate t M Ky V).run P w = .ok () w') (h : K (a.put o.dst undef) w') : o.wp P a w K Q := by
  unfold Oper.wp
  simp [execOp, ho, hm, hk, hv, hr, Result.andThen]
  exact h
theorem wpList_makeSlice_run {P : Program} {ops : Array Oper} {rest : List Oper} {op : Oper} {a : Act} {w : World} {Q : Exit → Act → World → Prop} (hgd : op.guard = none) (t : TypeId) (x : Operand) (ho : op.op = .makeSlice t x x) (n : Nat) (hx : a.eval x = .int .i64 (n : Int)) (C : Array Value) (e : TypeId)
    (hr : (Instr.makeSlice t (.int .i64 (n : Int)) (.int .i64 (n : Int))).run P w = .ok (.slice (some ⟨w.heap.size, 0, none⟩) n n) (w.alloc (.cells C e))) (h : wpList P ops Q rest (a.put op.dst (.slice (some ⟨w.heap.size, 0, none⟩) n n)) (w.alloc (.cells C e))) : wpList P ops Q (op :: rest) a w :=
  wpList_plain hgd fun _ hK => wp_makeSlice t x ho n hx C e hr (hK _ _ h)
theorem At.putObj {w : World} {b : Nat} {C : Array Value} {t : TypeId} (h : At w b C t) (r : Nat) (o : Obj) (hne : b ≠ r) : At (w.putObj r o) b C t := (World.putObj_heap_other hne).trans h
theorem At.not_map {w : World} {b r : Nat} {C : Array Value} {t : TypeId} {es : List (List UInt8 × Value)} (h : At w b C t) (hm : MapAt w r es) : b ≠ r := by
  rintro rfl
  obtain ⟨_, ms, c, h1, _⟩ := hm
  have := h.symm.trans h1
  simp at this
theorem At.setsOther {w : World} {b k : Nat} {C : Array Value} {t : TypeId} (h : At w k C t) (hne : k ≠ b) (vs : List Value) (o : Nat) : At (w.setCells b o vs) k C t := (heap_setCells_other b k hne vs o w).trans h
/-- Cells in the midst of a block written anew. -/
theorem At.mid {w : World} {b : Nat} {t : TypeId} {A K T : List Value} (h : At w b (A ++ (K ++ T)).toArray t) (K' : List Value) (hK : K'.length = K.length) (o : Nat) (ho : o = A.length) : At (w.setCells b o K') b (A ++ (K' ++ T)).toArray t := by
  have := At.setCells K' o w (A ++ (K ++ T)) h (by simp only [List.length_append]; omega)
  rw [ho, List.take_left, show A.length + K'.length = (A ++ K).length by rw [List.length_append]; omega, ← List.append_assoc A K T, List.drop_left, List.append_assoc] at this
  rw [ho]
  exact this

/-! ### The rows of peers -/
theorem flat_get : ∀ (ids : List (List UInt8)) (i : Nat) (l : List UInt8), (∀ l ∈ ids, l.length = 20) → ids[i]? = some l → ∀ (j : Nat) (x : Value), (peerV l)[j]? = some x → (ids.flatMap peerV)[i * 24 + j]? = some x
  | [], i, l, _, h, _, _, _ => by simp at h
  | a :: r, 0, l, h20, h, j, x, hx => by
    obtain rfl : a = l := by simpa using h
    have hj : j < (peerV a).length := (List.getElem?_eq_some_iff.1 hx).1
    rw [List.flatMap_cons, Nat.zero_mul, Nat.zero_add, List.getElem?_append_left hj]
    exact hx
  | a :: r, i + 1, l, h20, h, j, x, hx => by
    have ha := length_peerV a (h20 a (List.mem_cons_self ..))
    rw [List.flatMap_cons, List.getElem?_append_right (by omega), ha, show (i + 1) * 24 + j - 24 = i * 24 + j by omega]
    exact flat_get r i l (fun l hl => h20 l (List.mem_cons_of_mem _ hl)) (by simpa using h) j x hx
structure Rw (W : World) (base : Nat) (v : Value) (ids : List (List UInt8)) : Prop where
  own : W.ownsRow base 110 24 v ids.length (ids.flatMap peerV)
  len : ∀ l ∈ ids, l.length = 20
theorem Rw.nil (W : World) (base : Nat) : Rw W base (.slice none 0 0) [] := ⟨World.ownsRow_nil _ _ _ _, by simp⟩
theorem Rw.peers {W : World} {base : Nat} {v : Value} {ids : List (List UInt8)} (h : Rw W base v ids) : ∃ b cap, PeersAt W v ids b 0 cap ∧ ids.length ≤ cap ∧ (ids ≠ [] → v = .slice (some ⟨b, 0, none⟩) ids.length cap ∧ ∃ C, At W b C 110) := by
  rcases h.own.2 with ⟨hv, hn⟩ | ⟨g, cap, cur, hv, hb, hg, h1, h2, h3, h4⟩
  · have : ids = [] := List.eq_nil_of_length_eq_zero hn
    subst this
    exact ⟨0, 0, ⟨.inr ⟨hv, rfl⟩, by simp, by simp⟩, by simp, by simp⟩
  · refine ⟨g, cap, ⟨.inl hv, h.len, fun i l hl j x hx => ?_⟩, h1, fun _ => ⟨hv, cur, hg⟩⟩
    have := h.own.cells (g := g) (by rw [hv]; rfl) (i * 24 + j) x (flat_get ids i l h.len hl j x hx)
    rw [show (0 + i * 24 + j) = i * 24 + j by omega]
    simpa [Addr.add_mid] using this
theorem Rw.kept {W W' : World} {base : Nat} {v : Value} {ids : List (List UInt8)} (h : Rw W base v ids) (hk : ∀ k, v.ownBlock = some k → W'.heap[k]? = W.heap[k]?) : Rw W' base v ids := by
  refine ⟨⟨h.own.1, ?_⟩, h.len⟩
  rcases h.own.2 with hn | ⟨g, cap, cur, hv, hb, hg, h1⟩
  · exact .inl hn
  · exact .inr ⟨g, cap, cur, hv, hb, (hk g (by rw [hv]; rfl)).trans hg, h1⟩
theorem Rw.at {W : World} {base : Nat} {v : Value} {ids : List (List UInt8)} (h : Rw W base v ids) {k : Nat} (hk : v.ownBlock = some k) : ∃ C, At W k C 110 := by
  rcases h.own.2 with ⟨hv, _⟩ | ⟨g, cap, cur, hv, hb, hg, h1⟩
  · rw [hv] at hk; simp [Value.ownBlock] at hk
  · rw [hv] at hk; simp [Value.ownBlock] at hk
    subst hk; exact ⟨_, hg⟩
structure Rows (W : World) (base : Nat) (v : Nat → Value) (ids : Nat → List (List UInt8)) : Prop where
  row : ∀ i, Rw W base (v i) (ids i)
  apart : ∀ i j, i ≠ j → ∀ k, (v i).ownBlock = some k → (v j).ownBlock ≠ some k
theorem Rows.gr {W W' : World} {base : Nat} {v : Nat → Value} {ids : Nat → List (List UInt8)} (h : Rows W base v ids) (g : Gr W W') : Rows W' base v ids :=
  ⟨fun i => (h.row i).kept fun k hk => g.heap ((h.row i).own.lt k hk).2, h.apart⟩

/-! ### What the decisions read of a membership, with the block's arrays -/
def off (i : Nat) : Nat := if i = 0 then 45 else if i = 1 then 46 else if i = 2 then 21 else 68
theorem off_inj : ∀ {i j : Nat}, i < 4 → j < 4 → off i = off j → i = j := by
  intro i j hi hj h
  have ci : i = 0 ∨ i = 1 ∨ i = 2 ∨ i = 3 := by omega
  have cj : j = 0 ∨ j = 1 ∨ j = 2 ∨ j = 3 := by omega
  rcases ci with rfl | rfl | rfl | rfl <;> rcases cj with rfl | rfl | rfl | rfl <;> first | rfl | (exfalso; revert h; decide)
structure Mb (c : Cfg) (D TR : Nat) (ds : List (List UInt8 × Value)) (v : Nat → Value) (W : World) : Prop where
  mb : ∃ C, At W c.MB C 98 ∧ C[0]? = some (.iface 52 (.pointer (some ⟨TR, 0, none⟩))) ∧ (∀ j x, (idV c.self)[j]? = some x → C[1 + j]? = some x) ∧ C[21]? = some (.slice (some ⟨c.RB, 0, none⟩) c.nr c.nr) ∧ C[26]? = some (.int .i64 0) ∧ C[28]? = some (.map (some D)) ∧ C[29]? = some (.map (some c.SU)) ∧ C[30]? = some (.map (some c.WA))
  rb : ∃ C, At W c.RB C 107 ∧ C.size = c.nr * 47 ∧ (∀ r, r < c.nr → ∀ j x, (idV (viewL c.f r c.self))[j]? = some x → C[r * 47 + j]? = some x) ∧ (∀ r, r < c.nr → C[r * 47 + 22]? = some (.slice none 0 0)) ∧ C[44]? = some (.pointer (some ⟨c.LB, 0, none⟩)) ∧ (∀ i, i < 2 + c.nr → C[off i]? = some (v i))
  lay : At W c.LB (layV c.x c.f c.t) 51
  mS : MapAt W c.SU c.sus
  mW : MapAt W c.WA []
  mD : MapAt W D ds
  ne1 : D ≠ c.SU
  ne2 : D ≠ c.WA
  ne3 : c.SU ≠ c.WA
theorem Mb.keep {c : Cfg} {D TR : Nat} {ds : List (List UInt8 × Value)} {v : Nat → Value} {W W' : World} (h : Mb c D TR ds v W) (hk : ∀ k, k = c.MB ∨ k = c.RB ∨ k = c.LB ∨ k = c.SU ∨ k = c.WA ∨ k = D → W'.heap[k]? = W.heap[k]?) : Mb c D TR ds v W' := by
  obtain ⟨C, a, h1⟩ := h.mb
  obtain ⟨C', a', h2⟩ := h.rb
  exact ⟨⟨C, a.of_heap (hk _ (by simp)), h1⟩, ⟨C', a'.of_heap (hk _ (by simp)), h2⟩, h.lay.of_heap (hk _ (by simp)), h.mS.of_heap (hk _ (by simp)), h.mW.of_heap (hk _ (by simp)), h.mD.of_heap (hk _ (by simp)), h.ne1, h.ne2, h.ne3⟩
theorem Mb.lt {c : Cfg} {D TR : Nat} {ds : List (List UInt8 × Value)} {v : Nat → Value} {W : World} (h : Mb c D TR ds v W) {k : Nat} (hk : k = c.MB ∨ k = c.RB ∨ k = c.LB ∨ k = c.SU ∨ k = c.WA ∨ k = D) : k < W.heap.size := by
  obtain ⟨C, a, h1⟩ := h.mb
  obtain ⟨C', a', h2⟩ := h.rb
  rcases hk with rfl | rfl | rfl | rfl | rfl | rfl
  · exact a.lt
  · exact a'.lt
  · exact h.lay.lt
  · exact h.mS.lt
  · exact h.mW.lt
  · exact h.mD.lt
theorem Mb.gr {c : Cfg} {D TR : Nat} {ds : List (List UInt8 × Value)} {v : Nat → Value} {W W' : World} (h : Mb c D TR ds v W) (g : Gr W W') : Mb c D TR ds v W' := h.keep fun _ hk => g.heap (h.lt hk)
/-- A block of cells of another type is none of these. -/
theorem Mb.other {c : Cfg} {D TR : Nat} {ds : List (List UInt8 × Value)} {v : Nat → Value} {W : World} (h : Mb c D TR ds v W) {b : Nat} {C : Array Value} {t : TypeId} (a : At W b C t) (h1 : t ≠ 98) (h2 : t ≠ 107) (h3 : t ≠ 51) {k : Nat} (hk : k = c.MB ∨ k = c.RB ∨ k = c.LB ∨ k = c.SU ∨ k = c.WA ∨ k = D) : k ≠ b := by
  obtain ⟨C1, a1, _⟩ := h.mb
  obtain ⟨C2, a2, _⟩ := h.rb
  rcases hk with rfl | rfl | rfl | rfl | rfl | rfl
  · exact fun e => a1.ne a (Ne.symm h1) e
  · exact fun e => a2.ne a (Ne.symm h2) e
  · exact fun e => h.lay.ne a (Ne.symm h3) e
  · exact fun e => a.not_map h.mS e.symm
  · exact fun e => a.not_map h.mW e.symm
  · exact fun e => a.not_map h.mD e.symm
end Go.Proofs.Ybulkapqu
