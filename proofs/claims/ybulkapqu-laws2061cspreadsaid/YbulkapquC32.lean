import Derived.Test.YbulkapquC31
namespace Go.Proofs.Ybulkapqu
open Go.RowKit Go.Sort

/-! ### The law's state -/
/-- What stays the same while the law runs. -/
structure Kc where
  c : Cfg
  D : Nat
  TR : Nat
  S0 : Nat
  SB : Nat
  DB : Nat
  base : Nat
  did : List UInt8
  rel : Nat → Bool
  hand : Nat → Bool
  wat : Nat → Bool
  w0 : World
structure Kc.Ok (k : Kc) : Prop where
  base : k.base = k.w0.heap.size
  sb : k.base ≤ k.SB
  rb : k.base ≤ k.c.RB
  su : k.base ≤ k.c.SU
  d : k.base ≤ k.D
  nr : 0 < k.c.nr
  nr2 : k.c.nr ≤ 2
  self : k.c.self.length = 20
  x : k.c.x ≤ 2
  f : k.c.f ≤ 2
  did : k.did.length = 20
def Kc.cs (k : Kc) (sus : List (List UInt8 × Value)) : Cfg := { k.c with sus := sus }
structure Fix (k : Kc) (W : World) : Prop where
  r : At W k.S0 (twoV k.rel) 49
  h : At W (k.S0 + 1) (twoV k.hand) 49
  wt : At W (k.S0 + 1 + 1) (twoV k.wat) 49
  tr : At W k.TR #[.slice none 0 0] 55
  did : At W k.DB (idV k.did).toArray 37
  seen : ∃ A : Array Value, A.size = 256 ∧ (∀ j, j < 256 → ∃ b, A[j]? = some (.bool b)) ∧ At W k.SB A 108
theorem Fix.keep {k : Kc} {W W' : World} (f : Fix k W) (hk : ∀ q C t, At W q C t → (t = 49 ∨ t = 55 ∨ t = 37 ∨ t = 108) → W'.heap[q]? = W.heap[q]?) : Fix k W' := by
  obtain ⟨A, h1, h2, h3⟩ := f.seen
  exact ⟨f.r.of_heap (hk _ _ _ f.r (by simp)), f.h.of_heap (hk _ _ _ f.h (by simp)), f.wt.of_heap (hk _ _ _ f.wt (by simp)), f.tr.of_heap (hk _ _ _ f.tr (by simp)), f.did.of_heap (hk _ _ _ f.did (by simp)), ⟨A, h1, h2, h3.of_heap (hk _ _ _ h3 (by simp))⟩⟩
theorem Fix.gr {k : Kc} {W W' : World} (f : Fix k W) (g : Gr W W') : Fix k W' := f.keep fun _ _ _ a _ => g.heap a.lt
structure LW (k : Kc) (n : Nat) (v : Nat → Value) (ids : Nat → List (List UInt8)) (sus : List (List UInt8 × Value)) (W : World) : Prop where
  mb : Mb (k.cs sus) k.D k.TR [] v W
  rows : Rows W k.base v ids
  len : ∀ i, (ids i).length ≤ n
  sus : ∀ e ∈ sus, ∃ a, e.2 = .pointer (some a)
  fix : Fix k W
  fr : Below k.base k.w0 W
theorem below_trans {B : Nat} {a b c : World} (h : Below B a b) (h' : Below B b c) : Below B a c := ⟨h'.os.trans h.os, h'.tape.trans h.tape, h'.output.trans h.output, Nat.le_trans h.size h'.size, fun q hq => (h'.block q hq).trans (h.block q hq)⟩
theorem LW.size {k : Kc} {n : Nat} {v : Nat → Value} {ids : Nat → List (List UInt8)} {sus : List (List UInt8 × Value)} {W : World} (h : LW k n v ids sus W) (ok : k.Ok) : k.base ≤ W.heap.size := by rw [ok.base]; exact h.fr.size
theorem LW.gr {k : Kc} {n : Nat} {v : Nat → Value} {ids : Nat → List (List UInt8)} {sus : List (List UInt8 × Value)} {W W' : World} (h : LW k n v ids sus W) (ok : k.Ok) (g : Gr W W') : LW k n v ids sus W' :=
  ⟨h.mb.gr g, h.rows.gr g, h.len, h.sus, h.fix.gr g, below_trans h.fr (g.below _ (h.size ok))⟩
theorem LW.mono {k : Kc} {n n' : Nat} {v : Nat → Value} {ids : Nat → List (List UInt8)} {sus : List (List UInt8 × Value)} {W : World} (h : LW k n v ids sus W) (hn : n ≤ n') : LW k n' v ids sus W :=
  ⟨h.mb, h.rows, fun i => Nat.le_trans (h.len i) hn, h.sus, h.fix, h.fr⟩
theorem LW.own {k : Kc} {n : Nat} {v : Nat → Value} {ids : Nat → List (List UInt8)} {sus : List (List UInt8 × Value)} {W : World} (h : LW k n v ids sus W) {b : Nat} {C : Array Value} {t : TypeId} (a : At W b C t) (ht : t ≠ 110) (i q : Nat) (hq : (v i).ownBlock = some q) : q ≠ b := by
  obtain ⟨C', a'⟩ := (h.rows.row i).at hq
  exact a'.ne a (Ne.symm ht)
/-- A cell of what has been seen. -/
theorem LW.look {k : Kc} {n : Nat} {v : Nat → Value} {ids : Nat → List (List UInt8)} {sus : List (List UInt8 × Value)} {W : World} (h : LW k n v ids sus W) (j : Nat) (hj : j < 256) : ∃ b, W.cell? ⟨k.SB, j, none⟩ = some (.bool b) := by
  obtain ⟨A, h1, h2, h3⟩ := h.fix.seen
  obtain ⟨b, hb⟩ := h2 j hj
  exact ⟨b, (h3.cell j).trans hb⟩
theorem LW.seen {k : Kc} {n : Nat} {v : Nat → Value} {ids : Nat → List (List UInt8)} {sus : List (List UInt8 × Value)} {W : World} (h : LW k n v ids sus W) (ok : k.Ok) (j : Nat) : LW k n v ids sus (W.setCell ⟨k.SB, j, none⟩ (.bool true)) := by
  obtain ⟨A, h1, h2, h3⟩ := h.fix.seen
  have f := h.fix
  refine ⟨h.mb.keep fun q hq => Below.heap_setCell _ _ _ _ (h.mb.other h3 (by decide) (by decide) (by decide) hq), ⟨fun i => (h.rows.row i).kept fun q hq => Below.heap_setCell _ _ _ _ (h.own h3 (by decide) i q hq), h.rows.apart⟩, h.len, h.sus, ⟨?_, ?_, ?_, ?_, ?_, ⟨A.setIfInBounds j (.bool true), by simp [h1], fun i hi => ?_, h3.set j _⟩⟩, h.fr.setCell (by exact ok.sb) _⟩
  · exact f.r.setOther _ _ (f.r.ne h3 (by decide))
  · exact f.h.setOther _ _ (f.h.ne h3 (by decide))
  · exact f.wt.setOther _ _ (f.wt.ne h3 (by decide))
  · exact f.tr.setOther _ _ (f.tr.ne h3 (by decide))
  · exact f.did.setOther _ _ (f.did.ne h3 (by decide))
  · by_cases e : j = i
    · subst e
      exact ⟨true, by rw [Array.getElem?_setIfInBounds_self_of_lt (by omega)]⟩
    · rw [Array.getElem?_setIfInBounds_ne e]; exact h2 i hi
theorem LW.cell {k : Kc} {n : Nat} {v : Nat → Value} {ids : Nat → List (List UInt8)} {sus : List (List UInt8 × Value)} {W : World} (h : LW k n v ids sus W) (i : Nat) (hi : i < 2 + k.c.nr) : W.cell? ⟨k.c.RB, off i, none⟩ = some (v i) := by
  obtain ⟨C, a, _, _, _, _, h5⟩ := h.mb.rb
  exact (a.cell _).trans (h5 i hi)
/-- One peer more in one of the rows. -/
theorem LW.app {k : Kc} {n : Nat} {v : Nat → Value} {ids : Nat → List (List UInt8)} {sus : List (List UInt8 × Value)} {V V4 : World} (h : LW k n v ids sus V) (ok : k.Ok) (i : Nat) (hi : i < 2 + k.c.nr) (l : List UInt8) (hl : l.length = 20) {g cap : Nat}
    (hown : V4.ownsRow k.base 110 24 (.slice (some ⟨g, 0, none⟩) ((ids i).length + 1) cap) ((ids i).length + 1) ((ids i).flatMap peerV ++ peerV l)) (hgrow : V.grownBy V4 (v i).ownBlock) (hat : (v i).ownBlock = some g ∨ g = V.heap.size) :
    V4.cell? ⟨k.c.RB, off i, none⟩ = some (v i) ∧ V4.frozen? ⟨k.c.RB, off i, none⟩ = false ∧ Mb (k.cs sus) k.D k.TR [] v V4 ∧ LW k (n + 1) (upd v i (.slice (some ⟨g, 0, none⟩) ((ids i).length + 1) cap)) (upd ids i (ids i ++ [l])) sus (V4.setCell ⟨k.c.RB, off i, none⟩ (.slice (some ⟨g, 0, none⟩) ((ids i).length + 1) cap)) := by
  have hi4 : i < 4 := by have := ok.nr2; omega
  -- blocks of other types stand
  have hold : ∀ {b : Nat} {C : Array Value} {t : TypeId}, At V b C t → t ≠ 110 → V4.heap[b]? = V.heap[b]? := fun {b C t} a ht => hgrow.block b a.lt (fun e => h.own a ht i b e.symm rfl)
  have hmap : ∀ {r : Nat} {es : List (List UInt8 × Value)}, MapAt V r es → V4.heap[r]? = V.heap[r]? := fun {r es} m => hgrow.block r m.lt (fun e => by
    obtain ⟨C, a⟩ := (h.rows.row i).at e.symm
    exact a.not_map m rfl)
  have hM4 : Mb (k.cs sus) k.D k.TR [] v V4 := h.mb.keep fun q hq => by
    obtain ⟨C, a, _⟩ := h.mb.mb
    obtain ⟨C', a', _⟩ := h.mb.rb
    rcases hq with rfl | rfl | rfl | rfl | rfl | rfl
    · exact hold a (by decide)
    · exact hold a' (by decide)
    · exact hold h.mb.lay (by decide)
    · exact hmap h.mb.mS
    · exact hmap h.mb.mW
    · exact hmap h.mb.mD
  obtain ⟨CR, aR, r1, r2, r3, r4, r5⟩ := hM4.rb
  have aR : At V4 k.c.RB CR 107 := aR
  have r1 : CR.size = k.c.nr * 47 := r1
  have hoff : off i < CR.size := by have := r5 i hi; exact (Array.getElem?_eq_some_iff.1 this).1
  have hgb : ∃ cur, At V4 g cur 110 := by
    rcases hown.2 with ⟨e, _⟩ | ⟨g', cap', cur, e1, _, e3, _⟩
    · simp at e
    · injection e1 with e1 _ _
      injection e1 with e1
      injection e1 with e1 _ _
      subst e1
      exact ⟨cur, e3⟩
  obtain ⟨cur, aG⟩ := hgb
  have hgR : g ≠ k.c.RB := aG.ne aR (by decide)
  have hset : ∀ {q : Nat}, q ≠ k.c.RB → (V4.setCell ⟨k.c.RB, off i, none⟩ (.slice (some ⟨g, 0, none⟩) ((ids i).length + 1) cap)).heap[q]? = V4.heap[q]? := fun {q} hq => Below.heap_setCell _ _ _ _ hq
  have hnR : ∀ {b : Nat} {C : Array Value} {t : TypeId}, At V4 b C t → t ≠ 107 → b ≠ k.c.RB := fun {b C t} a ht => a.ne aR ht
  refine ⟨(aR.cell _).trans (r5 i hi), aR.frozen _, hM4, ?_, ⟨fun j => ?_, fun a b hab q hq => ?_⟩, fun j => ?_, h.sus, ?_, ?_⟩
  · obtain ⟨C, a, h1⟩ := hM4.mb
    refine ⟨⟨C, a.of_heap (hset (hnR a (by decide))), h1⟩, ⟨_, aR.set _ _, by rw [Array.size_setIfInBounds]; exact r1, fun r hr j x hx => ?_, fun r hr => ?_, ?_, fun j hj => ?_⟩, hM4.lay.of_heap (hset (hnR hM4.lay (by decide))), hM4.mS.of_heap (hset (fun e => aR.not_map hM4.mS e.symm)), hM4.mW.of_heap (hset (fun e => aR.not_map hM4.mW e.symm)), hM4.mD.of_heap (hset (fun e => aR.not_map hM4.mD e.symm)), hM4.ne1, hM4.ne2, hM4.ne3⟩
    · have hr' : r < k.c.nr := hr
      have hn2 := ok.nr2
      have hj : j < 20 := by
        have := (List.getElem?_eq_some_iff.1 hx).1
        rw [length_idV, length_viewL _ _ _ (show (k.cs sus).self.length = 20 from ok.self)] at this
        exact this
      rw [Array.getElem?_setIfInBounds_ne (by unfold off; split <;> (try split) <;> (try split) <;> omega)]
      exact r2 r hr j x hx
    · have hr' : r < k.c.nr := hr
      have hn2 := ok.nr2
      rw [Array.getElem?_setIfInBounds_ne (by unfold off; split <;> (try split) <;> (try split) <;> omega)]
      exact r3 r hr
    · rw [Array.getElem?_setIfInBounds_ne (by unfold off; split <;> (try split) <;> (try split) <;> omega)]
      exact r4
    · by_cases e : j = i
      · subst e
        rw [Array.getElem?_setIfInBounds_self_of_lt hoff]; simp [upd]
      · have hj4 : j < 4 := by have : j < 2 + k.c.nr := hj; have := ok.nr2; omega
        rw [Array.getElem?_setIfInBounds_ne (fun e' => e (off_inj hi4 hj4 e').symm), r5 j hj]
        simp [upd, e]
  · by_cases e : j = i
    · subst e
      refine Rw.kept (W := V4) ⟨?_, fun l' hl' => ?_⟩ fun q hq => hset ?_
      · simp only [upd, if_pos, List.length_append, List.length_cons, List.length_nil, List.flatMap_append, List.flatMap_cons, List.flatMap_nil, List.append_nil]
        exact hown
      · simp only [upd, if_pos] at hl'
        rcases List.mem_append.1 hl' with h' | h'
        · exact (h.rows.row j).len l' h'
        · simp at h'; subst h'; exact hl
      · simp [upd, Value.ownBlock] at hq; subst hq; exact hgR
    · simp only [upd, if_neg e]
      refine (h.rows.row j).kept fun q hq => ?_
      obtain ⟨C, a⟩ := (h.rows.row j).at hq
      have e1 : V4.heap[q]? = V.heap[q]? := hgrow.block q a.lt (fun e' => h.rows.apart j i e q hq e'.symm)
      rw [hset (hnR (At.of_heap a e1) (by decide)), e1]
  · have hnew : ∀ j q, j ≠ i → (v j).ownBlock = some q → q ≠ g := fun j q hj hq => by
      rcases hat with e | e
      · exact fun e' => h.rows.apart j i hj q hq (by rw [e, e'])
      · have := ((h.rows.row j).own.lt q hq).2; omega
    by_cases ea : a = i
    · have eb : b ≠ i := fun e => hab (ea.trans e.symm)
      simp [upd, ea, Value.ownBlock] at hq
      simp only [upd, if_neg eb]
      intro e
      exact hnew b q eb e hq.symm
    · simp only [upd, if_neg ea] at hq
      by_cases eb : b = i
      · simp [upd, eb, Value.ownBlock]
        exact fun e => hnew a q ea hq e.symm
      · simp only [upd, if_neg eb]
        exact h.rows.apart a b hab q hq
  · by_cases e : j = i
    · subst e; simp [upd]; have := h.len j; omega
    · simp [upd, e]; have := h.len j; omega
  · exact h.fix.keep fun q C t a ht => by
      have e1 : V4.heap[q]? = V.heap[q]? := hold a (by rcases ht with rfl | rfl | rfl | rfl <;> decide)
      rw [hset (hnR (At.of_heap a e1) (by rcases ht with rfl | rfl | rfl | rfl <;> decide)), e1]
  · refine Below.setCell ?_ (by exact ok.rb) _
    refine ⟨hgrow.os.trans h.fr.os, hgrow.tape.trans h.fr.tape, hgrow.output.trans h.fr.output, Nat.le_trans h.fr.size hgrow.size, fun q hq => ?_⟩
    rw [hgrow.block q (Nat.lt_of_lt_of_le hq (h.size ok)) (fun e => by have := ((h.rows.row i).own.lt q e.symm).1; omega), h.fr.block q hq]
theorem upd_ptr {k0 : List UInt8} {a : Addr} {sus : List (List UInt8 × Value)} (h : ∀ e ∈ sus, ∃ a, e.2 = .pointer (some a)) : ∀ e ∈ updE k0 (.pointer (some a)) sus, ∃ a, e.2 = .pointer (some a) := by
  intro e he
  unfold updE at he
  split at he
  · obtain ⟨j, hj⟩ := List.mem_iff_getElem?.1 he
    rw [List.getElem?_modify] at hj
    cases hq : sus[j]? with
    | none => rw [hq] at hj; simp at hj
    | some e2 =>
      rw [hq] at hj
      have h3 := h e2 (List.mem_of_getElem? hq)
      simp at hj
      split at hj <;> subst hj
      · exact ⟨_, rfl⟩
      · exact h3
  · rcases List.mem_append.1 he with h' | h'
    · exact h e h'
    · simp at h'; subst h'; exact ⟨_, rfl⟩
/-- One suspect more. -/
theorem LW.susp {k : Kc} {n : Nat} {v : Nat → Value} {ids : Nat → List (List UInt8)} {sus : List (List UInt8 × Value)} {V : World} (h : LW k n v ids sus V) (ok : k.Ok) (o : Obj) (l : List UInt8) (a : Addr) (hm : MapAt (V.putObj k.c.SU o) k.c.SU (updE l (.pointer (some a)) sus)) : LW k n v ids (updE l (.pointer (some a)) sus) (V.putObj k.c.SU o) := by
  have mS : MapAt V k.c.SU sus := h.mb.mS
  have hne : ∀ {b : Nat} {C : Array Value} {t : TypeId}, At V b C t → (V.putObj k.c.SU o).heap[b]? = V.heap[b]? := fun {b C t} a => World.putObj_heap_other (a.not_map mS)
  obtain ⟨C, a1, h1⟩ := h.mb.mb
  obtain ⟨C', a2, h2⟩ := h.mb.rb
  have n1 : k.D ≠ k.c.SU := h.mb.ne1
  have n3 : k.c.SU ≠ k.c.WA := h.mb.ne3
  refine ⟨⟨⟨C, a1.of_heap (hne a1), h1⟩, ⟨C', a2.of_heap (hne a2), h2⟩, h.mb.lay.of_heap (hne h.mb.lay), hm, h.mb.mW.of_heap (World.putObj_heap_other (Ne.symm n3)), h.mb.mD.of_heap (World.putObj_heap_other n1), h.mb.ne1, h.mb.ne2, h.mb.ne3⟩, ⟨fun i => (h.rows.row i).kept fun q hq => ?_, h.rows.apart⟩, h.len, upd_ptr h.sus, h.fix.keep fun q C t a _ => hne a, ?_⟩
  · obtain ⟨C, a⟩ := (h.rows.row i).at hq
    exact hne a
  · refine ⟨h.fr.os, h.fr.tape, h.fr.output, by rw [World.putObj_size]; exact h.fr.size, fun q hq => ?_⟩
    rw [World.putObj_heap_other (by have := ok.su; omega)]; exact h.fr.block q hq
end Go.Proofs.Ybulkapqu
