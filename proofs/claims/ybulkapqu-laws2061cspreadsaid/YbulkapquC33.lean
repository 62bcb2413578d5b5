import Derived.Test.YbulkapquC32
namespace Go.Proofs.Ybulkapqu
open Go.RowKit Go.Sort

theorem Rw.sortable {W : World} {base : Nat} {v : Value} {ids : List (List UInt8)} (h : Rw W base v ids) : ∃ b cap, PeersAt W v ids b 0 cap ∧ ids.length ≤ cap ∧ (ids ≠ [] → ∃ C, At W b C 110) ∧ (v.ownBlock = some b ∨ (W.heap.size ≤ b ∧ ids = [])) := by
  rcases h.own.2 with ⟨hv, hn⟩ | ⟨g, cap, cur, hv, hb, hg, h1, h2, h3, h4⟩
  · have : ids = [] := List.eq_nil_of_length_eq_zero hn
    subst this
    exact ⟨W.heap.size, 0, ⟨.inr ⟨hv, rfl⟩, by simp, by simp⟩, by simp, by simp, .inr ⟨Nat.le_refl _, rfl⟩⟩
  · refine ⟨g, cap, ⟨.inl hv, h.len, fun i l hl j x hx => ?_⟩, h1, fun _ => ⟨cur, hg⟩, .inl (by rw [hv]; rfl)⟩
    have := h.own.cells (g := g) (by rw [hv]; rfl) (i * 24 + j) x (flat_get ids i l h.len hl j x hx)
    rw [show (0 + i * 24 + j) = i * 24 + j by omega]
    simpa [Addr.add_mid] using this

/-- The rows below j are sorted; the others are rows still. -/
structure SW (k : Kc) (j : Nat) (ds : List (List UInt8 × Value)) (v : Nat → Value) (ids : Nat → List (List UInt8)) (sus : List (List UInt8 × Value)) (W : World) : Prop where
  mb : Mb (k.cs sus) k.D k.TR ds v W
  rows : ∀ i, j ≤ i → Rw W k.base (v i) (ids i)
  done : ∀ i, i < j → ∃ b cap, PeersAt W (v i) (ids i) b 0 cap ∧ (ids i).length ≤ cap ∧ (ids i ≠ [] → (v i).ownBlock = some b ∧ b < W.heap.size)
  apart : ∀ i j, i ≠ j → ∀ k, (v i).ownBlock = some k → (v j).ownBlock ≠ some k
  len : ∀ i, (ids i).length ≤ 100000
  l20 : ∀ i, ∀ l ∈ ids i, l.length = 20
  sus : ∀ e ∈ sus, ∃ a, e.2 = .pointer (some a)
  fix : Fix k W
  fr : Below k.base k.w0 W
theorem LW.sw {k : Kc} {n : Nat} {v : Nat → Value} {ids : Nat → List (List UInt8)} {sus : List (List UInt8 × Value)} {W : World} (h : LW k n v ids sus W) (hn : n ≤ 100000) : SW k 0 [] v ids sus W :=
  ⟨h.mb, fun i _ => h.rows.row i, fun i hi => by omega, h.rows.apart, fun i => Nat.le_trans (h.len i) hn, fun i => (h.rows.row i).len, h.sus, h.fix, h.fr⟩
theorem SW.size {k : Kc} {j : Nat} {ds : List (List UInt8 × Value)} {v : Nat → Value} {ids : Nat → List (List UInt8)} {sus : List (List UInt8 × Value)} {W : World} (h : SW k j ds v ids sus W) (ok : k.Ok) : k.base ≤ W.heap.size := by rw [ok.base]; exact h.fr.size
theorem SW.gr {k : Kc} {j : Nat} {ds : List (List UInt8 × Value)} {v : Nat → Value} {ids : Nat → List (List UInt8)} {sus : List (List UInt8 × Value)} {W W' : World} (h : SW k j ds v ids sus W) (ok : k.Ok) (g : Gr W W') : SW k j ds v ids sus W' := by
  refine ⟨h.mb.gr g, fun i hi => (h.rows i hi).kept fun q hq => g.heap ((h.rows i hi).own.lt q hq).2, fun i hi => ?_, h.apart, h.len, h.l20, h.sus, h.fix.gr g, below_trans h.fr (g.below _ (h.size ok))⟩
  obtain ⟨b, cap, h1, h2, h3⟩ := h.done i hi
  exact ⟨b, cap, h1.gr g, h2, fun hne => ⟨(h3 hne).1, Nat.lt_of_lt_of_le (h3 hne).2 g.size⟩⟩
theorem SW.sort {k : Kc} {j : Nat} {ds : List (List UInt8 × Value)} {v : Nat → Value} {ids : Nat → List (List UInt8)} {sus : List (List UInt8 × Value)} {W : World} (h : SW k j ds v ids sus W) (ok : k.Ok) : ∃ b cap, PeersAt W (v j) (ids j) b 0 cap ∧ (ids j ≠ [] → ∃ C, At W b C 110) ∧
    ∀ W1 ids', ids'.length = (ids j).length → PeersAt W1 (v j) ids' b 0 cap → W.grownBy W1 (some b) → SW k (j + 1) ds v (upd ids j ids') sus W1 := by
  obtain ⟨b, cap, h1, h2, h3, h4⟩ := (h.rows j (Nat.le_refl _)).sortable
  refine ⟨b, cap, h1, h3, fun W1 ids' hl hp hg => ?_⟩
  have h110 : b < W.heap.size → ∃ C, At W b C 110 := fun hb => by
    rcases h4 with e | ⟨e, _⟩
    · exact (h.rows j (Nat.le_refl _)).at e
    · omega
  have hold : ∀ {q : Nat} {C : Array Value} {t : TypeId}, At W q C t → t ≠ 110 → W1.heap[q]? = W.heap[q]? := fun {q C t} a ht => hg.block q a.lt (fun e => by
    injection e with e
    subst e
    obtain ⟨C', a'⟩ := h110 a.lt
    exact a'.ne a (Ne.symm ht) rfl)
  have hmap : ∀ {r : Nat} {es : List (List UInt8 × Value)}, MapAt W r es → W1.heap[r]? = W.heap[r]? := fun {r es} m => hg.block r m.lt (fun e => by
    injection e with e
    subst e
    obtain ⟨C', a'⟩ := h110 m.lt
    exact a'.not_map m rfl)
  have hrow : ∀ {i q : Nat}, i ≠ j → (v i).ownBlock = some q → q < W.heap.size → W1.heap[q]? = W.heap[q]? := fun {i q} hi hq hlt => hg.block q hlt (fun e => by
    injection e with e
    subst e
    rcases h4 with e | ⟨e, _⟩
    · exact h.apart i j hi q hq e
    · omega)
  obtain ⟨C, a, _⟩ := h.mb.mb
  obtain ⟨C', a', _⟩ := h.mb.rb
  refine ⟨h.mb.keep fun q hq => ?_, fun i hi => ?_, fun i hi => ?_, h.apart, fun i => ?_, fun i l hl' => ?_, h.sus, h.fix.keep fun q C t a ht => hold a (by rcases ht with rfl | rfl | rfl | rfl <;> decide), ?_⟩
  · rcases hq with rfl | rfl | rfl | rfl | rfl | rfl
    · exact hold a (by decide)
    · exact hold a' (by decide)
    · exact hold h.mb.lay (by decide)
    · exact hmap h.mb.mS
    · exact hmap h.mb.mW
    · exact hmap h.mb.mD
  · have hne : i ≠ j := by omega
    simp only [upd, if_neg hne]
    exact (h.rows i (by omega)).kept fun q hq => hrow hne hq ((h.rows i (by omega)).own.lt q hq).2
  · by_cases e : i = j
    · subst e
      refine ⟨b, cap, by simpa [upd] using hp, by simp [upd, hl]; exact h2, fun hne => ?_⟩
      have hne' : ids i ≠ [] := fun e => by
        simp only [upd, if_pos] at hne
        rw [e] at hl
        exact hne (List.eq_nil_of_length_eq_zero hl)
      rcases h4 with e | ⟨_, e⟩
      · obtain ⟨C, a⟩ := h3 hne'
        exact ⟨e, Nat.lt_of_lt_of_le a.lt hg.size⟩
      · exact absurd e hne'
    · simp only [upd, if_neg e]
      obtain ⟨b', cap', p1, p2, p3⟩ := h.done i (by omega)
      exact ⟨b', cap', p1.keep fun hne => hrow e (p3 hne).1 (p3 hne).2, p2, fun hne => ⟨(p3 hne).1, Nat.lt_of_lt_of_le (p3 hne).2 hg.size⟩⟩
  · by_cases e : i = j
    · subst e; simp [upd, hl]; exact h.len i
    · simp [upd, e]; exact h.len i
  · by_cases e : i = j
    · subst e; simp [upd] at hl'; exact hp.len l hl'
    · simp [upd, e] at hl'; exact h.l20 i l hl'
  · refine ⟨hg.os.trans h.fr.os, hg.tape.trans h.fr.tape, hg.output.trans h.fr.output, Nat.le_trans h.fr.size hg.size, fun q hq => ?_⟩
    have hqs : q < W.heap.size := Nat.lt_of_lt_of_le hq (h.size ok)
    rw [hg.block q hqs (fun e => ?_), h.fr.block q hq]
    injection e with e
    subst e
    rcases h4 with e | ⟨e, _⟩
    · have := ((h.rows j (Nat.le_refl _)).own.lt q e).1; omega
    · omega
/-- The dead one is noted. -/
theorem SW.dead {k : Kc} {j : Nat} {ds ds' : List (List UInt8 × Value)} {v : Nat → Value} {ids : Nat → List (List UInt8)} {sus : List (List UInt8 × Value)} {W : World} (h : SW k j ds v ids sus W) (ok : k.Ok) (o : Obj) (hm : MapAt (W.putObj k.D o) k.D ds') : SW k j ds' v ids sus (W.putObj k.D o) := by
  have hne : ∀ {b : Nat} {C : Array Value} {t : TypeId}, At W b C t → (W.putObj k.D o).heap[b]? = W.heap[b]? := fun {b C t} a => World.putObj_heap_other (a.not_map h.mb.mD)
  obtain ⟨C, a1, h1⟩ := h.mb.mb
  obtain ⟨C', a2, h2⟩ := h.mb.rb
  have n1 : k.D ≠ k.c.SU := h.mb.ne1
  have n2 : k.D ≠ k.c.WA := h.mb.ne2
  refine ⟨⟨⟨C, a1.of_heap (hne a1), h1⟩, ⟨C', a2.of_heap (hne a2), h2⟩, h.mb.lay.of_heap (hne h.mb.lay), h.mb.mS.of_heap (World.putObj_heap_other (Ne.symm n1)), h.mb.mW.of_heap (World.putObj_heap_other (Ne.symm n2)), hm, h.mb.ne1, h.mb.ne2, h.mb.ne3⟩, fun i hi => (h.rows i hi).kept fun q hq => ?_, fun i hi => ?_, h.apart, h.len, h.l20, h.sus, h.fix.keep fun q C t a _ => hne a, ?_⟩
  · obtain ⟨C, a⟩ := (h.rows i hi).at hq
    exact hne a
  · obtain ⟨b, cap, p1, p2, p3⟩ := h.done i hi
    refine ⟨b, cap, p1.keep fun hne' => ?_, p2, fun hne' => ⟨(p3 hne').1, by rw [World.putObj_size]; exact (p3 hne').2⟩⟩
    obtain ⟨q, u, hq, hc⟩ := p1.far hne'
    refine World.putObj_heap_other fun e => ?_
    subst e
    obtain ⟨_, ms, cl, hh, _⟩ := h.mb.mD
    simp [World.cell?, hh] at hc
  · refine ⟨h.fr.os, h.fr.tape, h.fr.output, by rw [World.putObj_size]; exact h.fr.size, fun q hq => ?_⟩
    rw [World.putObj_heap_other (by have := ok.d; omega)]; exact h.fr.block q hq

/-! ### What the decisions read -/
def Kc.cf (k : Kc) (sus : List (List UInt8 × Value)) (ids : Nat → List (List UInt8)) : Cfg := { k.c with sus := sus, cw := fun r => ids (2 + r) }
theorem Kc.Ok.cfg {k : Kc} (ok : k.Ok) {sus : List (List UInt8 × Value)} (h : ∀ e ∈ sus, ∃ a, e.2 = .pointer (some a)) (ids : Nat → List (List UInt8)) : Ybulkapqu.Ok (k.cf sus ids) := ⟨ok.nr, ok.nr2, ok.x, ok.f, ok.self, h⟩
theorem SW.mem {k : Kc} {ds : List (List UInt8 × Value)} {v : Nat → Value} {ids : Nat → List (List UInt8)} {sus : List (List UInt8 × Value)} {W : World} (h : SW k 2 ds v ids sus W) (ok : k.Ok) : Mem (k.cf sus ids) W := by
  obtain ⟨C, a, m1, m2, m3, m4, m5, m6, m7⟩ := h.mb.mb
  obtain ⟨R, b, r1, r2, r3, r4, r5⟩ := h.mb.rb
  refine ⟨(a.cell _).trans m3, (a.cell _).trans m6, (a.cell _).trans m7, (b.cell _).trans r4, h.mb.lay, fun r hr j x hx => (b.cell _).trans (r2 r hr j x hx), fun r hr => ?_, fun r hr => (b.cell _).trans (r3 r hr), h.mb.mS, h.mb.mW⟩
  have hr' : r < k.c.nr := hr
  have hn2 := ok.nr2
  obtain ⟨b', cap, p1, p2, p3, p4⟩ := (h.rows (2 + r) (by omega)).sortable
  have ho : r * 47 + 21 = off (2 + r) := by
    obtain rfl | rfl : r = 0 ∨ r = 1 := by omega
    · rfl
    · rfl
  exact ⟨_, b', 0, cap, (b.cell _).trans (by rw [ho]; exact r5 (2 + r) (by show 2 + r < 2 + k.c.nr; omega)), p1⟩
theorem SW.rel {k : Kc} {ds : List (List UInt8 × Value)} {v : Nat → Value} {ids : Nat → List (List UInt8)} {sus : List (List UInt8 × Value)} {W : World} (h : SW k 2 ds v ids sus W) (ok : k.Ok) : Rel (k.cf sus ids) ids k.TR W := by
  obtain ⟨C, a, m1, m2, m3, m4, m5, m6, m7⟩ := h.mb.mb
  obtain ⟨R, b, r1, r2, r3, r4, r5⟩ := h.mb.rb
  refine ⟨h.mem ok, (a.cell _).trans m1, fun j x hx => (a.cell _).trans (m2 j x hx), (a.cell _).trans m4, fun r hr => ?_⟩
  obtain ⟨b', cap, p1, p2, _⟩ := h.done r hr
  have ho : (if r = 0 then 45 else 46) = off r := by
    obtain rfl | rfl : r = 0 ∨ r = 1 := by omega
    · rfl
    · rfl
  exact ⟨_, b', 0, cap, (b.cell _).trans (by rw [ho]; exact r5 r (by show r < 2 + k.c.nr; omega)), p1, p2⟩
theorem SW.base {k : Kc} {ds : List (List UInt8 × Value)} {v : Nat → Value} {ids : Nat → List (List UInt8)} {sus : List (List UInt8 × Value)} {W : World} (h : SW k 2 ds v ids sus W) (ok : k.Ok) {NB : Nat} {N : Array Value} (hN : At W NB N 114) (hs : N.size ≤ 20) : Base (k.cf sus ids) ids k.TR NB k.base W :=
  ⟨h.rel ok, ⟨_, h.fix.tr⟩, ⟨N, hN, hs⟩, h.size ok⟩
theorem SW.log {k : Kc} {j : Nat} {ds : List (List UInt8 × Value)} {v : Nat → Value} {ids : Nat → List (List UInt8)} {sus : List (List UInt8 × Value)} {W : World} (h : SW k j ds v ids sus W) : LogAt W k.TR k.base none [] :=
  ⟨⟨_, h.fix.tr, rfl, World.ownsRow_nil _ _ _ _⟩⟩
theorem SW.cell {k : Kc} {j : Nat} {ds : List (List UInt8 × Value)} {v : Nat → Value} {ids : Nat → List (List UInt8)} {sus : List (List UInt8 × Value)} {W : World} (h : SW k j ds v ids sus W) (i : Nat) (hi : i < 2 + k.c.nr) : W.cell? ⟨k.c.RB, off i, none⟩ = some (v i) := by
  obtain ⟨C, a, _, _, _, _, h5⟩ := h.mb.rb
  exact (a.cell _).trans (h5 i hi)
theorem SW.dmap {k : Kc} {j : Nat} {ds : List (List UInt8 × Value)} {v : Nat → Value} {ids : Nat → List (List UInt8)} {sus : List (List UInt8 × Value)} {W : World} (h : SW k j ds v ids sus W) : W.cell? ⟨k.c.MB, 28, none⟩ = some (.map (some k.D)) := by
  obtain ⟨C, a, m1, m2, m3, m4, m5, m6, m7⟩ := h.mb.mb
  exact (a.cell _).trans m5
end Go.Proofs.Ybulkapqu
