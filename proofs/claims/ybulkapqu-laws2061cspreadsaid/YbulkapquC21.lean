import Derived.Test.YbulkapquC20
namespace Go.Proofs.Ybulkapqu
open Go.RowKit Go.Sort

/-- What relaying reads beside. -/
structure Rel (c : Cfg) (g : Nat → List (List UInt8)) (TR : Nat) (w : World) : Prop where
  mem : Mem c w
  net : w.cell? ⟨c.MB, 0, none⟩ = some (.iface 52 (.pointer (some ⟨TR, 0, none⟩)))
  self : w.rangeAt c.MB 1 (idV c.self)
  per : w.cell? ⟨c.MB, 26, none⟩ = some (.int .i64 0)
  grp : ∀ r, r < 2 → ∃ v b o cap, w.cell? ⟨c.RB, if r = 0 then 45 else 46, none⟩ = some v ∧ PeersAt w v (g r) b o cap ∧ (g r).length ≤ cap
theorem PeersAt.keep {w w' : World} {v : Value} {ids : List (List UInt8)} {b o cap : Nat} (h : PeersAt w v ids b o cap) (hb : ids ≠ [] → w'.heap[b]? = w.heap[b]?) : PeersAt w' v ids b o cap :=
  ⟨h.val, h.len, fun i l hl j v hj => cell_of_heap (hb (by rintro rfl; simp at hl)) (h.row i l hl j v hj)⟩
/-- A row of peers lies in a block of more than twenty cells. -/
theorem PeersAt.far {w : World} {v : Value} {ids : List (List UInt8)} {b o cap : Nat} (h : PeersAt w v ids b o cap) (hne : ids ≠ []) : ∃ q u, 20 ≤ q ∧ w.cell? ⟨b, q, none⟩ = some u := by
  cases ids with
  | nil => exact absurd rfl hne
  | cons l r =>
    have hl := h.len l (List.mem_cons_self ..)
    have := h.row 0 l rfl 23 (.int .u16 0) (by
      unfold peerV
      rw [List.getElem?_append_right (by rw [length_idV, hl]; omega), length_idV, hl]; rfl)
    exact ⟨_, _, by omega, this⟩
def Small (w : World) (k : Nat) : Prop := ∃ cs t, At w k cs t ∧ cs.size ≤ 20 ∧ t ≠ 51
theorem Small.far {w : World} {k : Nat} (h : Small w k) {q : Nat} {u : Value} (hq : 20 ≤ q) : w.cell? ⟨k, q, none⟩ ≠ some u := by
  obtain ⟨cs, t, a, hs, _⟩ := h
  rw [a.cell, Array.getElem?_eq_none (by omega)]
  simp
theorem Small.map {w : World} {k : Nat} (h : Small w k) {es : List (List UInt8 × Value)} : ¬ MapAt w k es := by
  obtain ⟨cs, t, a, hs, _⟩ := h
  rintro ⟨_, ms, c, h1, _⟩
  have := h1.symm.trans a
  simp at this
section
variable {w w' : World} {X : Nat → Prop} (hX : ∀ k, X k → Small w k) (hk : ∀ k, k < w.heap.size → ¬ X k → w'.heap[k]? = w.heap[k]?)
include hX hk
theorem keep_far {b q : Nat} {u : Value} (h : w.cell? ⟨b, q, none⟩ = some u) (hq : 20 ≤ q) : w'.heap[b]? = w.heap[b]? :=
  hk b (World.block_lt_of_cell? _ _ h) (fun hx => (hX b hx).far hq h)
theorem keep_map {r : Nat} {es : List (List UInt8 × Value)} (h : MapAt w r es) : MapAt w' r es :=
  h.of_heap (hk r h.lt (fun hx => (hX r hx).map h))
theorem keep_peers {v : Value} {ids : List (List UInt8)} {b o cap : Nat} (h : PeersAt w v ids b o cap) : PeersAt w' v ids b o cap :=
  h.keep fun hne => by
    obtain ⟨q, u, hq, hc⟩ := h.far hne
    exact keep_far hX hk hc hq
theorem Mem.keep {c : Cfg} (h : Mem c w) : Mem c w' := by
  have eM := keep_far hX hk h.rings (by omega)
  have eR := keep_far hX hk h.lay (by omega)
  have eL : w'.heap[c.LB]? = w.heap[c.LB]? := hk _ h.layout.lt (fun hx => by
    obtain ⟨cs, t, a, _, ht⟩ := hX _ hx
    exact At.ne h.layout a (Ne.symm ht) rfl)
  refine ⟨cell_of_heap eM h.rings, cell_of_heap eM h.susp, cell_of_heap eM h.watch, cell_of_heap eR h.lay, h.layout.of_heap eL, fun r hr j v hj => cell_of_heap eR (h.leaf r hr j v hj), fun r hr => ?_, fun r hr => cell_of_heap eR (h.ccw r hr), keep_map hX hk h.mSus, keep_map hX hk h.mWat⟩
  obtain ⟨v, b, o, cap, h1, h2⟩ := h.cwAt r hr
  exact ⟨v, b, o, cap, cell_of_heap eR h1, keep_peers hX hk h2⟩
theorem Rel.keep {c : Cfg} {g : Nat → List (List UInt8)} {TR : Nat} (h : Rel c g TR w) : Rel c g TR w' := by
  have eM := keep_far hX hk h.mem.rings (by omega)
  have eR := keep_far hX hk h.mem.lay (by omega)
  refine ⟨h.mem.keep hX hk, cell_of_heap eM h.net, fun j v hj => cell_of_heap eM (h.self j v hj), cell_of_heap eM h.per, fun r hr => ?_⟩
  obtain ⟨v, b, o, cap, h1, h2, h3⟩ := h.grp r hr
  exact ⟨v, b, o, cap, cell_of_heap eR h1, keep_peers hX hk h2, h3⟩
end
/-- How far the world has come since w0: the log has grown; NB may have changed. -/
structure RS (TR NB base : Nat) (w0 : World) (ob : Option Nat) (ms : List (List Value)) (w : World) : Prop where
  size : w0.heap.size ≤ w.heap.size
  keep : ∀ k, k < w0.heap.size → k ≠ TR → k ≠ NB → w.heap[k]? = w0.heap[k]?
  log : LogAt w TR base ob ms
  hob : ∀ k, ob = some k → w0.heap.size ≤ k
structure Base (c : Cfg) (g : Nat → List (List UInt8)) (TR NB base : Nat) (w0 : World) : Prop where
  rel : Rel c g TR w0
  tr : ∃ v, At w0 TR #[v] 55
  nb : ∃ N, At w0 NB N 114 ∧ N.size ≤ 20
  base : base ≤ w0.heap.size
theorem Base.small {c : Cfg} {g : Nat → List (List UInt8)} {TR NB base : Nat} {w0 : World} (h : Base c g TR NB base w0) : ∀ k, (k = TR ∨ k = NB) → Small w0 k := by
  rintro k (rfl | rfl)
  · obtain ⟨v, a⟩ := h.tr; exact ⟨_, _, a, by simp, by decide⟩
  · obtain ⟨N, a, hN⟩ := h.nb; exact ⟨_, _, a, hN, by decide⟩
theorem RS.rel {c : Cfg} {g : Nat → List (List UInt8)} {TR NB base : Nat} {w0 : World} {ob : Option Nat} {ms : List (List Value)} {w : World} (h : RS TR NB base w0 ob ms w) (h0 : Base c g TR NB base w0) : Rel c g TR w :=
  Rel.keep (X := fun k => k = TR ∨ k = NB) h0.small (fun k hk hx => h.keep k hk (fun e => hx (.inl e)) (fun e => hx (.inr e))) h0.rel
theorem RS.gr {TR NB base : Nat} {w0 : World} {ob : Option Nat} {ms : List (List Value)} {w w' : World} (h : RS TR NB base w0 ob ms w) (g : Gr w w') : RS TR NB base w0 ob ms w' :=
  ⟨Nat.le_trans h.size g.size, fun k hk h1 h2 => (g.heap (Nat.lt_of_lt_of_le hk h.size)).trans (h.keep k hk h1 h2), h.log.gr g, h.hob⟩
theorem RS.step {TR NB base : Nat} {w0 : World} {ob ob' : Option Nat} {ms ms' : List (List Value)} {w w' : World} (h : RS TR NB base w0 ob ms w) (s : Step TR ob w ob' w') (l : LogAt w' TR base ob' ms') : RS TR NB base w0 ob' ms' w' := by
  refine ⟨Nat.le_trans h.size s.fr.size, fun k hk h1 h2 => ?_, l, fun k e => ?_⟩
  · rw [s.fr.block k (Nat.lt_of_lt_of_le hk h.size) h1 (fun e => by have := h.hob k e; omega), h.keep k hk h1 h2]
  · rcases s.own with e2 | ⟨q, e2, hq⟩
    · exact h.hob k (e2 ▸ e)
    · rw [e2] at e; injection e with e; have := h.size; omega
/-- Where a row of peers stands at one time, it stands at another. -/
theorem RS.peers {TR NB base : Nat} {w0 : World} {ob ob' : Option Nat} {ms ms' : List (List Value)} {w w' : World} (h : RS TR NB base w0 ob ms w) (h' : RS TR NB base w0 ob' ms' w') {v : Value} {ids : List (List UInt8)} {b o cap : Nat} (p : PeersAt w v ids b o cap) (hb : ids ≠ [] → b < w0.heap.size ∧ b ≠ TR ∧ b ≠ NB) : PeersAt w' v ids b o cap :=
  p.keep fun hne => by
    obtain ⟨h1, h2, h3⟩ := hb hne
    rw [h'.keep b h1 h2 h3, h.keep b h1 h2 h3]
theorem LogAt.setOther {w : World} {TR base : Nat} {ob : Option Nat} {ms : List (List Value)} (h : LogAt w TR base ob ms) (a : Addr) (u : Value) (h1 : a.block ≠ TR) (h2 : ob ≠ some a.block) : LogAt (w.setCell a u) TR base ob ms := by
  obtain ⟨v, x, y, z⟩ := h.tr
  refine ⟨v, x.setOther _ _ (Ne.symm h1), y, ?_⟩
  obtain ⟨h0, h⟩ := z
  refine ⟨by simpa using h0, ?_⟩
  rcases h with h | ⟨g', cap', cur, e1, e2, e3, e4⟩
  · exact .inl h
  · refine .inr ⟨g', cap', cur, e1, e2, At.setOther (w := w) e3 _ _ ?_, by simpa using e4⟩
    rintro rfl
    subst e1; subst y; simp [Value.ownBlock] at h2
theorem Step.set {TR : Nat} {ob ob' : Option Nat} {w w' : World} (s : Step TR ob w ob' w') (a : Addr) (u : Value) (h : w.heap.size ≤ a.block) : Step TR ob w ob' (w'.setCell a u) := by
  refine ⟨⟨s.fr.os, s.fr.tape, s.fr.output, by rw [World.size_setCell]; exact s.fr.size, fun k hk h1 h2 => ?_⟩, s.own⟩
  rw [Below.heap_setCell _ _ _ _ (by omega), s.fr.block k hk h1 h2]
theorem RS.set {TR NB base : Nat} {w0 : World} {ob : Option Nat} {ms : List (List Value)} {w : World} (h : RS TR NB base w0 ob ms w) (a : Addr) (u : Value) (h0 : w0.heap.size ≤ a.block) (h1 : a.block ≠ TR) (h2 : ob ≠ some a.block) : RS TR NB base w0 ob ms (w.setCell a u) :=
  ⟨by rw [World.size_setCell]; exact h.size, fun k hk x y => by rw [Below.heap_setCell _ _ _ _ (by omega), h.keep k hk x y], h.log.setOther a u h1 h2, h.hob⟩

/-! ### The message that is passed on -/
def mL (m : List Value) (lv : Int) : List Value := m.set 64 (.int .i64 lv)
theorem Msg.level {ring : Int} {key : List UInt8} {stamp : Int} {m : List Value} (h : Msg ring key stamp m) (hk : key.length = 20) (lv : Int) : Msg ring key stamp (mL m lv) := by
  refine ⟨by rw [mL, List.length_set, h.len], by rw [mL, List.getElem?_set_ne (by omega), h.kind], by rw [mL, List.getElem?_set_ne (by omega), h.ring], fun j x hx => ?_, by rw [mL, List.getElem?_set_ne (by omega), h.stamp], fun v hv => ?_⟩
  · have : j < 20 := by have := (List.getElem?_eq_some_iff.1 hx).1; rw [length_idV, hk] at this; exact this
    rw [mL, List.getElem?_set_ne (by omega), h.key j x hx]
  · rcases List.mem_or_eq_of_mem_set hv with h' | rfl
    · exact h.one v h'
    · rfl
/-- What relaying holds while it runs. -/
structure RL (TR NB base : Nat) (w0 w : World) (ob : Option Nat) (ms : List (List Value)) (m : List Value) (Q : List Value → Prop) (n : Nat) (ob' : Option Nat) (ms' : List (List Value)) (lv : Int) (W : World) : Prop where
  st : Step TR ob w ob' W
  rs : RS TR NB base w0 ob' (ms ++ ms') W
  all : ∀ m' ∈ ms', Q m'
  len : ms'.length ≤ n
  box : At W w.heap.size (mL m lv).toArray 94
  ne : ob' ≠ some w.heap.size
theorem RL.gr {TR NB base : Nat} {w0 w : World} {ob : Option Nat} {ms : List (List Value)} {m : List Value} {Q : List Value → Prop} {n : Nat} {ob' : Option Nat} {ms' : List (List Value)} {lv : Int} {W W' : World} (h : RL TR NB base w0 w ob ms m Q n ob' ms' lv W) (g : Gr W W') : RL TR NB base w0 w ob ms m Q n ob' ms' lv W' :=
  ⟨h.st.trans (.of_gr g), h.rs.gr g, h.all, h.len, h.box.gr g, h.ne⟩
theorem RL.mono {TR NB base : Nat} {w0 w : World} {ob : Option Nat} {ms : List (List Value)} {m : List Value} {Q : List Value → Prop} {n n' : Nat} {ob' : Option Nat} {ms' : List (List Value)} {lv : Int} {W : World} (h : RL TR NB base w0 w ob ms m Q n ob' ms' lv W) (hn : n ≤ n') : RL TR NB base w0 w ob ms m Q n' ob' ms' lv W :=
  ⟨h.st, h.rs, h.all, Nat.le_trans h.len hn, h.box, h.ne⟩
theorem RL.apart {TR NB base : Nat} {w0 w : World} {ob : Option Nat} {ms : List (List Value)} {m : List Value} {Q : List Value → Prop} {n : Nat} {ob' : Option Nat} {ms' : List (List Value)} {lv : Int} {W : World} (h : RL TR NB base w0 w ob ms m Q n ob' ms' lv W) : w.heap.size ≠ TR := by
  obtain ⟨v, a, _⟩ := h.rs.log.tr
  exact At.ne h.box a (by decide)
/-- The level set anew. -/
theorem RL.set {TR NB base : Nat} {w0 w : World} {ob : Option Nat} {ms : List (List Value)} {m : List Value} {Q : List Value → Prop} {n : Nat} {ob' : Option Nat} {ms' : List (List Value)} {lv : Int} {W : World} (h : RL TR NB base w0 w ob ms m Q n ob' ms' lv W) (hw : w0.heap.size ≤ w.heap.size) (lv' : Int) : RL TR NB base w0 w ob ms m Q n ob' ms' lv' (W.setCell ⟨w.heap.size, 64, none⟩ (.int .i64 lv')) := by
  refine ⟨h.st.set _ _ (Nat.le_refl _), h.rs.set _ _ hw h.apart h.ne, h.all, h.len, ?_, h.ne⟩
  have := h.box.set 64 (.int .i64 lv')
  simpa [mL] using this
/-- One more message is sent. -/
theorem RL.sent {TR NB base : Nat} {w0 w : World} {ob : Option Nat} {ms : List (List Value)} {m : List Value} {Q : List Value → Prop} {n : Nat} {ob' ob2 : Option Nat} {ms' : List (List Value)} {lv : Int} {W W' : World} (h : RL TR NB base w0 w ob ms m Q n ob' ms' lv W) (hq : Q (mL m lv)) (l : LogAt W' TR base ob2 ((ms ++ ms') ++ [mL m lv])) (s : Step TR ob' W ob2 W') : RL TR NB base w0 w ob ms m Q (n + 1) ob2 (ms' ++ [mL m lv]) lv W' := by
  refine ⟨h.st.trans s, ?_, fun m' hm' => ?_, by rw [List.length_append]; have := h.len; simp; exact this, s.at h.box h.apart h.ne, s.ne h.box.lt h.ne⟩
  · rw [← List.append_assoc]; exact h.rs.step s l
  · rcases List.mem_append.1 hm' with h' | h'
    · exact h.all m' h'
    · simp at h'; subst h'; exact hq

/-- What passOver's closure answers, wherever it is called. -/
def PassOk (c : Cfg) (also : List UInt8) (W : World) (p1 p2 p3 : Value) : Prop := ∀ W', Gr W W' → ∀ l : List UInt8, l.length = 20 → Calls Yba.prog 104 #[.agg (idV l).toArray, p1, p2, p3] W' fun e w' => e = .returned (.bool (passB c also l)) ∧ Gr W' w'
theorem PassOk.gr {c : Cfg} {also : List UInt8} {W W' : World} {p1 p2 p3 : Value} (h : PassOk c also W p1 p2 p3) (g : Gr W W') : PassOk c also W' p1 p2 p3 := fun X hX => h X (g.trans hX)
theorem pover_calls (c : Cfg) (ok : Ok c) (w : World) (h : Mem c w) (also : List UInt8) (ha : also.length = 20) : Calls Yba.prog 82 #[.pointer (some ⟨c.MB, 0, none⟩), .int .i64 0, .agg (idV also).toArray] w fun e w' =>
    ∃ p1 p2 p3, e = .returned (.func (.func 104) #[] #[p1, p2, p3]) ∧ Gr w w' ∧ PassOk c also w' p1 p2 p3 := by
  refine (passOver_calls w c.MB also).mono ?_
  rintro e w' ⟨rfl, g, a1, a2, a3⟩
  refine ⟨_, _, _, rfl, g, fun W' hW l hl => ?_⟩
  exact pass_calls c ok W' ((h.gr g).gr hW) also l ha hl _ _ _ (a1.gr hW).all (cell_gr hW a2) (cell_gr hW a3)
end Go.Proofs.Ybulkapqu
