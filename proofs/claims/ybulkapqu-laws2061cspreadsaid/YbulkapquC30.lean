import Derived.Test.YbulkapquC29
namespace Go.Proofs.Ybulkapqu
open Go.RowKit Go.Sort

theorem info110 : (Yba.prog.info? 110).map (fun i => (i.zero, i.size, i.bytes)) = some (some (.agg zeroP), 24, 56) := by kernel_rfl
theorem size_zeroP : zeroP.size = 24 := by kernel_rfl
theorem peerV_one (l : List UInt8) : ∀ v ∈ peerV l, v.oneCell' = true := fun v hv => by
  rcases List.mem_append.1 hv with h | h
  · exact idV_one l v h
  · simp at h; rcases h with rfl | rfl | rfl | rfl <;> rfl
theorem fill_peer (i0 : TypeInfo) (hs : i0.size = 24) (l : List UInt8) (hl : l.length = 20) : Instr.fill (fun i => some (i * i0.size, i0.size)) ((Array.range (1 * i0.size)).map ((Value.agg zeroP).cells[· % (Value.agg zeroP).cells.size]!)) [(0, .agg (peerV l).toArray)] = some (peerV l).toArray := by
  rw [hs]; exact fill_whole (peerV l) 24 (length_peerV l hl) _ (by simp)
theorem wpList_buildSlice_run {P : Program} {ops : Array Oper} {rest : List Oper} {op : Oper} {a : Act} {w : World} {Q : Exit → Act → World → Prop} (hgd : op.guard = none) (t e : TypeId) (len : Nat) (parts : Array (Nat × Operand)) (ho : op.op = .buildSlice t len parts)
    (cells : Array Value) (ie : TypeInfo) (z : Value) (hu : P.underlying t = some (.slice e)) (hie : P.info? e = some ie) (hz : ie.zero = some z) (hsmall : ¬ len * ie.size > 2 ^ 24) (hpos : ¬ len * ie.size = 0)
    (hf : Instr.fill (fun i => some (i * ie.size, ie.size)) ((Array.range (len * ie.size)).map (z.cells[· % z.cells.size]!)) (parts.map fun (i, x) => (i, a.eval x)).toList = some cells)
    (h : wpList P ops Q rest (a.put op.dst (.slice (some ⟨w.heap.size, 0, none⟩) len len)) (w.alloc (.cells cells e))) : wpList P ops Q (op :: rest) a w :=
  wpList_plain hgd fun _ hK => wp_buildSlice t e len parts ho cells ie z hu hie hz hsmall hpos hf (hK _ _ h)
theorem rw_lit (w : World) (l : List UInt8) (hl : l.length = 20) (base : Nat) (hb : base ≤ w.heap.size) : Rw (w.alloc (.cells (peerV l).toArray 110)) base (.slice (some ⟨w.heap.size, 0, none⟩) 1 1) [l] := by
  have hp := length_peerV l hl
  refine ⟨⟨by simp [hp], .inr ⟨w.heap.size, 1, (peerV l).toArray, rfl, hb, heap_alloc_new w _, by simp, by unfold maxLen; omega, by simp [hp], ?_⟩⟩, by simpa using hl⟩
  simp [List.take_of_length_le (Nat.le_of_eq hp)]

/-! ### newMembership -/
def newCfg (MB RB LB SU WA nr x f t : Nat) (self : List UInt8) : Cfg := ⟨MB, RB, LB, SU, WA, nr, x, f, t, self, [], fun _ => []⟩
def ids0 (nr : Nat) (self : List UInt8) (i : Nat) : List (List UInt8) := if i = 0 then [self] else if i = 1 ∧ 1 < nr then [self] else []
structure NRb (w : World) (S : Nat) (sl : List UInt8) (net : Value) (L : Array Value) (K : List Value) (RB nr f de su wa r : Nat) (W : World) : Prop where
  nm : NMb w S sl net L (.slice (some ⟨RB, 0, none⟩) nr nr) K W
  rb : ∃ zs, zs.length = (nr - r) * 47 ∧ At W RB (ringsV f sl r ++ zs).toArray 107
  md : MapAt W de []
  ms : MapAt W su []
  mw : MapAt W wa []
theorem NRb.step {w : World} {S : Nat} {self : List UInt8} {net : Value} {L : Array Value} {K : List Value} {RB nr f de su wa r : Nat} {W W' : World} (h : NRb w S self net L K RB nr f de su wa r W) (g : Gr W W') : NRb w S self net L K RB nr f de su wa r W' := by
  obtain ⟨zs, h1, h2⟩ := h.rb
  exact ⟨h.nm.step g, ⟨zs, h1, h2.gr g⟩, h.md.gr g, h.ms.gr g, h.mw.gr g⟩
theorem MapAt.sets {w : World} {r b : Nat} {es : List (List UInt8 × Value)} (h : MapAt w r es) {C : Array Value} {t : TypeId} (a : At w b C t) (o : Nat) (vs : List Value) : MapAt (w.setCells b o vs) r es := h.of_heap (heap_setCells_other _ _ (fun e => a.not_map h e.symm) _ _ _)
theorem MapAt.setc {w : World} {r b : Nat} {es : List (List UInt8 × Value)} (h : MapAt w r es) {C : Array Value} {t : TypeId} (a : At w b C t) (o : Nat) (v : Value) : MapAt (w.setCell ⟨b, o, none⟩ v) r es := h.of_heap (Below.heap_setCell _ _ _ _ (fun e => a.not_map h e.symm))
theorem NMb.sets {w : World} {S : Nat} {self : List UInt8} {net : Value} {L : Array Value} {rs : Value} {K : List Value} {W : World} (h : NMb w S self net L rs K W) (hS : S = w.heap.size) {b : Nat} (hb : S + 1 + 1 < b) (o : Nat) (vs : List Value) : NMb w S self net L rs K (W.setCells b o vs) := by
  obtain ⟨T, a⟩ := h.m
  exact ⟨Gr.setCells _ (by omega) _ _ _ h.gr, h.i.setsOther (by omega) _ _, ⟨T, a.setsOther (by omega) _ _⟩, h.l.setsOther (by omega) _ _⟩
theorem NRb.put {w : World} {S : Nat} {self : List UInt8} {net : Value} {L : Array Value} {K : List Value} {RB nr f de su wa r : Nat} {W : World} (h : NRb w S self net L K RB nr f de su wa r W) (hS : S = w.heap.size) (hRB : S + 1 + 1 < RB) (hs : self.length = 20) (hr : r < nr) :
    W.there RB (r * 47) (rsV (viewL f r self)).toArray.size ∧ NRb w S self net L K RB nr f de su wa (r + 1) (W.setCells RB (r * 47) (rsV (viewL f r self))) := by
  obtain ⟨zs, h1, h2⟩ := h.rb
  have hl := length_rsV _ (length_viewL f r self hs)
  have hg := length_ringsV f self hs r
  have hz : zs.length = 47 + (nr - (r + 1)) * 47 := by
    rw [h1, show nr - r = (nr - (r + 1)) + 1 by omega]; omega
  refine ⟨?_, h.nm.sets hS hRB _ _, ⟨zs.drop 47, by rw [List.length_drop]; omega, ?_⟩, h.md.sets h2 _ _, h.ms.sets h2 _ _, h.mw.sets h2 _ _⟩
  · have := h2.there (r * 47) 47 (by rw [List.length_append]; omega)
    simpa [hl] using this
  · have e : ringsV f self r ++ zs = ringsV f self r ++ (zs.take 47 ++ zs.drop 47) := by rw [List.take_append_drop]
    rw [e] at h2
    have := h2.mid (rsV (viewL f r self)) (by rw [hl, List.length_take]; omega) (r * 47) hg.symm
    rw [ringsV_succ, List.append_assoc]
    exact this
theorem NMb.setc {w : World} {S : Nat} {self : List UInt8} {net : Value} {L : Array Value} {rs : Value} {K : List Value} {W : World} (h : NMb w S self net L rs K W) (hS : S = w.heap.size) {b : Nat} (hb : S + 1 + 1 < b) (o : Nat) (v : Value) : NMb w S self net L rs K (W.setCell ⟨b, o, none⟩ v) := by
  obtain ⟨T, a⟩ := h.m
  exact ⟨h.gr.setCell _ _ (by show w.heap.size ≤ b; omega), h.i.setOther _ _ (by show S ≠ b; omega), ⟨T, a.setOther _ _ (by show S + 1 ≠ b; omega)⟩, h.l.setOther _ _ (by show S + 1 + 1 ≠ b; omega)⟩
/-- What stands behind the loop, and stays while the first ring's groups are set. -/
structure NEb (w : World) (S : Nat) (sl : List UInt8) (net : Value) (L : Array Value) (K : List Value) (RB nr de su wa : Nat) (CR : Array Value) (W : World) : Prop where
  nm : NMb w S sl net L (.slice (some ⟨RB, 0, none⟩) nr nr) K W
  rb : At W RB CR 107
  md : MapAt W de []
  ms : MapAt W su []
  mw : MapAt W wa []
theorem NEb.step {w : World} {S : Nat} {self : List UInt8} {net : Value} {L : Array Value} {K : List Value} {RB nr de su wa : Nat} {CR : Array Value} {W W' : World} (h : NEb w S self net L K RB nr de su wa CR W) (g : Gr W W') : NEb w S self net L K RB nr de su wa CR W' :=
  ⟨h.nm.step g, h.rb.gr g, h.md.gr g, h.ms.gr g, h.mw.gr g⟩
theorem NEb.set {w : World} {S : Nat} {self : List UInt8} {net : Value} {L : Array Value} {K : List Value} {RB nr de su wa : Nat} {CR : Array Value} {W : World} (h : NEb w S self net L K RB nr de su wa CR W) (hS : S = w.heap.size) (hRB : S + 1 + 1 < RB) (o : Nat) (v : Value) : NEb w S self net L K RB nr de su wa (CR.setIfInBounds o v) (W.setCell ⟨RB, o, none⟩ v) :=
  ⟨h.nm.setc hS hRB _ _, h.rb.set o v, h.md.setc h.rb _ _, h.ms.setc h.rb _ _, h.mw.setc h.rb _ _⟩
/-- The parts make the membership. -/
theorem NEb.mb {w : World} {S : Nat} {self : List UInt8} {TR LB x f t : Nat} {K : List Value} {RB nr de su wa : Nat} {vx vy : Value} {W : World}
    (h : NEb w S self (.iface 52 (.pointer (some ⟨TR, 0, none⟩))) (layV x f t) K RB nr de su wa ((((ringsV f self nr).toArray.setIfInBounds 44 (.pointer (some ⟨LB, 0, none⟩))).setIfInBounds 45 vx).setIfInBounds 46 vy) W) (hs : self.length = 20) (hnr : 0 < nr) (hnr2 : nr ≤ 2) (hLB : At w LB (layV x f t) 51)
    (hK0 : K[0]? = some (.int .i64 0)) (hK2 : K[2]? = some (.map (some de))) (hK3 : K[3]? = some (.map (some su))) (hK4 : K[4]? = some (.map (some wa))) (n1 : de ≠ su) (n2 : de ≠ wa) (n3 : su ≠ wa) (v : Nat → Value) (hv0 : v 0 = vx) (hv1 : v 1 = vy) (hv2 : ∀ i, 2 ≤ i → v i = .slice none 0 0) :
    Mb (newCfg (S + 1) RB LB su wa nr x f t self) de TR [] v W := by
  obtain ⟨T, a⟩ := h.nm.m
  have hKg : ∀ (k : Nat) (u : Value), K[k]? = some u → (memV (.iface 52 (.pointer (some ⟨TR, 0, none⟩))) self (.slice (some ⟨RB, 0, none⟩) nr nr) K T).toArray[26 + k]? = some u := fun k u hu => by
    have := mem_get (.iface 52 (.pointer (some ⟨TR, 0, none⟩))) self hs (.slice (some ⟨RB, 0, none⟩) nr nr) K T (5 + k)
    rw [show 21 + (5 + k) = 26 + k by omega] at this
    have hk := (List.getElem?_eq_some_iff.1 hu).1
    rw [List.getElem?_toArray, this, List.getElem?_append_right (by simp), show 5 + k - [Value.slice (some ⟨RB, 0, none⟩) nr nr, .pointer none, .nilFunc, .int .u64 1, .pointer none].length = k by simp, List.getElem?_append_left hk]
    exact hu
  have hlen : (ringsV f self nr).length = nr * 47 := length_ringsV f self hs nr
  have hget : ∀ i, i ≠ 44 → i ≠ 45 → i ≠ 46 → ((((ringsV f self nr).toArray.setIfInBounds 44 (.pointer (some ⟨LB, 0, none⟩))).setIfInBounds 45 vx).setIfInBounds 46 vy)[i]? = (ringsV f self nr)[i]? := fun i h1 h2 h3 => by
    rw [Array.getElem?_setIfInBounds_ne (Ne.symm h3), Array.getElem?_setIfInBounds_ne (Ne.symm h2), Array.getElem?_setIfInBounds_ne (Ne.symm h1), List.getElem?_toArray]
  have h47 : 47 ≤ nr * 47 := by omega
  refine ⟨⟨_, a, ?_, ?_, ?_, hKg 0 _ hK0, hKg 2 _ hK2, hKg 3 _ hK3, hKg 4 _ hK4⟩, ⟨_, h.rb, ?_, ?_, ?_, ?_, ?_⟩, hLB.gr h.nm.gr, h.ms, h.mw, h.md, n1, n2, n3⟩
  · rfl
  · intro j u hu
    rw [List.getElem?_toArray]; exact mem_self _ self _ K T j u hu
  · have := mem_get (.iface 52 (.pointer (some ⟨TR, 0, none⟩))) self hs (.slice (some ⟨RB, 0, none⟩) nr nr) K T 0
    rw [List.getElem?_toArray]; exact this
  · simp [hlen]; rfl
  · intro r hr j u hu
    have hr' : r < nr := hr
    have hj : j < 20 := by have := (List.getElem?_eq_some_iff.1 hu).1; rw [length_idV] at this; rw [show (newCfg (S + 1) RB LB su wa nr x f t self).self = self from rfl, length_viewL _ _ _ hs] at this; exact this
    rw [hget _ (by omega) (by omega) (by omega), ringsV_get f self hs nr r hr' j (by omega)]
    exact rsV_id _ j u hu
  · intro r hr
    have hr' : r < nr := hr
    rw [hget _ (by omega) (by omega) (by omega), ringsV_get f self hs nr r hr' 22 (by omega)]
    exact rsV_get _ (length_viewL f r self hs) 2
  · rw [Array.getElem?_setIfInBounds_ne (by omega), Array.getElem?_setIfInBounds_ne (by omega), Array.getElem?_setIfInBounds_self_of_lt (by simp [hlen]; omega)]
    rfl
  · intro i hi
    have hi' : i < 2 + nr := hi
    have hc : i = 0 ∨ i = 1 ∨ i = 2 ∨ (i = 3 ∧ nr = 2) := by omega
    rcases hc with rfl | rfl | rfl | ⟨rfl, e⟩
    · show _[45]? = _
      rw [Array.getElem?_setIfInBounds_ne (by omega), Array.getElem?_setIfInBounds_self_of_lt (by simp [hlen]; omega), hv0]
    · show _[46]? = _
      rw [Array.getElem?_setIfInBounds_self_of_lt (by simp [hlen]; omega), hv1]
    · show _[21]? = _
      rw [hget _ (by omega) (by omega) (by omega), hv2 2 (by omega)]
      have := ringsV_get f self hs nr 0 (by omega) 21 (by omega)
      rw [show 0 * 47 + 21 = 21 by omega] at this
      rw [this]
      exact rsV_get _ (length_viewL f 0 self hs) 1
    · show _[68]? = _
      rw [hget _ (by omega) (by omega) (by omega), hv2 3 (by omega)]
      have := ringsV_get f self hs nr 1 (by omega) 21 (by omega)
      rw [show 1 * 47 + 21 = 68 by omega] at this
      rw [this]
      exact rsV_get _ (length_viewL f 1 self hs) 1

theorem set_same {C : Array Value} {i : Nat} {u : Value} (h : C[i]? = some u) : C.setIfInBounds i u = C := by
  apply Array.ext_getElem?
  intro j
  by_cases e : i = j
  · subst e
    rw [Array.getElem?_setIfInBounds_self_of_lt (Array.getElem?_eq_some_iff.1 h).1, h]
  · rw [Array.getElem?_setIfInBounds_ne e]
def vXY (vx vy : Value) (i : Nat) : Value := if i = 0 then vx else if i = 1 then vy else .slice none 0 0
theorem rows2 {W : World} {base X Y nr : Nat} {self : List UInt8} (rx : Rw W base (.slice (some ⟨X, 0, none⟩) 1 1) [self]) (ry : Rw W base (.slice (some ⟨Y, 0, none⟩) 1 1) [self]) (h : X ≠ Y) (hn : 1 < nr) : Rows W base (vXY (.slice (some ⟨X, 0, none⟩) 1 1) (.slice (some ⟨Y, 0, none⟩) 1 1)) (ids0 nr self) := by
  refine ⟨fun i => ?_, fun i j hij k hk => ?_⟩
  · unfold vXY ids0
    by_cases e0 : i = 0
    · simp only [if_pos e0]; exact rx
    · by_cases e1 : i = 1
      · simp only [if_neg e0, if_pos e1, if_pos (And.intro e1 hn)]; exact ry
      · simp only [if_neg e0, if_neg e1, if_neg (fun h : i = 1 ∧ 1 < nr => e1 h.1)]; exact Rw.nil _ _
  · unfold vXY at hk ⊢
    by_cases e0 : i = 0
    · have f0 : j ≠ 0 := fun e => hij (e0.trans e.symm)
      simp [e0, Value.ownBlock] at hk
      subst hk
      by_cases f1 : j = 1
      · simp [f1, Value.ownBlock]; exact Ne.symm h
      · simp [f0, f1, Value.ownBlock]
    · by_cases e1 : i = 1
      · simp [e1, Value.ownBlock] at hk
        subst hk
        by_cases f0 : j = 0
        · simp [f0, Value.ownBlock]; exact h
        · have f1 : j ≠ 1 := fun e => hij (e1.trans e.symm)
          simp [f0, f1, Value.ownBlock]
      · simp [e0, e1, Value.ownBlock] at hk
theorem rows1 {W : World} {base X nr : Nat} {self : List UInt8} (rx : Rw W base (.slice (some ⟨X, 0, none⟩) 1 1) [self]) (hn : ¬ 1 < nr) : Rows W base (vXY (.slice (some ⟨X, 0, none⟩) 1 1) (.slice none 0 0)) (ids0 nr self) := by
  refine ⟨fun i => ?_, fun i j hij k hk => ?_⟩
  · unfold vXY ids0
    by_cases e0 : i = 0
    · simp only [if_pos e0]; exact rx
    · simp only [if_neg e0, if_neg (fun h : i = 1 ∧ 1 < nr => hn h.2)]
      split <;> exact Rw.nil _ _
  · unfold vXY at hk ⊢
    by_cases e0 : i = 0
    · have f0 : j ≠ 0 := fun e => hij (e0.trans e.symm)
      simp [f0, Value.ownBlock]
    · simp only [if_neg e0] at hk
      split at hk <;> simp [Value.ownBlock] at hk
end Go.Proofs.Ybulkapqu
