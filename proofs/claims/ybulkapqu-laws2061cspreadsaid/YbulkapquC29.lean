import Derived.Test.YbulkapquC28
namespace Go.Proofs.Ybulkapqu
open Go.RowKit Go.Sort

/-! ### The cells of a new membership -/
def mbA (net : Value) (self : List UInt8) (rs : Value) : List Value := net :: (idV self ++ [rs, .pointer none, .nilFunc, .int .u64 1, .pointer none])
def memV (net : Value) (self : List UInt8) (rs : Value) (K T : List Value) : List Value := mbA net self rs ++ (K ++ T)
theorem length_mbA (net : Value) (self : List UInt8) (hs : self.length = 20) (rs : Value) : (mbA net self rs).length = 26 := by simp [mbA, length_idV, hs]
theorem mem_self (net : Value) (self : List UInt8) (rs : Value) (K T : List Value) (j : Nat) (x : Value) (h : (idV self)[j]? = some x) : (memV net self rs K T)[1 + j]? = some x := by
  have hj := (List.getElem?_eq_some_iff.1 h).1
  unfold memV mbA
  rw [List.cons_append, Nat.add_comm, List.getElem?_cons_succ, List.append_assoc, List.getElem?_append_left hj]
  exact h
theorem mem_get (net : Value) (self : List UInt8) (hs : self.length = 20) (rs : Value) (K T : List Value) (k : Nat) : (memV net self rs K T)[21 + k]? = ([rs, .pointer none, .nilFunc, .int .u64 1, .pointer none] ++ (K ++ T))[k]? := by
  unfold memV mbA
  rw [List.cons_append, show 21 + k = (20 + k) + 1 by omega, List.getElem?_cons_succ, List.append_assoc, List.getElem?_append_right (by rw [length_idV, hs]; omega), length_idV, hs, show 20 + k - 20 = k by omega]
theorem mem_set (net : Value) (self : List UInt8) (hs : self.length = 20) (rs rs' : Value) (K T : List Value) : (memV net self rs K T).set 21 rs' = memV net self rs' K T := by
  unfold memV mbA
  rw [List.cons_append, List.set_cons_succ, List.append_assoc, List.set_append_right _ _ (by rw [length_idV, hs]; omega), length_idV, hs]
  simp
set_option maxRecDepth 100000 in
theorem builtMem' (TR : Nat) (b0 b1 b2 b3 b4 b5 b6 b7 b8 b9 b10 b11 b12 b13 b14 b15 b16 b17 b18 b19 : UInt8) : ∃ e T : List Value, Yba.prog.built 94 [(0, .int .u8 18), (2, .agg (idV [b0, b1, b2, b3, b4, b5, b6, b7, b8, b9, b10, b11, b12, b13, b14, b15, b16, b17, b18, b19]).toArray)] = some e.toArray ∧ Yba.prog.built 98 [(0, .iface 52 (.pointer (some ⟨TR, 0, none⟩))), (1, .agg (idV [b0, b1, b2, b3, b4, b5, b6, b7, b8, b9, b10, b11, b12, b13, b14, b15, b16, b17, b18, b19]).toArray), (5, .int .u64 1), (6, .pointer none), (8, .agg e.toArray)] = some (memV (.iface 52 (.pointer (some ⟨TR, 0, none⟩))) [b0, b1, b2, b3, b4, b5, b6, b7, b8, b9, b10, b11, b12, b13, b14, b15, b16, b17, b18, b19] (.slice none 0 0) z79 T).toArray :=
  ⟨((Yba.prog.built 94 [(0, .int .u8 18), (2, .agg (idV [b0, b1, b2, b3, b4, b5, b6, b7, b8, b9, b10, b11, b12, b13, b14, b15, b16, b17, b18, b19]).toArray)]).getD #[]).toList, ((Yba.prog.built 98 [(8, .agg ((Yba.prog.built 94 [(0, .int .u8 18), (2, .agg (idV [b0, b1, b2, b3, b4, b5, b6, b7, b8, b9, b10, b11, b12, b13, b14, b15, b16, b17, b18, b19]).toArray)]).getD #[]))]).getD #[]).toList.drop 65, by kernel_rfl, by kernel_rfl⟩
theorem builtMem (TR : Nat) (l : List UInt8) (hl : l.length = 20) : ∃ e T : List Value, Yba.prog.built 94 [(0, .int .u8 18), (2, .agg (idV l).toArray)] = some e.toArray ∧ Yba.prog.built 98 [(0, .iface 52 (.pointer (some ⟨TR, 0, none⟩))), (1, .agg (idV l).toArray), (5, .int .u64 1), (6, .pointer none), (8, .agg e.toArray)] = some (memV (.iface 52 (.pointer (some ⟨TR, 0, none⟩))) l (.slice none 0 0) z79 T).toArray := by
  match l, hl with
  | [b0, b1, b2, b3, b4, b5, b6, b7, b8, b9, b10, b11, b12, b13, b14, b15, b16, b17, b18, b19], _ => exact builtMem' TR b0 b1 b2 b3 b4 b5 b6 b7 b8 b9 b10 b11 b12 b13 b14 b15 b16 b17 b18 b19
theorem info107 : (Yba.prog.info? 107).map (fun i => (i.zero.isSome, i.size, decide (i.bytes ≤ 1000))) = some (true, 47, true) := by kernel_rfl
theorem mk_rings (nr : Nat) (hnr : nr ≤ 2) (W : World) : ∃ C, C.size = nr * 47 ∧ (Instr.makeSlice 62 (.int .i64 (nr : Int)) (.int .i64 (nr : Int))).run Yba.prog W = .ok (.slice (some ⟨W.heap.size, 0, none⟩) nr nr) (W.alloc (.cells C 107)) := by
  obtain ⟨i, hi, h⟩ := Option.map_eq_some_iff.1 info107
  simp at h
  obtain ⟨h1, hs, hb⟩ := h
  obtain ⟨z, hz⟩ := Option.isSome_iff_exists.1 h1
  have h1 : nr * i.size ≤ 2 * 47 := by rw [hs]; exact Nat.mul_le_mul_right _ hnr
  have h2 : i.bytes * nr ≤ 1000 * 2 := Nat.mul_le_mul hb hnr
  have h2' : (i.bytes : Int) * (nr : Int) ≤ 2000 := by
    rw [← Int.natCast_mul]
    generalize i.bytes * nr = q at h2
    omega
  have := run_makeSlice (P := Yba.prog) W 62 107 i z Yba.underlying62 hi hz .i64 .i64 (nr : Int) (nr : Int) (by omega) (Int.le_refl _) (by rw [Int.toNat_natCast]; omega) (by omega) (by omega)
  rw [Int.toNat_natCast] at this
  exact ⟨_, by rw [hs]; simp [madeCells], this⟩

/-! ### The rings' cells -/
def ringsV (f : Nat) (self : List UInt8) (r : Nat) : List Value := ((List.range r).map fun i => rsV (viewL f i self)).flatten
theorem ringsV_succ (f : Nat) (self : List UInt8) (r : Nat) : ringsV f self (r + 1) = ringsV f self r ++ rsV (viewL f r self) := by
  unfold ringsV
  rw [List.range_succ, List.map_append, List.flatten_append]
  simp
theorem length_ringsV (f : Nat) (self : List UInt8) (hs : self.length = 20) : ∀ r, (ringsV f self r).length = r * 47
  | 0 => rfl
  | r + 1 => by rw [ringsV_succ, List.length_append, length_ringsV f self hs r, length_rsV _ (length_viewL _ _ _ hs)]; omega
theorem ringsV_get (f : Nat) (self : List UInt8) (hs : self.length = 20) : ∀ (n r : Nat), r < n → ∀ (j : Nat), j < 47 → (ringsV f self n)[r * 47 + j]? = (rsV (viewL f r self))[j]?
  | 0, _, h, _, _ => by omega
  | n + 1, r, h, j, hj => by
    have hl := length_ringsV f self hs n
    rw [ringsV_succ]
    by_cases e : r = n
    · subst e
      rw [List.getElem?_append_right (by omega), hl, show r * 47 + j - r * 47 = j by omega]
    · have hrn : (r + 1) * 47 ≤ n * 47 := Nat.mul_le_mul_right 47 (by omega)
      rw [List.getElem?_append_left (by rw [hl]; omega)]
      exact ringsV_get f self hs n r (by omega) j hj
theorem rsV_id (l : List UInt8) (j : Nat) (x : Value) (h : (idV l)[j]? = some x) : (rsV l)[j]? = some x := by
  have hj := (List.getElem?_eq_some_iff.1 h).1
  unfold rsV leafV
  rw [List.append_assoc, List.getElem?_append_left hj]
  exact h
theorem rsV_get (l : List UInt8) (hl : l.length = 20) (k : Nat) : (rsV l)[20 + k]? = ([Value.int .i64 2, .slice none 0 0, .slice none 0 0] ++ (tabV l ++ [.pointer none, .slice none 0 0, .slice none 0 0]))[k]? := by
  unfold rsV leafV
  rw [List.append_assoc, List.getElem?_append_right (by rw [length_idV, hl]; omega), length_idV, hl, show 20 + k - 20 = k by omega]
theorem rsV_grp (l : List UInt8) (hl : l.length = 20) (k : Nat) : (rsV l)[44 + k]? = [Value.pointer none, .slice none 0 0, .slice none 0 0][k]? := by
  unfold rsV
  rw [List.getElem?_append_right (by rw [length_leafV l hl]; omega), length_leafV l hl, List.getElem?_append_right (by rw [length_tabV l hl]; omega), length_tabV l hl, show 44 + k - 23 - 21 = k by omega]

/-! ### The state of newMembership -/
structure NMb (w : World) (S : Nat) (sl : List UInt8) (net : Value) (L : Array Value) (rs : Value) (K : List Value) (W : World) : Prop where
  gr : Gr w W
  i : At W S (idV sl).toArray 37
  m : ∃ T, At W (S + 1) (memV net sl rs K T).toArray 98
  l : At W (S + 1 + 1) L 51
theorem NMb.step {w : World} {S : Nat} {self : List UInt8} {net : Value} {L : Array Value} {rs : Value} {K : List Value} {W W' : World} (h : NMb w S self net L rs K W) (g : Gr W W') : NMb w S self net L rs K W' := by
  obtain ⟨T, a⟩ := h.m
  exact ⟨h.gr.trans g, h.i.gr g, ⟨T, a.gr g⟩, h.l.gr g⟩
theorem NMb.c21 {w : World} {S : Nat} {self : List UInt8} {net : Value} {L : Array Value} {rs : Value} {K : List Value} {W : World} (h : NMb w S self net L rs K W) (hs : self.length = 20) : W.cell? ⟨S + 1, 21, none⟩ = some rs := by
  obtain ⟨T, a⟩ := h.m
  rw [a.cell]
  have := mem_get net self hs rs K T 0
  simpa using this
theorem NMb.f21 {w : World} {S : Nat} {self : List UInt8} {net : Value} {L : Array Value} {rs : Value} {K : List Value} {W : World} (h : NMb w S self net L rs K W) (o : Nat) : W.frozen? ⟨S + 1, o, none⟩ = false := by
  obtain ⟨T, a⟩ := h.m
  exact a.frozen o
theorem NMb.rings {w : World} {S : Nat} {self : List UInt8} {net : Value} {L : Array Value} {rs : Value} {K : List Value} {W : World} (h : NMb w S self net L rs K W) (hS : S = w.heap.size) (hs : self.length = 20) (rs' : Value) : NMb w S self net L rs' K (W.setCell ⟨S + 1, 21, none⟩ rs') := by
  obtain ⟨T, a⟩ := h.m
  refine ⟨h.gr.setCell _ _ (by show w.heap.size ≤ S + 1; omega), h.i.setOther _ _ (by show S ≠ S + 1; omega), ⟨T, ?_⟩, h.l.setOther _ _ (by show S + 1 + 1 ≠ S + 1; omega)⟩
  have := a.set 21 rs'
  rwa [List.setIfInBounds_toArray, mem_set net self hs] at this
theorem NMb.keep {w : World} {S : Nat} {self : List UInt8} {net : Value} {L : Array Value} {rs : Value} {K : List Value} {W : World} (h : NMb w S self net L rs K W) (hS : S = w.heap.size) (hs : self.length = 20) (K' : List Value) (hK : K'.length = K.length) : NMb w S self net L rs K' (W.setCells (S + 1) 26 K') := by
  obtain ⟨T, a⟩ := h.m
  exact ⟨Gr.setCells _ (by omega) _ _ _ h.gr, h.i.setsOther (by omega) _ _, ⟨T, a.mid K' hK 26 (length_mbA net self hs rs).symm⟩, h.l.setsOther (by omega) _ _⟩
theorem NMb.there {w : World} {S : Nat} {self : List UInt8} {net : Value} {L : Array Value} {rs : Value} {K : List Value} {W : World} (h : NMb w S self net L rs K W) (hs : self.length = 20) (o n : Nat) (hn : o + n ≤ 26 + K.length) : W.there (S + 1) o n := by
  obtain ⟨T, a⟩ := h.m
  exact a.there o n (by unfold memV; rw [List.length_append, length_mbA net self hs rs, List.length_append]; omega)
/-- The identifier within the keeping. -/
theorem NMb.rev {w : World} {S : Nat} {self : List UInt8} {net : Value} {L : Array Value} {rs : Value} {W : World} {nr st de su wa p5 p7 e8 i9 s11 : Nat} (h : NMb w S self net L rs (keepV nr st de su wa p5 p7 e8 i9 s11 z20) W) (hS : S = w.heap.size) (hs : self.length = 20) : NMb w S self net L rs (keepV nr st de su wa p5 p7 e8 i9 s11 self) (W.setCells (S + 1) 43 (idV self)) := by
  obtain ⟨T, a⟩ := h.m
  refine ⟨Gr.setCells _ (by omega) _ _ _ h.gr, h.i.setsOther (by omega) _ _, ⟨T, ?_⟩, h.l.setsOther (by omega) _ _⟩
  unfold memV keepV at a ⊢
  rw [List.append_assoc, List.append_assoc, ← List.append_assoc (mbA net self rs)] at a ⊢
  exact a.mid (idV self) (by rw [length_idV, length_idV, hs]; rfl) 43 (by rw [List.length_append, length_mbA net self hs rs]; rfl)
end Go.Proofs.Ybulkapqu
