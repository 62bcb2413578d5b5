import Derived.Test.YbulkapquA3
import Derived.Test.YbulkapquA0
import Derived.Laws.Rows
import Derived.Laws.NewBlocks
namespace Go.Proofs.Ybulkapqu
open Go.RowKit Go.Sort

/-! ### Blocks written out -/
def At (w : World) (b : Nat) (C : Array Value) (t : TypeId) : Prop := w.heap[b]? = some (.cells C t (0, 0))
theorem At.lt {w : World} {b : Nat} {C : Array Value} {t : TypeId} (h : At w b C t) : b < w.heap.size := (Array.getElem?_eq_some_iff.1 h).1
theorem At.of_heap {w w' : World} {b : Nat} {C : Array Value} {t : TypeId} (h : At w b C t) (e : w'.heap[b]? = w.heap[b]?) : At w' b C t := e.trans h
theorem At.ne {w : World} {b b' : Nat} {C C' : Array Value} {t t' : TypeId} (h : At w b C t) (h' : At w b' C' t') (hne : t ≠ t') : b ≠ b' := by
  rintro rfl
  have e := h.symm.trans h'
  simp at e
  exact hne e.2
theorem At.new (w : World) (C : Array Value) (t : TypeId) : At (w.alloc (.cells C t)) w.heap.size C t := heap_alloc_new w _
theorem At.alloc {w : World} {b : Nat} {C : Array Value} {t : TypeId} (h : At w b C t) (o : Obj) : At (w.alloc o) b C t := (Below.heap_alloc w o b h.lt).trans h
theorem At.drewN {w : World} {b : Nat} {C : Array Value} {t : TypeId} (h : At w b C t) (q : Nat) : At (w.drewN q) b C t := h
theorem At.gr {w w' : World} {b : Nat} {C : Array Value} {t : TypeId} (h : At w b C t) (g : Gr w w') : At w' b C t := (g.heap h.lt).trans h
theorem At.set {w : World} {b : Nat} {C : Array Value} {t : TypeId} (h : At w b C t) (j : Nat) (v : Value) : At (w.setCell ⟨b, j, none⟩ v) b (C.setIfInBounds j v) t := by
  show (w.setCell ⟨b, j, none⟩ v).heap[b]? = _
  have h' : w.heap[b]? = _ := h
  simp only [World.setCell, Array.getElem?_modify, h']
  simp
theorem At.setOther {w : World} {b : Nat} {C : Array Value} {t : TypeId} (h : At w b C t) (a : Addr) (v : Value) (hne : b ≠ a.block) : At (w.setCell a v) b C t := (Below.heap_setCell _ _ _ _ hne).trans h
theorem At.cell {w : World} {b : Nat} {C : Array Value} {t : TypeId} (h : At w b C t) (j : Nat) : w.cell? ⟨b, j, none⟩ = C[j]? := cell_of_row w b j C t _ h
theorem At.frozen {w : World} {b : Nat} {C : Array Value} {t : TypeId} (h : At w b C t) (j : Nat) : w.frozen? ⟨b, j, none⟩ = false := frozen_of_row w b j C t h

theorem Gr.below {w w' : World} (h : Gr w w') (B : Nat) (hB : B ≤ w.heap.size) : Below B w w' := by
  obtain ⟨q, os, rfl⟩ := h
  refine ⟨rfl, rfl, rfl, by rw [size_grow]; exact Nat.le_add_right _ _, fun k hk => heap_grow_old _ _ (Nat.lt_of_lt_of_le hk hB)⟩

/-- An integer's cell. -/
def nv (x : Nat) : Value := .int .i64 (x : Int)

/-- Identifiers in a block, twenty cells each. -/
structure IdsAt (w : World) (B : Nat) (ids : List (List UInt8)) : Prop where
  blk : ∃ C, At w B C 37
  len : ∀ l ∈ ids, l.length = 20
  row : ∀ (i : Nat) (l : List UInt8), ids[i]? = some l → w.rangeAt B (i * 20) (idV l)
theorem IdsAt.lt {w : World} {B : Nat} {ids : List (List UInt8)} (h : IdsAt w B ids) : B < w.heap.size := by obtain ⟨C, hC⟩ := h.blk; exact hC.lt
theorem IdsAt.of_heap {w w' : World} {B : Nat} {ids : List (List UInt8)} (h : IdsAt w B ids) (e : w'.heap[B]? = w.heap[B]?) : IdsAt w' B ids := by
  obtain ⟨C, hC⟩ := h.blk
  exact ⟨⟨C, hC.of_heap e⟩, h.len, fun i l hl j v hv => (World.cell?_of_block (w := w) e).trans (h.row i l hl j v hv)⟩
theorem IdsAt.gr {w w' : World} {B : Nat} {ids : List (List UInt8)} (h : IdsAt w B ids) (g : Gr w w') : IdsAt w' B ids := h.of_heap (g.heap h.lt)
theorem IdsAt.alloc {w : World} {B : Nat} {ids : List (List UInt8)} (h : IdsAt w B ids) (o : Obj) : IdsAt (w.alloc o) B ids := h.of_heap (Below.heap_alloc _ _ _ h.lt)

/-- The numbers' row: 'cap' cells, the first of them the numbers. -/
def RowAt (w : World) (R : Nat) (xs : List Nat) (cap : Nat) : Prop := ∃ sp : List Value, At w R (xs.map nv ++ sp).toArray 3 ∧ xs.length + sp.length = cap

def val (ids : List (List UInt8)) (i : Nat) : Nat := Lib.beNat (ids.getD i [])

theorem info_parts {e : Nat} {z : Value} {size bytes : Nat} (h : (Yba.prog.info? e).map (fun i => (i.zero, i.size, i.bytes)) = some (some z, size, bytes)) : ∃ i, Yba.prog.info? e = some i ∧ i.zero = some z ∧ i.size = size ∧ i.bytes = bytes := by
  cases hi : Yba.prog.info? e with
  | none => rw [hi] at h; simp at h
  | some i => rw [hi] at h; simp at h; exact ⟨i, rfl, h.1, h.2.1, h.2.2⟩
theorem info3 : (Yba.prog.info? 3).map (fun i => (i.zero, i.size, i.bytes)) = some (some (.int .i64 0), 1, 8) := by kernel_rfl

theorem mk_order (n : Nat) (hn : n ≤ 1000000) (w : World) : (Instr.makeSlice 26 (.int .i64 (n : Int)) (.int .i64 (n : Int))).run Yba.prog w = .ok (.slice (some ⟨w.heap.size, 0, none⟩) n n) (w.alloc (.cells (List.replicate n (nv 0)).toArray 3)) := by
  obtain ⟨i0, hi0, hz0, hz1, hz2⟩ := info_parts info3
  have h := run_make (P := Yba.prog) w 26 3 i0 _ Yba.underlying26 hi0 hz0 .i64 .i64 n n (by omega) (by omega) (by rw [hz2]; omega) (by omega)
  rw [hz1] at h
  simp only [Int.toNat_natCast, Nat.mul_one] at h
  rw [h]
  have e : madeCells (Value.cells (.int .i64 0)) n = (List.replicate n (nv 0)).toArray := by
    have := toList_madeCells_one (nv 0) n
    have h2 : (madeCells #[nv 0] n).toList.toArray = (List.replicate n (nv 0)).toArray := by rw [this]
    simpa [Value.cells, nv] using h2
  rw [e]

/-! ### The sort of the numbers -/
def encF {n : Nat} (x : Fin n) : Value := nv x.val
theorem oneCell_encF {n : Nat} : OneCell (encF (n := n)) := by
  intro x
  rfl

theorem sortWorld_heap {α : Type} [Inhabited α] (enc : α → Value) (w : World) (blk off m : Nat) (d : Array α) (os : Array Obj) (k : Nat) (hk : k < w.heap.size) (hne : k ≠ blk) : (sortWorld enc w blk off m d os).heap[k]? = w.heap[k]? := by
  unfold sortWorld
  rw [heap_grow_old _ _ (by simpa [putRow, mapBlock, Sort.ahead] using hk)]
  simp only [putRow, mapBlock, Array.getElem?_modify]
  rw [if_neg (fun e => hne e.symm)]
  rfl
theorem sortWorld_at {α : Type} [Inhabited α] (enc : α → Value) (w : World) (blk m : Nat) (d : Array α) (os : Array Obj) (C : Array Value) (t : TypeId) (h : At w blk C t) (hs : C.size = d.size) : At (sortWorld enc w blk 0 m d os) blk (d.toList.map enc).toArray t := by
  have hk := h.lt
  unfold sortWorld At
  rw [heap_grow_old _ _ (by simpa [putRow, mapBlock, Sort.ahead] using hk)]
  simp only [putRow, mapBlock, Array.getElem?_modify]
  rw [if_pos trivial, show (Sort.ahead w m).heap[blk]? = _ from h]
  simp only [Option.map_some, onCells]
  congr 2
  apply Array.ext
  · simp [putCells, hs]
  · intro i h1 h2
    have hi : i < d.size := by simpa [putCells, hs] using h1
    simp [putCells, hi]
theorem sortWorld_grownBy {α : Type} [Inhabited α] (enc : α → Value) (w : World) (blk off m : Nat) (d : Array α) (os : Array Obj) : w.grownBy (sortWorld enc w blk off m d os) (some blk) :=
  ⟨rfl, rfl, rfl, by simp [sortWorld, putRow, mapBlock, Sort.ahead, size_grow], fun k hk hne => sortWorld_heap enc w blk off m d os k hk (fun e => hne (by rw [e]))⟩

def cfI (ids : List (List UInt8)) (x y : Nat) : Int := Lib.compareBytes (ids.getD x []) (ids.getD y [])
theorem cfI_lt {ids : List (List UInt8)} (hl : ∀ l ∈ ids, l.length = 20) {x y : Nat} (hx : x < ids.length) (hy : y < ids.length) : cfI ids x y < 0 ↔ val ids x < val ids y := by
  refine cmp_lt _ _ ?_
  rw [List.getD_eq_getElem?_getD, List.getD_eq_getElem?_getD, List.getElem?_eq_getElem hx, List.getElem?_eq_getElem hy]
  exact (hl _ (List.getElem_mem hx)).trans (hl _ (List.getElem_mem hy)).symm
theorem cfI_zero {ids : List (List UInt8)} (hl : ∀ l ∈ ids, l.length = 20) {x y : Nat} (hx : x < ids.length) (hy : y < ids.length) : cfI ids x y = 0 ↔ val ids x = val ids y := by
  refine cmp_zero _ _ ?_
  rw [List.getD_eq_getElem?_getD, List.getD_eq_getElem?_getD, List.getElem?_eq_getElem hx, List.getElem?_eq_getElem hy]
  exact (hl _ (List.getElem_mem hx)).trans (hl _ (List.getElem_mem hy)).symm

theorem sort_calls (w : World) (O B R n c : Nat) (s2 : Value) (ids : List (List UInt8)) (hI : IdsAt w B ids) (hlen : ids.length = n) (hn0 : 0 < n) (hn : n ≤ 1000000)
    (hO : At w O #[.slice (some ⟨B, 0, none⟩) n c, s2] 28) (hR : At w R ((List.range n).map nv).toArray 3) :
    Calls Yba.prog 28 #[.slice (some ⟨R, 0, none⟩) n n, .func (.func 29) #[] #[.pointer (some ⟨O, 0, none⟩)]] w fun e w' => e = .returned (.tuple #[]) ∧ ∃ xs : List Nat, At w' R (xs.map nv).toArray 3 ∧ xs.length = n ∧
      xs.Perm (List.range n) ∧ xs.Pairwise (fun a b => val ids a ≤ val ids b) ∧ w.grownBy w' (some R) := by
  letI : Inhabited (Fin n) := ⟨⟨0, hn0⟩⟩
  obtain ⟨d, hd⟩ : ∃ d : Array (Fin n), d = (List.finRange n).toArray := ⟨_, rfl⟩
  have hds : d.size = n := by simp [hd]
  have hdg : ∀ j (hj : j < d.size), (d[j]!).val = j := fun j hj => by
    rw [getElem!_pos d j hj]
    simp [hd]
  have hOR : O ≠ R := hO.ne hR (by decide)
  have hBR : B ≠ R := by obtain ⟨C, hC⟩ := hI.blk; exact hC.ne hR (by decide)
  have hw : SWO (ltOf (fun x y : Fin n => cfI ids x.val y.val)) := by
    have key : ∀ x y : Fin n, ltOf (fun x y : Fin n => cfI ids x.val y.val) x y = decide (val ids x.val < val ids y.val) := fun x y => by
      unfold ltOf
      exact decide_eq_decide.2 (cfI_lt hI.len (by have := x.isLt; omega) (by have := y.isLt; omega))
    refine ⟨fun x => ?_, fun x y z => ?_, fun x y z => ?_⟩
    · rw [key]; simp
    · rw [key, key, key]; simp only [decide_eq_true_eq]; omega
    · rw [key, key, key]; simp only [decide_eq_false_iff_not]; omega
  have hc : CmpLays1 Yba.prog 29 #[.pointer (some ⟨O, 0, none⟩)] encF (fun x y : Fin n => cfI ids x.val y.val) R 0 d.size w := fun m os dk hs x y => by
    obtain ⟨W, hW⟩ : ∃ W, W = sortWorld encF w R 0 m dk os := ⟨_, rfl⟩
    rw [← hW]
    have g : w.grownBy W (some R) := hW ▸ sortWorld_grownBy encF w R 0 m dk os
    have hO' : At W O _ 28 := hO.of_heap (g.block O hO.lt (fun e => hOR (by simpa using e)))
    have hI' : IdsAt W B ids := hI.of_heap (g.block B hI.lt (fun e => hBR (by simpa using e)))
    have hx : ids[x.val]? = some (ids.getD x.val []) := by rw [List.getD_eq_getElem?_getD, List.getElem?_eq_getElem (by have := x.isLt; omega)]; rfl
    have hy : ids[y.val]? = some (ids.getD y.val []) := by rw [List.getD_eq_getElem?_getD, List.getElem?_eq_getElem (by have := y.isLt; omega)]; rfl
    exact clo_calls W O B n c ids hlen hI.len hO'.lt hI'.lt (hO'.cell 0) hI'.row x.val y.val _ _ hx hy
  have hH : Holds encF w R 0 d := fun j hj => by
    refine ⟨?_, hR.frozen _⟩
    rw [hR.cell, encF, hdg j hj]
    have : j < n := by omega
    simp [this]
  have := Yba.slices_SortFunc encF oneCell_encF (fun x y : Fin n => cfI ids x.val y.val) hw 29 #[.pointer (some ⟨O, 0, none⟩)] R 0 n d w (enters_of Yba.func29 (by kernel_rfl) rfl) hc hH hR.lt (by omega)
  rw [hds] at this
  refine this.mono ?_
  rintro e w' ⟨rfl, d', q, os, hp, hsd, rfl⟩
  have hs' : d'.size = n := hp.1.trans hds
  refine ⟨rfl, d'.toList.map Fin.val, ?_, by simp [hs'], ?_, ?_, sortWorld_grownBy _ _ _ _ _ _ _⟩
  · have := sortWorld_at encF w R q d' os _ 3 hR (by simp [hs'])
    rw [List.map_map]
    exact this
  · have h1 := hp.2.2
    have e1 : d'.extract 0 n = d' := by
      have : d'.extract 0 d'.size = d' := by simp
      rwa [hs'] at this
    have e2 : d.extract 0 n = d := by
      have : d.extract 0 d.size = d := by simp
      rwa [hds] at this
    rw [e1, e2] at h1
    have h2 := h1.map Fin.val
    rw [hd] at h2
    have e3 : (List.finRange n).map Fin.val = List.range n := List.ext_getElem (by simp) (by intro i h1 h2; simp)
    rw [List.toList_toArray, e3] at h2
    exact h2
  · rw [List.pairwise_iff_getElem]
    intro i j hi hj hij
    have hi' : i < d'.size := by simpa using hi
    have hj' : j < d'.size := by simpa using hj
    have := hsd i j (Nat.zero_le _) hij (by omega)
    rw [getElem!_pos d' i hi', getElem!_pos d' j hj'] at this
    simp only [ltOf, decide_eq_false_iff_not] at this
    rw [cfI_lt hI.len (by have := (d'[j]).isLt; omega) (by have := (d'[i]).isLt; omega)] at this
    simpa using this

theorem fill_step (n k : Nat) (hk : k < n) : ((List.range k).map nv ++ List.replicate (n - k) (nv 0)).toArray.setIfInBounds k (nv k) = ((List.range (k + 1)).map nv ++ List.replicate (n - (k + 1)) (nv 0)).toArray := by
  obtain ⟨r, hr⟩ : ∃ r, n - k = r + 1 := ⟨n - k - 1, by omega⟩
  have hr' : n - (k + 1) = r := by omega
  rw [hr, hr']
  apply Array.ext_getElem?
  intro i
  rw [Array.getElem?_setIfInBounds]
  simp only [List.getElem?_toArray, List.size_toArray, List.length_append, List.length_map, List.length_range, List.length_replicate]
  rw [List.range_succ, List.map_append, List.append_assoc]
  by_cases e : k = i
  · subst e
    rw [if_pos rfl, if_pos (by omega), List.getElem?_append_right (by simp)]
    simp
  · rw [if_neg e]
    by_cases h : i < k
    · rw [List.getElem?_append_left (by simpa using h), List.getElem?_append_left (by simpa using h)]
    · rw [List.getElem?_append_right (by simp; omega), List.getElem?_append_right (by simp; omega)]
      simp only [List.length_map, List.length_range, List.map_cons, List.map_nil, List.cons_append, List.nil_append, List.replicate_succ]
      obtain ⟨j, hj⟩ : ∃ j, i - k = j + 1 := ⟨i - k - 1, by omega⟩
      rw [hj]
      simp

def NRInv (w : World) (B n c : Nat) (ids : List (List UInt8)) (k : Nat) (wr : World) : Prop :=
  At wr (w.heap.size + 1) ((List.range k).map nv ++ List.replicate (n - k) (nv 0)).toArray 3 ∧
  At wr (w.heap.size + 1 + 1) #[.slice (some ⟨B, 0, none⟩) n c, .slice (some ⟨w.heap.size + 1, 0, none⟩) n n] 28 ∧
  At wr w.heap.size #[.slice none 0 0, .slice none 0 0] 28 ∧ IdsAt wr B ids ∧ Below w.heap.size w wr
theorem nrinv_start (w : World) (B n c : Nat) (ids : List (List UInt8)) (hI : IdsAt w B ids) :
    NRInv w B n c ids 0 (((w.alloc (.cells #[.slice none 0 0, .slice none 0 0] 28)).alloc (.cells (List.replicate n (nv 0)).toArray 3)).alloc (.cells #[.slice (some ⟨B, 0, none⟩) n c, .slice (some ⟨w.heap.size + 1, 0, none⟩) n n] 28)) := by
  have h1 := At.new (w.alloc (.cells #[.slice none 0 0, .slice none 0 0] 28)) (List.replicate n (nv 0)).toArray 3
  rw [World.size_alloc] at h1
  have h2 := At.new ((w.alloc (.cells #[.slice none 0 0, .slice none 0 0] 28)).alloc (.cells (List.replicate n (nv 0)).toArray 3)) #[.slice (some ⟨B, 0, none⟩) n c, .slice (some ⟨w.heap.size + 1, 0, none⟩) n n] 28
  rw [World.size_alloc, World.size_alloc] at h2
  refine ⟨by simpa using h1.alloc _, h2, ((At.new w _ _).alloc _).alloc _, ((hI.alloc _).alloc _).alloc _, ?_⟩
  exact (((Below.refl _ _).alloc (Nat.le_refl _) _).alloc (by rw [World.size_alloc]; omega) _).alloc (by rw [World.size_alloc, World.size_alloc]; omega) _
theorem NRInv.step {w : World} {B n c : Nat} {ids : List (List UInt8)} {k : Nat} {wr : World} (h : NRInv w B n c ids k wr) (hk : k < n) : NRInv w B n c ids (k + 1) (wr.setCell ⟨w.heap.size + 1, k, none⟩ (.int .i64 (k : Int))) := by
  obtain ⟨h1, h2, h3, h4, h5⟩ := h
  have hB : B ≠ w.heap.size + 1 := by obtain ⟨C, hC⟩ := h4.blk; exact hC.ne h1 (by decide)
  refine ⟨?_, h2.setOther _ _ (by simp), h3.setOther _ _ (by simp), h4.of_heap (Below.heap_setCell _ _ _ _ hB), h5.setCell (by simp) _⟩
  have := h1.set k (nv k)
  rw [fill_step n k hk] at this
  exact this

set_option maxHeartbeats 4000000 in
set_option maxRecDepth 1000000 in
theorem newRing_calls (w : World) (B n c : Nat) (ids : List (List UInt8)) (hI : IdsAt w B ids) (hlen : ids.length = n) (hn0 : 0 < n) (hn : n ≤ 1000000) :
    Calls Yba.prog 9 #[.slice (some ⟨B, 0, none⟩) n c] w fun e w' => ∃ (R : Nat) (xs : List Nat), e = .returned (.agg #[.slice (some ⟨B, 0, none⟩) n c, .slice (some ⟨R, 0, none⟩) n n]) ∧ w.heap.size ≤ R ∧ Below w.heap.size w w' ∧ At w' R (xs.map nv).toArray 3 ∧ xs.length = n ∧
      xs.Perm (List.range n) ∧ xs.Pairwise (fun a b => val ids a ≤ val ids b) := by
  have mixed : Yba.prog.follows .mixedOrders = true := by kernel_rfl
  have hmk := mk_order n hn
  have HI := hide (nrinv_start w B n c ids hI)
  generalize hZ : (List.replicate n (nv 0)).toArray = Z at hmk HI
  clear hZ hI
  go_enter Yba.func9, Yba.ntmps9
  go_wp2
  have HI' := HI.out
  clear HI hmk
  generalize (((w.alloc (Obj.cells #[Value.slice none 0 0, Value.slice none 0 0] 28)).alloc (Obj.cells Z 3)).alloc (Obj.cells #[Value.slice (some { block := B, off := 0 }) n c, Value.slice (some { block := w.heap.size + 1, off := 0 }) n n] 28)) = W0 at HI' ⊢
  obtain ⟨S, hS⟩ : ∃ S, S = w.heap.size := ⟨_, rfl⟩
  rw [← hS]
  have HSz := hide hS
  clear hS
  go_loopg [13, 4] n (fun g s13 s4 wr => ∃ k : Nat, s13 = .int .i64 k ∧ k ≤ n ∧ n - k ≤ g ∧ Aside (NRInv w B n c ids k wr))
  case atStart => exact ⟨0, rfl, Nat.zero_le _, by omega, HI'⟩
  case round =>
    obtain ⟨k, rfl, hkn, hg, J⟩ := hrel
    by_cases hk : k < n
    · have hkz : (k : Int) < (n : Int) := by omega
      have c1 : wr.cell? ⟨S + 1 + 1, 1, none⟩ = some (.slice (some ⟨S + 1, 0, none⟩) n n) := by rw [HSz.out]; exact (J.out.2.1.cell 1)
      obtain ⟨u, c2⟩ : ∃ u, wr.cell? ⟨S + 1, k, none⟩ = some u := by rw [HSz.out, J.out.1.cell k]; exact ⟨_, Array.getElem?_eq_getElem (by simp; omega)⟩
      have f2 : wr.frozen? ⟨S + 1, k, none⟩ = false := by rw [HSz.out]; exact J.out.1.frozen k
      have J2 : Aside (NRInv w B n c ids (k + 1) (wr.setCell ⟨S + 1, k, none⟩ (.int .i64 (k : Int)))) := by rw [HSz.out]; exact J.out.step hk
      have hkz0 : (0:Int) ≤ (k : Int) := by omega
      clear HI' J
      go_wp2
      go_roundg (n - (k + 1))
      case measure => omega
      case rel => exact ⟨k + 1, by go_num, by omega, Nat.le_refl _, J2⟩
    · obtain rfl : k = n := by omega
      have c1 : wr.cell? ⟨S + 1 + 1, 1, none⟩ = some (.slice (some ⟨S + 1, 0, none⟩) k k) := by rw [HSz.out]; exact (J.out.2.1.cell 1)
      have hs := sort_calls wr (S + 1 + 1) B (S + 1) k c _ ids J.out.2.2.2.1 hlen hn0 hn (by rw [HSz.out]; exact J.out.2.1) (by have := J.out.1; rw [← HSz.out] at this; simpa using this)
      have HS := hide hs
      clear hs HI' hn hn0 hlen hg
      go_wp2_with fail
      refine HS.out.mono ?_
      rintro e w' ⟨rfl, xs, hxs, hxl, hperm, hpw, hg⟩
      have hO' : At w' (S + 1 + 1) #[.slice (some ⟨B, 0, none⟩) k c, .slice (some ⟨S + 1, 0, none⟩) k k] 28 := by
        have h := J.out.2.1
        rw [← HSz.out] at h
        exact h.of_heap (hg.block _ h.lt (by simp))
      have hS' : At w' S #[.slice none 0 0, .slice none 0 0] 28 := by
        have h := J.out.2.2.1
        rw [← HSz.out] at h
        exact h.of_heap (hg.block _ h.lt (by simp))
      have hb : Below w.heap.size w w' := J.out.2.2.2.2.trans ((Below.refl _ _).grown hg J.out.2.2.2.2.size (by intro b hb; simp at hb; have := HSz.out; omega))
      have d0 := hO'.cell 0
      have d1 := hO'.cell 1
      have e0 := hS'.cell 0
      have e1 := hS'.cell 1
      have g0 := hS'.frozen 0
      have g1 := hS'.frozen 1
      simp at d0 d1 e0 e1
      have A1 : Aside (At w' (S + 1) (xs.map nv).toArray 3 ∧ xs.length = k ∧ xs.Perm (List.range k) ∧ xs.Pairwise (fun a b => val ids a ≤ val ids b) ∧ Below w.heap.size w w') := ⟨hxs, hxl, hperm, hpw, hb⟩
      clear hxs hxl hperm hpw hg hb hO' J HS c1
      have HF := hide ((hS'.set 0 (.slice (some ⟨B, 0, none⟩) k c)).set 1 (.slice (some ⟨S + 1, 0, none⟩) k k))
      clear hS'
      go_wp2
      refine bodyPost_ret_by (results_cell_row (P := Yba.prog) (p := 2) (ty := 28) rfl _ _ S 28 _ _ _ rfl HF.out Yba.underlying28 rfl (by kernel_rfl)) rfl ?_
      obtain ⟨a1, a2, a3, a4, a5⟩ := A1.out
      refine ⟨S + 1, xs, by simp, by have := HSz.out; omega, (a5.setCell (by have := HSz.out; simp; omega) _).setCell (by have := HSz.out; simp; omega) _, (a1.setOther _ _ (by simp)).setOther _ _ (by simp), a2, a3, a4⟩
end Go.Proofs.Ybulkapqu
