import Derived.Test.YbulkapoqDoorW2
namespace Go.Proofs.YbulkapoqDoor
open Go.RowKit

/-! ### Worlds under stores of many cells -/
theorem heap_setCells_other (b k : Nat) (h : k ≠ b) : ∀ (vs : List Value) (o : Nat) (w : World), (w.setCells b o vs).heap[k]? = w.heap[k]?
  | [], _, _ => rfl
  | v :: r, o, w => by rw [World.setCells, heap_setCells_other b k h r, Below.heap_setCell _ _ _ _ h]
theorem size_setCells (b : Nat) : ∀ (vs : List Value) (o : Nat) (w : World), (w.setCells b o vs).heap.size = w.heap.size
  | [], _, _ => rfl
  | v :: r, o, w => by rw [World.setCells, size_setCells b r, World.size_setCell]

/-- Block b is a row of n cells of type t, none frozen. -/
def Blk (w : World) (b t n : Nat) : Prop := ∃ C, w.heap[b]? = some (.cells C t (0, 0)) ∧ C.size = n
theorem Blk.of_heap {w w' : World} {b t n : Nat} (h : Blk w b t n) (e : w'.heap[b]? = w.heap[b]?) : Blk w' b t n := by
  obtain ⟨C, hC, hs⟩ := h
  exact ⟨C, e.trans hC, hs⟩
theorem Blk.lt {w : World} {b t n : Nat} (h : Blk w b t n) : b < w.heap.size := by
  obtain ⟨C, hC, _⟩ := h
  exact (Array.getElem?_eq_some_iff.1 hC).1
theorem Blk.ne {w : World} {b b' t t' n n' : Nat} (h : Blk w b t n) (h' : Blk w b' t' n') (hne : t ≠ t') : b ≠ b' := by
  rintro rfl
  obtain ⟨C, hC, _⟩ := h
  obtain ⟨C', hC', _⟩ := h'
  rw [hC] at hC'
  simp at hC'
  exact hne hC'.2
theorem Blk.setCell {w : World} {b t n : Nat} (h : Blk w b t n) (a : Addr) (v : Value) (ha : a.spot = none) : Blk (w.setCell a v) b t n := by
  obtain ⟨C, hC, hs⟩ := h
  by_cases e : b = a.block
  · subst e
    refine ⟨C.setIfInBounds a.off v, ?_, by simpa using hs⟩
    simp only [World.setCell, Array.getElem?_modify, hC]
    simp [ha]
  · exact ⟨C, (Below.heap_setCell _ _ _ _ e).trans hC, hs⟩
theorem Blk.setCells {b t n : Nat} (g : Nat) : ∀ (vs : List Value) (o : Nat) (w : World), Blk w b t n → Blk (w.setCells g o vs) b t n
  | [], _, _, h => h
  | v :: r, o, _, h => Blk.setCells g r (o + 1) _ (h.setCell ⟨g, o, none⟩ v rfl)
theorem Blk.cell {w : World} {b t n : Nat} (h : Blk w b t n) (j : Nat) (hj : j < n) : (w.cell? ⟨b, j, none⟩).isSome = true := by
  obtain ⟨C, hC, hs⟩ := h
  rw [cell_of_row w b j C t _ hC]
  simp [hs, hj]
theorem Blk.frozen {w : World} {b t n : Nat} (h : Blk w b t n) (j : Nat) : w.frozen? ⟨b, j, none⟩ = false := by
  obtain ⟨C, hC, hs⟩ := h
  exact frozen_of_row w b j C t hC
theorem Blk.there {w : World} {b t n : Nat} (h : Blk w b t n) (o m : Nat) (hm : o + m ≤ n) : w.there b o m := fun j hj => ⟨h.cell _ (by omega), h.frozen _⟩

theorem grown_setCells (w : World) (b o : Nat) (vs : List Value) : w.grownBy (w.setCells b o vs) (some b) := by
  refine ⟨?_, ?_, ?_, by rw [size_setCells]; exact Nat.le_refl _, fun k _ hk => heap_setCells_other b k (fun e => hk (by rw [e])) vs o w⟩
  · induction vs generalizing o w with
    | nil => rfl
    | cons v r ih => rw [World.setCells, ih]; rfl
  · induction vs generalizing o w with
    | nil => rfl
    | cons v r ih => rw [World.setCells, ih]; rfl
  · induction vs generalizing o w with
    | nil => rfl
    | cons v r ih => rw [World.setCells, ih]; rfl
theorem grown_setCell (w : World) (a : Addr) (v : Value) : w.grownBy (w.setCell a v) (some a.block) :=
  ⟨rfl, rfl, rfl, by simp, fun k _ hk => Below.heap_setCell _ _ _ _ (fun e => hk (by rw [e]))⟩
theorem grown_drewN (w : World) (q : Nat) (row : Option Nat) : w.grownBy (w.drewN q) row := ⟨rfl, rfl, rfl, Nat.le_refl _, fun _ _ _ => rfl⟩

/-- An owned row lies in a block of its element type. -/
theorem owns_blk {w : World} {base e : Nat} {v : Value} {n : Nat} {xs : List Value} (h : w.ownsRow base e 1 v n xs) (g : Nat) (hg : v.ownBlock = some g) : ∃ m, Blk w g e m := by
  rcases h.2 with ⟨rfl, _⟩ | ⟨g', cap, cur, rfl, _, hgg, _⟩
  · simp [Value.ownBlock] at hg
  · simp [Value.ownBlock] at hg
    subst hg
    exact ⟨cur.size, cur, hgg, rfl⟩

/-! ### What a world holds of a tree -/
def pgv (b : Nat) : Value := .slice (some ⟨b, 0, none⟩) 4096 4096
def tgv (b : Nat) : Value := .slice (some ⟨b, 0, none⟩) 65536 65536

structure Core (B T : Nat) (np tp : List Nat) (n e : Nat) (w : World) : Prop where
  hT : B ≤ T
  tb : Blk w T 44 20
  c0 : ∃ ao cap, w.cell? ⟨T, 0, none⟩ = some (.slice ao np.length cap) ∧ w.ownsRow B 61 1 (.slice ao np.length cap) np.length (np.map pgv)
  c1 : w.cell? ⟨T, 1, none⟩ = some (.int .i64 n)
  c4 : ∃ ao cap, w.cell? ⟨T, 4, none⟩ = some (.slice ao tp.length cap) ∧ w.ownsRow B 63 1 (.slice ao tp.length cap) tp.length (tp.map tgv)
  c5 : w.cell? ⟨T, 5, none⟩ = some (.int .u32 e)
  npg : ∀ b ∈ np, B ≤ b ∧ Blk w b 50 28672
  tpg : ∀ b ∈ tp, B ≤ b ∧ Blk w b 5 65536
  ndn : np.Nodup
  ndt : tp.Nodup
structure Rep (B T : Nat) (np tp : List Nat) (n e : Nat) (w : World) : Prop where
  core : Core B T np tp n e w
  fitN : np.length = (n + 4095) / 4096
  fitT : e ≤ tp.length * 65536 ∧ tp.length * 65536 < e + 65536

theorem Core.le {B T : Nat} {np tp : List Nat} {n e : Nat} {w : World} (h : Core B T np tp n e w) : B ≤ w.heap.size := by
  have := h.tb.lt
  have := h.hT
  omega

theorem grown_trans {w w1 w2 : World} {r : Option Nat} (h : w.grownBy w1 r) (k : w1.grownBy w2 r) : w.grownBy w2 r :=
  ⟨k.os.trans h.os, k.tape.trans h.tape, k.output.trans h.output, Nat.le_trans h.size k.size, fun i hi hr => (k.block i (Nat.lt_of_lt_of_le hi h.size) hr).trans (h.block i hi hr)⟩
theorem grown_none {w w1 : World} {r : Option Nat} (h : w.grownBy w1 none) : w.grownBy w1 r :=
  ⟨h.os, h.tape, h.output, h.size, fun i hi _ => h.block i hi (by simp)⟩
theorem grown_below {w w1 : World} {r : Option Nat} (h : Below w.heap.size w w1) : w.grownBy w1 r :=
  ⟨h.os, h.tape, h.output, h.size, fun i hi _ => h.block i hi⟩
theorem grown_alloc (w : World) (o : Obj) (r : Option Nat) : w.grownBy (w.alloc o) r := World.grownBy_alloc w o r
theorem grown_drew (w : World) (r : Option Nat) : w.grownBy w.drew r := ⟨rfl, rfl, rfl, Nat.le_refl _, fun _ _ _ => rfl⟩
theorem below_grown {B : Nat} {w w1 : World} {r : Option Nat} (h : w.grownBy w1 r) (hB : B ≤ w.heap.size) (hr : ∀ b, r = some b → B ≤ b) : Below B w w1 := (Below.refl B w).grown h hB hr

/-- The tree stands where at most one page of its own, or nothing old, has been written. -/
theorem Core.kept {B T : Nat} {np tp : List Nat} {n e : Nat} {w w' : World} (R : Core B T np tp n e w) (row : Option Nat) (hg : w.grownBy w' row)
    (hrow : ∀ b, row = some b → (b ∈ np ∧ Blk w' b 50 28672) ∨ (b ∈ tp ∧ Blk w' b 5 65536) ∨ w.heap.size ≤ b) : Core B T np tp n e w' := by
  have far : ∀ b t m, Blk w b t m → t ≠ 50 → t ≠ 5 → w'.heap[b]? = w.heap[b]? := fun b t m hb h50 h5 => by
    refine hg.block b hb.lt (fun er => ?_)
    rcases hrow b er.symm with ⟨h1, _⟩ | ⟨h1, _⟩ | h1
    · exact hb.ne (R.npg b h1).2 h50 rfl
    · exact hb.ne (R.tpg b h1).2 h5 rfl
    · have := hb.lt; omega
  have farOwn : ∀ et v m xs, et ≠ 50 → et ≠ 5 → w.ownsRow B et 1 v m xs → w'.ownsRow B et 1 v m xs := fun et v m xs h50 h5 ho => by
    refine ho.kept hg ?_
    cases hv : v.ownBlock with
    | none => exact .inl rfl
    | some g =>
      right
      intro er
      obtain ⟨k, hk⟩ := owns_blk ho g hv
      rcases hrow g er.symm with ⟨h1, _⟩ | ⟨h1, _⟩ | h1
      · exact hk.ne (R.npg g h1).2 h50 rfl
      · exact hk.ne (R.tpg g h1).2 h5 rfl
      · have := hk.lt; omega
  have hT := far T 44 20 R.tb (by decide) (by decide)
  have cT : ∀ j, w'.cell? ⟨T, j, none⟩ = w.cell? ⟨T, j, none⟩ := fun j => World.cell?_of_block (w := w) hT
  obtain ⟨ao, cap, h0, ho0⟩ := R.c0
  obtain ⟨ao4, cap4, h4, ho4⟩ := R.c4
  refine ⟨R.hT, R.tb.of_heap hT, ⟨ao, cap, (cT 0).trans h0, farOwn _ _ _ _ (by decide) (by decide) ho0⟩, (cT 1).trans R.c1, ⟨ao4, cap4, (cT 4).trans h4, farOwn _ _ _ _ (by decide) (by decide) ho4⟩, (cT 5).trans R.c5, fun b hb => ⟨(R.npg b hb).1, ?_⟩, fun b hb => ⟨(R.tpg b hb).1, ?_⟩, R.ndn, R.ndt⟩
  · by_cases er : row = some b
    · rcases hrow b er with ⟨_, h2⟩ | ⟨h1, _⟩ | h1
      · exact h2
      · exact absurd rfl ((R.npg b hb).2.ne (R.tpg b h1).2 (by decide))
      · have := (R.npg b hb).2.lt; omega
    · exact (R.npg b hb).2.of_heap (hg.block b (R.npg b hb).2.lt (fun h => er h.symm))
  · by_cases er : row = some b
    · rcases hrow b er with ⟨h1, _⟩ | ⟨_, h2⟩ | h1
      · exact absurd rfl ((R.tpg b hb).2.ne (R.npg b h1).2 (by decide))
      · exact h2
      · have := (R.tpg b hb).2.lt; omega
    · exact (R.tpg b hb).2.of_heap (hg.block b (R.tpg b hb).2.lt (fun h => er h.symm))

/-- Storing one cell of the tree's own block leaves pages and rows. -/
theorem Core.own_setT {B T : Nat} {np tp : List Nat} {n e : Nat} {w : World} (R : Core B T np tp n e w) (j : Nat) (u : Value) {et : Nat} {v : Value} {m : Nat} {xs : List Value} (h44 : et ≠ 44) (ho : w.ownsRow B et 1 v m xs) :
    (w.setCell ⟨T, j, none⟩ u).ownsRow B et 1 v m xs := by
  refine ho.kept (grown_setCell w ⟨T, j, none⟩ u) ?_
  cases hv : v.ownBlock with
  | none => exact .inl rfl
  | some g =>
    right
    intro er
    obtain ⟨k, hk⟩ := owns_blk ho g hv
    have : g = T := by simpa using er
    subst this
    exact hk.ne R.tb h44 rfl
theorem Core.cell_setT {B T : Nat} {np tp : List Nat} {n e : Nat} {w : World} (R : Core B T np tp n e w) (j : Nat) (u : Value) (hj : j < 20) : (w.setCell ⟨T, j, none⟩ u).cell? ⟨T, j, none⟩ = some u := by
  obtain ⟨x, hx⟩ := Option.isSome_iff_exists.1 (R.tb.cell j hj)
  exact World.cell?_setCell_same _ _ _ hx
theorem Core.set5 {B T : Nat} {np tp : List Nat} {n e : Nat} {w : World} (R : Core B T np tp n e w) (e' : Nat) : Core B T np tp n e' (w.setCell ⟨T, 5, none⟩ (.int .u32 e')) := by
  obtain ⟨ao, cap, h0, ho0⟩ := R.c0
  obtain ⟨ao4, cap4, h4, ho4⟩ := R.c4
  exact ⟨R.hT, R.tb.setCell _ _ rfl, ⟨ao, cap, (World.cell?_setCell_other _ _ _ _ (by simp)).trans h0, R.own_setT _ _ (by decide) ho0⟩, (World.cell?_setCell_other _ _ _ _ (by simp)).trans R.c1,
    ⟨ao4, cap4, (World.cell?_setCell_other _ _ _ _ (by simp)).trans h4, R.own_setT _ _ (by decide) ho4⟩, R.cell_setT 5 _ (by decide), fun b hb => ⟨(R.npg b hb).1, (R.npg b hb).2.setCell _ _ rfl⟩, fun b hb => ⟨(R.tpg b hb).1, (R.tpg b hb).2.setCell _ _ rfl⟩, R.ndn, R.ndt⟩
theorem Core.set1 {B T : Nat} {np tp : List Nat} {n e : Nat} {w : World} (R : Core B T np tp n e w) (n' : Nat) : Core B T np tp n' e (w.setCell ⟨T, 1, none⟩ (.int .i64 n')) := by
  obtain ⟨ao, cap, h0, ho0⟩ := R.c0
  obtain ⟨ao4, cap4, h4, ho4⟩ := R.c4
  exact ⟨R.hT, R.tb.setCell _ _ rfl, ⟨ao, cap, (World.cell?_setCell_other _ _ _ _ (by simp)).trans h0, R.own_setT _ _ (by decide) ho0⟩, R.cell_setT 1 _ (by decide),
    ⟨ao4, cap4, (World.cell?_setCell_other _ _ _ _ (by simp)).trans h4, R.own_setT _ _ (by decide) ho4⟩, (World.cell?_setCell_other _ _ _ _ (by simp)).trans R.c5, fun b hb => ⟨(R.npg b hb).1, (R.npg b hb).2.setCell _ _ rfl⟩, fun b hb => ⟨(R.tpg b hb).1, (R.tpg b hb).2.setCell _ _ rfl⟩, R.ndn, R.ndt⟩

/-- A page is appended to the text's row and the new header stored. -/
theorem Core.growT {B T : Nat} {np tp : List Nat} {n e : Nat} {w w1 : World} (R : Core B T np tp n e w) (N gg cap1 : Nat) (v : Value) (hN : w.heap.size ≤ N)
    (hv : w.cell? ⟨T, 4, none⟩ = some v) (ho : w.ownsRow B 63 1 v tp.length (tp.map tgv)) (hg : w.grownBy w1 v.ownBlock) (hNb : Blk w1 N 5 65536)
    (ho1 : w1.ownsRow B 63 1 (.slice (some ⟨gg, 0, none⟩) (tp.length + 1) cap1) (tp.length + 1) (tp.map tgv ++ [tgv N])) :
    Core B T np (tp ++ [N]) n e (w1.setCell ⟨T, 4, none⟩ (.slice (some ⟨gg, 0, none⟩) (tp.length + 1) cap1)) := by
  have far : ∀ b t m, Blk w b t m → t ≠ 63 → w1.heap[b]? = w.heap[b]? := fun b t m hb h63 => by
    refine hg.block b hb.lt (fun er => ?_)
    obtain ⟨k, hk⟩ := owns_blk ho b er.symm
    exact hb.ne hk h63 rfl
  have hT := far T 44 20 R.tb (by decide)
  have tb1 : Blk w1 T 44 20 := R.tb.of_heap hT
  have cT : ∀ j, w1.cell? ⟨T, j, none⟩ = w.cell? ⟨T, j, none⟩ := fun j => World.cell?_of_block (w := w) hT
  obtain ⟨ao, cap, h0, ho0⟩ := R.c0
  have le := R.le
  have ho0' : w1.ownsRow B 61 1 (.slice ao np.length cap) np.length (np.map pgv) := by
    refine ho0.kept hg ?_
    cases hv0 : Value.ownBlock (.slice ao np.length cap) with
    | none => exact .inl rfl
    | some g =>
      right
      intro er
      obtain ⟨k, hk⟩ := owns_blk ho0 g hv0
      obtain ⟨k', hk'⟩ := owns_blk ho g er.symm
      exact hk.ne hk' (by decide) rfl
  have own_setT : ∀ (u : Value) {et : Nat} {v : Value} {m : Nat} {xs : List Value}, et ≠ 44 → w1.ownsRow B et 1 v m xs → (w1.setCell ⟨T, 4, none⟩ u).ownsRow B et 1 v m xs := by
    intro u et v m xs h44 ho
    refine ho.kept (grown_setCell w1 ⟨T, 4, none⟩ u) ?_
    cases hv : v.ownBlock with
    | none => exact .inl rfl
    | some g =>
      right
      intro er
      obtain ⟨k, hk⟩ := owns_blk ho g hv
      have : g = T := by simpa using er
      subst this
      exact hk.ne tb1 h44 rfl
  obtain ⟨x, hx⟩ := Option.isSome_iff_exists.1 (tb1.cell 4 (by decide))
  refine ⟨R.hT, tb1.setCell _ _ rfl, ⟨ao, cap, (World.cell?_setCell_other _ _ _ _ (by simp)).trans ((cT 0).trans h0), own_setT _ (by decide) ho0'⟩, (World.cell?_setCell_other _ _ _ _ (by simp)).trans ((cT 1).trans R.c1),
    ⟨some ⟨gg, 0, none⟩, cap1, ?_, ?_⟩, (World.cell?_setCell_other _ _ _ _ (by simp)).trans ((cT 5).trans R.c5), fun b hb => ⟨(R.npg b hb).1, ((R.npg b hb).2.of_heap (far b 50 _ (R.npg b hb).2 (by decide))).setCell _ _ rfl⟩, fun b hb => ?_, R.ndn, ?_⟩
  · rw [World.cell?_setCell_same _ _ _ hx]; simp
  · have := own_setT (.slice (some ⟨gg, 0, none⟩) (tp.length + 1) cap1) (by decide) ho1
    simpa using this
  · rcases List.mem_append.1 hb with hb | hb
    · exact ⟨(R.tpg b hb).1, ((R.tpg b hb).2.of_heap (far b 5 _ (R.tpg b hb).2 (by decide))).setCell _ _ rfl⟩
    · have : b = N := by simpa using hb
      subst this
      exact ⟨by omega, hNb.setCell _ _ rfl⟩
  · refine List.nodup_append.2 ⟨R.ndt, by simp, ?_⟩
    intro a ha b hb
    have : b = N := by simpa using hb
    have := (R.tpg a ha).2.lt
    omega

/-- A page is appended to the book's row and the new header stored. -/
theorem Core.growN {B T : Nat} {np tp : List Nat} {n e : Nat} {w w1 : World} (R : Core B T np tp n e w) (N gg cap1 : Nat) (v : Value) (hN : w.heap.size ≤ N)
    (hv : w.cell? ⟨T, 0, none⟩ = some v) (ho : w.ownsRow B 61 1 v np.length (np.map pgv)) (hg : w.grownBy w1 v.ownBlock) (hNb : Blk w1 N 50 28672)
    (ho1 : w1.ownsRow B 61 1 (.slice (some ⟨gg, 0, none⟩) (np.length + 1) cap1) (np.length + 1) (np.map pgv ++ [pgv N])) :
    Core B T (np ++ [N]) tp n e (w1.setCell ⟨T, 0, none⟩ (.slice (some ⟨gg, 0, none⟩) (np.length + 1) cap1)) := by
  have far : ∀ b t m, Blk w b t m → t ≠ 61 → w1.heap[b]? = w.heap[b]? := fun b t m hb h63 => by
    refine hg.block b hb.lt (fun er => ?_)
    obtain ⟨k, hk⟩ := owns_blk ho b er.symm
    exact hb.ne hk h63 rfl
  have hT := far T 44 20 R.tb (by decide)
  have tb1 : Blk w1 T 44 20 := R.tb.of_heap hT
  have cT : ∀ j, w1.cell? ⟨T, j, none⟩ = w.cell? ⟨T, j, none⟩ := fun j => World.cell?_of_block (w := w) hT
  obtain ⟨ao, cap, h0, ho0⟩ := R.c4
  have le := R.le
  have ho0' : w1.ownsRow B 63 1 (.slice ao tp.length cap) tp.length (tp.map tgv) := by
    refine ho0.kept hg ?_
    cases hv0 : Value.ownBlock (.slice ao tp.length cap) with
    | none => exact .inl rfl
    | some g =>
      right
      intro er
      obtain ⟨k, hk⟩ := owns_blk ho0 g hv0
      obtain ⟨k', hk'⟩ := owns_blk ho g er.symm
      exact hk.ne hk' (by decide) rfl
  have own_setT : ∀ (u : Value) {et : Nat} {v : Value} {m : Nat} {xs : List Value}, et ≠ 44 → w1.ownsRow B et 1 v m xs → (w1.setCell ⟨T, 0, none⟩ u).ownsRow B et 1 v m xs := by
    intro u et v m xs h44 ho
    refine ho.kept (grown_setCell w1 ⟨T, 0, none⟩ u) ?_
    cases hv : v.ownBlock with
    | none => exact .inl rfl
    | some g =>
      right
      intro er
      obtain ⟨k, hk⟩ := owns_blk ho g hv
      have : g = T := by simpa using er
      subst this
      exact hk.ne tb1 h44 rfl
  obtain ⟨x, hx⟩ := Option.isSome_iff_exists.1 (tb1.cell 0 (by decide))
  refine ⟨R.hT, tb1.setCell _ _ rfl, ⟨some ⟨gg, 0, none⟩, cap1, ?_, ?_⟩, (World.cell?_setCell_other _ _ _ _ (by simp)).trans ((cT 1).trans R.c1), ⟨ao, cap, (World.cell?_setCell_other _ _ _ _ (by simp)).trans ((cT 4).trans h0), own_setT _ (by decide) ho0'⟩,
    (World.cell?_setCell_other _ _ _ _ (by simp)).trans ((cT 5).trans R.c5), fun b hb => ?_, fun b hb => ⟨(R.tpg b hb).1, ((R.tpg b hb).2.of_heap (far b 5 _ (R.tpg b hb).2 (by decide))).setCell _ _ rfl⟩, ?_, R.ndt⟩
  · rw [World.cell?_setCell_same _ _ _ hx]; simp
  · have := own_setT (.slice (some ⟨gg, 0, none⟩) (np.length + 1) cap1) (by decide) ho1
    simpa using this
  · rcases List.mem_append.1 hb with hb | hb
    · exact ⟨(R.npg b hb).1, ((R.npg b hb).2.of_heap (far b 50 _ (R.npg b hb).2 (by decide))).setCell _ _ rfl⟩
    · have : b = N := by simpa using hb
      subst this
      exact ⟨by omega, hNb.setCell _ _ rfl⟩
  · refine List.nodup_append.2 ⟨R.ndn, by simp, ?_⟩
    intro a ha b hb
    have : b = N := by simpa using hb
    have := (R.npg a ha).2.lt
    omega

def bytesOf (s : ByteArray) : List Value := s.data.toList.map fun x => Value.int .u8 (x.toNat : Int)
theorem length_bytesOf (s : ByteArray) : (bytesOf s).length = s.size := by rw [bytesOf, List.length_map, Array.length_toList]; rfl

/-- Record i of the book. -/
def NodeAt (np : List Nat) (w : World) (i : Nat) (vs : List Value) : Prop := vs.length = 7 ∧ i / 4096 < np.length ∧ w.rangeAt (np.getD (i / 4096) 0) (i % 4096 * 7) vs
/-- The string s begins at 'at'. -/
def TextAt (tp : List Nat) (w : World) (a : Nat) (s : ByteArray) : Prop := s.size = 0 ∨ (a / 65536 < tp.length ∧ a % 65536 + s.size ≤ 65536 ∧ w.rangeAt (tp.getD (a / 65536) 0) (a % 65536) (bytesOf s))

theorem rangeAt_of_heap {w w' : World} {b o : Nat} {vs : List Value} (h : w.rangeAt b o vs) (e : w'.heap[b]? = w.heap[b]?) : w'.rangeAt b o vs := fun j v hv =>
  (World.cell?_of_block (w := w) (a := ⟨b, o + j, none⟩) e).trans (h j v hv)
theorem getD_mem {l : List Nat} {i : Nat} (h : i < l.length) : l.getD i 0 ∈ l := by
  rw [List.getD_eq_getElem?_getD, List.getElem?_eq_getElem h]
  simp
theorem getD_append {l m : List Nat} {i : Nat} (h : i < l.length) : (l ++ m).getD i 0 = l.getD i 0 := by
  simp [List.getD_eq_getElem?_getD, List.getElem?_append_left h]
theorem getD_append_len {l : List Nat} {b : Nat} : (l ++ [b]).getD l.length 0 = b := by simp

theorem NodeAt.keep {np ext : List Nat} {w w' : World} {i : Nat} {vs : List Value} (h : NodeAt np w i vs) (e : ∀ b ∈ np, w'.heap[b]? = w.heap[b]?) : NodeAt (np ++ ext) w' i vs := by
  obtain ⟨h0, h1, h2⟩ := h
  refine ⟨h0, by rw [List.length_append]; omega, ?_⟩
  rw [getD_append h1]
  exact rangeAt_of_heap h2 (e _ (getD_mem h1))
theorem TextAt.keep {tp ext : List Nat} {w w' : World} {a : Nat} {s : ByteArray} (h : TextAt tp w a s) (e : ∀ b ∈ tp, w'.heap[b]? = w.heap[b]?) : TextAt (tp ++ ext) w' a s := by
  rcases h with h | ⟨h1, h3, h2⟩
  · exact .inl h
  refine .inr ⟨by rw [List.length_append]; omega, h3, ?_⟩
  rw [getD_append h1]
  exact rangeAt_of_heap h2 (e _ (getD_mem h1))

def atOf (e L : Nat) : Nat := if L = 0 then e else if e % 65536 ≠ 0 ∧ 65536 < e % 65536 + L then (e / 65536 + 1) * 65536 else e
def endOf (e L : Nat) : Nat := atOf e L + L

/-- Blocks of types that are none of the tree's are as they were. -/
def Far (w w' : World) : Prop := ∀ b t m, Blk w b t m → t ≠ 44 → t ≠ 61 → t ≠ 63 → t ≠ 50 → t ≠ 5 → w'.heap[b]? = w.heap[b]?
theorem Far.trans {w w1 w2 : World} (h : Far w w1) (k : Far w1 w2) : Far w w2 := fun b t m hb h1 h2 h3 h4 h5 =>
  (k b t m (hb.of_heap (h b t m hb h1 h2 h3 h4 h5)) h1 h2 h3 h4 h5).trans (h b t m hb h1 h2 h3 h4 h5)
theorem Far.refl (w : World) : Far w w := fun _ _ _ _ _ _ _ _ _ => rfl

/-- What text.add leaves. -/
structure TPost (B T : Nat) (np tp : List Nat) (n e : Nat) (s : ByteArray) (w w' : World) (ext : List Nat) : Prop where
  rep : Rep B T np (tp ++ ext) n (endOf e s.size) w'
  bel : Below B w w'
  txt : TextAt (tp ++ ext) w' (atOf e s.size) s
  old : ∀ a s', a + s'.size ≤ e → TextAt tp w a s' → TextAt (tp ++ ext) w' a s'
  nod : ∀ i vs, NodeAt np w i vs → NodeAt np w' i vs
  far : Far w w'

/-- What book.add leaves. -/
structure NPost (B T : Nat) (np tp : List Nat) (n e : Nat) (vs : List Value) (w w' : World) (ext : List Nat) : Prop where
  rep : Rep B T (np ++ ext) tp (n + 1) e w'
  bel : Below B w w'
  new : NodeAt (np ++ ext) w' n vs
  old : ∀ i vs', i < n → NodeAt np w i vs' → NodeAt (np ++ ext) w' i vs'
  txt : ∀ a s', TextAt tp w a s' → TextAt tp w' a s'
  far : Far w w'

theorem TG_exists : ∃ TGv : Array Value, (∀ w, (Instr.makeSlice 63 (.int .u64 65536) (.int .u64 65536)).run Ybad.prog w = .ok (.slice (some ⟨w.heap.size, 0, none⟩) 65536 65536) (w.alloc (.cells TGv 5))) ∧ TGv.size = 65536 := by
  obtain ⟨i0, hi0, hz0, hz1, hz2⟩ := info_parts info5
  refine ⟨madeCells (Value.cells (.int .u8 0)) 65536, fun w => ?_, size_madeCells _ _⟩
  have h := run_make (P := Ybad.prog) w 63 5 i0 _ Ybad.underlying63 hi0 hz0 .u64 .u64 65536 65536 (by decide) (by decide) (by rw [hz2]; decide) (by decide)
  rw [hz1] at h
  exact h
theorem PG_exists : ∃ PGv : Array Value, (∀ w, (Instr.makeSlice 61 (.int .i64 4096) (.int .i64 4096)).run Ybad.prog w = .ok (.slice (some ⟨w.heap.size, 0, none⟩) 4096 4096) (w.alloc (.cells PGv 50))) ∧ PGv.size = 28672 :=
  ⟨PG, make_page, size_PG⟩
end Go.Proofs.YbulkapoqDoor
