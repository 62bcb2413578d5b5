import Derived.Test.YbulkapoqDoorW3
namespace Go.Proofs.YbulkapoqDoor
open Go.RowKit

theorem mapget (f : Nat → Value) (l : List Nat) (i : Nat) (h : i < l.length) : (l.map f)[i]? = some (f (l.getD i 0)) := by
  simp [List.getD_eq_getElem?_getD, List.getElem?_eq_getElem h]

/-- An owned row that is not empty leads to a block. -/
theorem owns_some {w : World} {base e : Nat} {ao : Option Addr} {n cap : Nat} {xs : List Value} (h : w.ownsRow base e 1 (.slice ao n cap) n xs) (hn : 0 < n) : ∃ g, ao = some ⟨g, 0, none⟩ := by
  rcases h.2 with ⟨h1, h2⟩ | ⟨g, cap', cur, h1, _⟩
  · omega
  · simp at h1
    exact ⟨g, h1.1⟩

theorem nodup_getD {l : List Nat} (h : l.Nodup) {i j : Nat} (hi : i < l.length) (hj : j < l.length) (e : l.getD i 0 = l.getD j 0) : i = j := by
  rw [List.getD_eq_getElem?_getD, List.getD_eq_getElem?_getD, List.getElem?_eq_getElem hi, List.getElem?_eq_getElem hj] at e
  simp at e
  have hp := List.pairwise_iff_getElem.1 h
  rcases Nat.lt_trichotomy i j with k | k | k
  · exact absurd e (hp i j hi hj k)
  · exact k
  · exact absurd e.symm (hp j i hj hi k)

theorem tadd_calls {B T : Nat} {np tp : List Nat} {n e : Nat} {w : World} (R : Rep B T np tp n e w) (s : ByteArray) (hs : s.size ≤ 1024) (hb : tp.length < 16000) :
    Calls Ybad.prog 8 #[.pointer (some ⟨T, 4, none⟩), .string s] w fun e' w' => e' = .returned (.tuple #[.int .u32 (atOf e s.size : Nat), .nilIface]) ∧ ∃ ext, TPost B T np tp n e s w w' ext := by
  have C := R.core
  obtain ⟨f1, f2⟩ := R.fitT
  by_cases h0 : s.size = 0
  · have hs0 : s = ⟨#[]⟩ := by
      have : s.data = #[] := Array.eq_empty_of_size_eq_zero h0
      cases s; simp_all
    subst hs0
    refine (tadd_empty w T e C.c5).mono ?_
    rintro e' w' ⟨rfl, rfl⟩
    have hz : (ByteArray.mk #[]).size = 0 := rfl
    refine ⟨by simp [atOf, hz], [], ?_⟩
    have e1 : endOf e (ByteArray.mk #[]).size = e := by simp [endOf, atOf, hz]
    exact ⟨by rw [List.append_nil, e1]; exact R, Below.refl _ _, .inl hz, fun a s' _ h => by rw [List.append_nil]; exact h, fun i vs h => h, Far.refl _⟩
  · obtain ⟨ao, cap, h4, ho4⟩ := C.c4
    by_cases hr : e % 65536 ≠ 0 ∧ e % 65536 + s.size ≤ 65536
    · have hL : tp.length = e / 65536 + 1 := by omega
      have ha : atOf e s.size = e := by unfold atOf; rw [if_neg h0, if_neg (by omega)]
      have he : endOf e s.size = e + s.size := by unfold endOf; rw [ha]
      obtain ⟨g, rfl⟩ := owns_some ho4 (by omega)
      have hi : e / 65536 < tp.length := by omega
      have hm := getD_mem hi
      have hpb := C.tpg _ hm
      have hTp : T ≠ tp.getD (e / 65536) 0 := C.tb.ne hpb.2 (by decide)
      have hcell : w.cell? ⟨g, e / 65536, none⟩ = some (.slice (some ⟨tp.getD (e / 65536) 0, 0, none⟩) 65536 65536) := by
        rw [ho4.cellAt _ (by omega)]; exact mapget tgv tp _ hi
      refine (tadd_room w T e tp.length cap g (tp.getD (e / 65536) 0) s (by omega) hs (by omega) hr.2 (by omega) hi (by omega) h4 C.c5 (fun j => C.tb.frozen j) hcell hTp (fun j hj => hpb.2.cell j hj) (fun j => hpb.2.frozen j)).mono ?_
      rintro e' w' ⟨rfl, rfl⟩
      refine ⟨by rw [ha], [], ?_⟩
      generalize hpg : tp.getD (e / 65536) 0 = pg at *
      have R1 : Core B T np tp n e (w.setCells pg (e % 65536) (bytesOf s)) :=
        C.kept (some pg) (grown_setCells w pg _ _) (fun b hb => by
          have : b = pg := (Option.some.inj hb).symm
          subst this
          exact .inr (.inl ⟨hm, hpb.2.setCells _ _ _ _⟩))
      have R2 := R1.set5 (e + s.size)
      have hth : w.there pg (e % 65536) (bytesOf s).length := hpb.2.there _ _ (by rw [length_bytesOf]; omega)
      refine ⟨⟨by rw [List.append_nil, he]; exact R2, R.fitN, by rw [List.append_nil, he]; omega⟩, ?_, ?_, ?_, ?_, fun b t m hb h44 _ _ _ h5 => by
        rw [Below.heap_setCell _ _ _ _ (fun er => hb.ne C.tb h44 er), heap_setCells_other pg b (fun er => hb.ne hpb.2 h5 er)]⟩
      · exact ((Below.refl B w).grown (grown_setCells w pg _ _) C.le (fun k hk => by rw [← Option.some.inj hk]; exact hpb.1)).setCell C.hT _
      · rw [List.append_nil, ha]
        refine .inr ⟨hi, by omega, ?_⟩
        rw [hpg]
        have h1 := World.rangeAt_setCells_same w pg (e % 65536) (bytesOf s) hth
        exact rangeAt_of_heap h1 (Below.heap_setCell _ _ _ _ (Ne.symm hTp))
      · intro a s' ha' h
        rw [List.append_nil]
        rcases h with h | ⟨k1, k2, k3⟩
        · exact .inl h
        refine .inr ⟨k1, k2, ?_⟩
        have hTa : tp.getD (a / 65536) 0 ≠ T := fun er => C.tb.ne (C.tpg _ (getD_mem k1)).2 (by decide) er.symm
        refine rangeAt_of_heap (World.rangeAt_setCells_apart k3 pg (e % 65536) (bytesOf s) ?_) (Below.heap_setCell _ _ _ _ hTa)
        by_cases hpp : tp.getD (a / 65536) 0 = pg
        · right; left
          rw [length_bytesOf]
          have : a / 65536 = e / 65536 := nodup_getD C.ndt k1 hi (by rw [hpp, hpg])
          omega
        · exact .inl hpp
      · intro i vs h
        have := NodeAt.keep (ext := []) (w' := (w.setCells pg (e % 65536) (bytesOf s)).setCell ⟨T, 5, none⟩ (.int .u32 (e + s.size : Nat))) h (fun b hb => by
          rw [Below.heap_setCell _ _ _ _ (fun er => C.tb.ne (C.npg b hb).2 (by decide) er.symm), heap_setCells_other pg b (fun er => hpb.2.ne (C.npg b hb).2 (by decide) er.symm)])
        rw [List.append_nil] at this
        exact this
    · obtain ⟨TGv, hmk, hTG⟩ := TG_exists
      have he2 : e = tp.length * 65536 ∨ (0 < e % 65536 ∧ 65536 < e % 65536 + s.size ∧ tp.length = e / 65536 + 1) := by omega
      have ha : atOf e s.size = tp.length * 65536 := by
        unfold atOf; rw [if_neg h0]
        rcases he2 with h | ⟨h1, h2, h3⟩
        · rw [if_neg (by omega)]; exact h
        · rw [if_pos (by omega)]; omega
      have he : endOf e s.size = tp.length * 65536 + s.size := by unfold endOf; rw [ha]
      have hne : Value.ownBlock (.slice ao tp.length cap) ≠ some T := fun er => by
        obtain ⟨k, hk⟩ := owns_blk ho4 T er
        exact hk.ne C.tb (by decide) rfl
      refine (tadd_grow TGv hmk hTG w B T e tp.length cap ao (tp.map tgv) s (by omega) hs (by omega) he2 h4 C.c5 (fun j => C.tb.frozen j) ho4 C.le hne
        (by obtain ⟨D, hD, hDs⟩ := C.tb; exact ⟨D, hD, by omega⟩) (by unfold Hid; simp)).mono ?_
      rintro e' w' ⟨rfl, W0, w1, gg, cap1, hbl, hsz, hN0, hgrow, hown1, hat, rfl⟩
      refine ⟨by rw [ha]; simp, [w.heap.size], ?_⟩
      have hg1 : w.grownBy w1 (Value.ownBlock (.slice ao tp.length cap)) := grown_trans (grown_trans (grown_trans (grown_below hbl) (grown_alloc W0 _ _)) (grown_drew _ _)) hgrow
      have hNb : Blk w1 w.heap.size 5 65536 := by
        refine ⟨TGv, ?_, hTG⟩
        rw [hgrow.block w.heap.size (by simp; omega) (fun er => by have := ho4.lt _ er.symm; omega)]
        exact (Below.heap_alloc _ _ _ (by omega)).trans hN0
      have R1 := C.growT w.heap.size gg cap1 _ (Nat.le_refl _) h4 ho4 hg1 hNb hown1
      generalize hW2 : w1.setCell ⟨T, 4, none⟩ (.slice (some ⟨gg, 0, none⟩) (tp.length + 1) cap1) = W2 at *
      have hNb2 : Blk W2 w.heap.size 5 65536 := (R1.tpg _ (by simp)).2
      have R2 : Core B T np (tp ++ [w.heap.size]) n e (W2.setCells w.heap.size 0 (bytesOf s)) :=
        R1.kept (some w.heap.size) (grown_setCells W2 _ _ _) (fun b hb => by
          have : b = w.heap.size := (Option.some.inj hb).symm
          subst this
          exact .inr (.inl ⟨by simp, hNb2.setCells _ _ _ _⟩))
      have R3 := R2.set5 (tp.length * 65536 + s.size)
      have hTN : T ≠ w.heap.size := by have := C.tb.lt; omega
      have hth : W2.there w.heap.size 0 (bytesOf s).length := hNb2.there _ _ (by rw [length_bytesOf]; omega)
      have old : ∀ k, k < w.heap.size → k ≠ T → some k ≠ Value.ownBlock (.slice ao tp.length cap) → ((W2.setCells w.heap.size 0 (bytesOf s)).setCell ⟨T, 5, none⟩ (.int .u32 (tp.length * 65536 + s.size : Nat))).heap[k]? = w.heap[k]? := by
        intro k hk hkT hko
        rw [Below.heap_setCell _ _ _ _ hkT, heap_setCells_other _ _ (by omega), ← hW2, Below.heap_setCell _ _ _ _ hkT]
        exact hg1.block k hk hko
      have e1 : (Value.int .u32 ((tp.length : Int) * 65536 + (s.size : Int))) = .int .u32 ((tp.length * 65536 + s.size : Nat) : Int) := by simp
      rw [e1]
      have oldT : ∀ b ∈ tp, ((W2.setCells w.heap.size 0 (bytesOf s)).setCell ⟨T, 5, none⟩ (.int .u32 (tp.length * 65536 + s.size : Nat))).heap[b]? = w.heap[b]? := fun b hb =>
        old b (C.tpg b hb).2.lt (fun er => C.tb.ne (C.tpg b hb).2 (by decide) er.symm) (fun er => by
          obtain ⟨k, hk⟩ := owns_blk ho4 b er.symm
          exact hk.ne (C.tpg b hb).2 (by decide) rfl)
      refine ⟨⟨by rw [he]; exact R3, R.fitN, by rw [he]; simp; omega⟩, ?_, ?_, ?_, ?_, fun b t m hb h44 _ h63 _ _ => old b hb.lt (fun er => hb.ne C.tb h44 er) (fun er => by
        obtain ⟨k, hk⟩ := owns_blk ho4 b er.symm
        exact hb.ne hk h63 rfl)⟩
      · have b1 : Below B w w1 := (Below.refl B w).grown hg1 C.le (fun k hk => (ho4.lt k hk).1)
        have b2 : Below B w W2 := by rw [← hW2]; exact b1.setCell C.hT _
        exact (b2.grown (grown_setCells W2 _ _ _) (Nat.le_trans C.le b2.size) (fun k hk => by rw [← Option.some.inj hk]; exact C.le)).setCell C.hT _
      · rw [ha]
        refine .inr ⟨by simp, by omega, ?_⟩
        have q1 : tp.length * 65536 / 65536 = tp.length := by omega
        have q2 : tp.length * 65536 % 65536 = 0 := by omega
        rw [q1, q2, getD_append_len]
        exact rangeAt_of_heap (World.rangeAt_setCells_same W2 _ _ _ hth) (Below.heap_setCell _ _ _ _ (Ne.symm hTN))
      · intro a s' _ h
        exact TextAt.keep h oldT
      · intro i vs h
        have := NodeAt.keep (ext := []) (w' := (W2.setCells w.heap.size 0 (bytesOf s)).setCell ⟨T, 5, none⟩ (.int .u32 (tp.length * 65536 + s.size : Nat))) h (fun b hb =>
          old b (C.npg b hb).2.lt (fun er => C.tb.ne (C.npg b hb).2 (by decide) er.symm) (fun er => by
            obtain ⟨k, hk⟩ := owns_blk ho4 b er.symm
            exact hk.ne (C.npg b hb).2 (by decide) rfl))
        rw [List.append_nil] at this
        exact this

theorem nadd_calls {B T : Nat} {np tp : List Nat} {n e : Nat} {w : World} (R : Rep B T np tp n e w) (hn : n < 2147483647) (a0 a1 a2 a3 a4 a5 a6 : Int) :
    Calls Ybad.prog 9 #[.pointer (some ⟨T, 0, none⟩), .agg #[.int .u32 a0, .int .u32 a1, .int .i32 a2, .int .i32 a3, .int .i32 a4, .int .u8 a5, .int .u8 a6]] w fun e' w' => e' = .returned (.tuple #[.int .i32 n, .nilIface]) ∧
      ∃ ext, NPost B T np tp n e [.int .u32 a0, .int .u32 a1, .int .i32 a2, .int .i32 a3, .int .i32 a4, .int .u8 a5, .int .u8 a6] w w' ext := by
  have C := R.core
  have fN := R.fitN
  obtain ⟨ao, cap, h0, ho0⟩ := C.c0
  by_cases hr : n / 4096 < np.length
  · obtain ⟨g, rfl⟩ := owns_some ho0 (by omega)
    have hm := getD_mem hr
    have hpb := C.npg _ hm
    have hTp : T ≠ np.getD (n / 4096) 0 := C.tb.ne hpb.2 (by decide)
    have hcell : w.cell? ⟨g, n / 4096, none⟩ = some (.slice (some ⟨np.getD (n / 4096) 0, 0, none⟩) 4096 4096) := by
      rw [ho0.cellAt _ (by omega)]; exact mapget pgv np _ hr
    obtain ⟨D, hD, hDs⟩ := hpb.2
    refine (add_room w T n np.length cap g (np.getD (n / 4096) 0) a0 a1 a2 a3 a4 a5 a6 D hn hr h0 C.c1 (C.tb.frozen 1) hTp hcell hD hDs).mono ?_
    rintro e' w' ⟨rfl, q, rfl⟩
    refine ⟨rfl, [], ?_⟩
    have hgA : w.grownBy ((w.alloc (.cells #[.int .u32 a0, .int .u32 a1, .int .i32 a2, .int .i32 a3, .int .i32 a4, .int .u8 a5, .int .u8 a6] 50)).drewN q) none := grown_trans (grown_alloc _ _ _) (grown_drewN _ _ _)
    have R0 := C.kept none hgA (fun b hb => by cases hb)
    generalize hWA : (w.alloc (.cells #[.int .u32 a0, .int .u32 a1, .int .i32 a2, .int .i32 a3, .int .i32 a4, .int .u8 a5, .int .u8 a6] 50)).drewN q = WA at *
    generalize hV : [Value.int .u32 a0, .int .u32 a1, .int .i32 a2, .int .i32 a3, .int .i32 a4, .int .u8 a5, .int .u8 a6] = V at *
    have hVl : V.length = 7 := by rw [← hV]; rfl
    generalize hpg : np.getD (n / 4096) 0 = pg at *
    have hpbA := (R0.npg _ hm).2
    have R1 : Core B T np tp n e (WA.setCells pg (n % 4096 * 7) V) :=
      R0.kept (some pg) (grown_setCells WA pg _ _) (fun b hb => by
        have : b = pg := (Option.some.inj hb).symm
        subst this
        exact .inl ⟨hm, hpbA.setCells _ _ _ _⟩)
    have R2 := R1.set1 (n + 1)
    have hth : WA.there pg (n % 4096 * 7) V.length := hpbA.there _ _ (by rw [hVl]; omega)
    have e1 : (Value.int .i64 ((n : Int) + 1)) = .int .i64 ((n + 1 : Nat) : Int) := by simp
    rw [e1]
    refine ⟨⟨by rw [List.append_nil]; exact R2, by rw [List.append_nil]; omega, R.fitT⟩, ?_, ?_, ?_, ?_, fun b t m hb h44 _ _ h50 _ => by
      rw [Below.heap_setCell _ _ _ _ (fun er => hb.ne C.tb h44 er), heap_setCells_other pg b (fun er => hb.ne hpb.2 h50 er)]
      exact hgA.block b hb.lt (by simp)⟩
    · have b1 := (Below.refl B w).grown hgA C.le (fun k hk => by cases hk)
      exact (b1.grown (grown_setCells WA pg _ _) (Nat.le_trans C.le b1.size) (fun k hk => by rw [← Option.some.inj hk]; exact hpb.1)).setCell C.hT _
    · rw [List.append_nil]
      refine ⟨hVl, hr, ?_⟩
      rw [hpg]
      exact rangeAt_of_heap (World.rangeAt_setCells_same WA pg (n % 4096 * 7) V hth) (Below.heap_setCell _ _ _ _ (Ne.symm hTp))
    · intro i vs' hi h
      rw [List.append_nil]
      have hA := NodeAt.keep (ext := []) (w' := WA) h (fun b hb => hgA.block b (C.npg b hb).2.lt (by simp))
      rw [List.append_nil] at hA
      obtain ⟨k0, k1, k3⟩ := hA
      refine ⟨k0, k1, ?_⟩
      have hTa : np.getD (i / 4096) 0 ≠ T := fun er => C.tb.ne (C.npg _ (getD_mem k1)).2 (by decide) er.symm
      refine rangeAt_of_heap (World.rangeAt_setCells_apart k3 pg (n % 4096 * 7) V ?_) (Below.heap_setCell _ _ _ _ hTa)
      by_cases hpp : np.getD (i / 4096) 0 = pg
      · right; left
        have : i / 4096 = n / 4096 := nodup_getD C.ndn k1 hr (by rw [hpp, hpg])
        omega
      · exact .inl hpp
    · intro a s' h
      have := TextAt.keep (ext := []) (w' := (WA.setCells pg (n % 4096 * 7) V).setCell ⟨T, 1, none⟩ (.int .i64 (n + 1 : Nat))) h (fun b hb => by
        rw [Below.heap_setCell _ _ _ _ (fun er => C.tb.ne (C.tpg b hb).2 (by decide) er.symm), heap_setCells_other pg b (fun er => hpb.2.ne (C.tpg b hb).2 (by decide) er.symm)]
        exact hgA.block b (C.tpg b hb).2.lt (by simp))
      rw [List.append_nil] at this
      exact this
  · obtain ⟨PGv, hmk, hPG⟩ := PG_exists
    have hne : Value.ownBlock (.slice ao np.length cap) ≠ some T := fun er => by
      obtain ⟨k, hk⟩ := owns_blk ho0 T er
      exact hk.ne C.tb (by decide) rfl
    have hnl : n / 4096 = np.length := by omega
    refine (add_grow PGv hmk hPG w B T n np.length cap ao (np.map pgv) a0 a1 a2 a3 a4 a5 a6 hn hnl (by unfold Hid; simp) h0 C.c1 (fun j => C.tb.frozen j) ho0 C.le hne
      (by obtain ⟨D, hD, hDs⟩ := C.tb; exact ⟨D, hD, by omega⟩)).mono ?_
    rintro e' w' ⟨rfl, W0, w1, gg, cap1, hbl, hsz, hgrow, hown1, hat, rfl⟩
    refine ⟨rfl, [W0.heap.size], ?_⟩
    generalize hV : [Value.int .u32 a0, .int .u32 a1, .int .i32 a2, .int .i32 a3, .int .i32 a4, .int .u8 a5, .int .u8 a6] = V at *
    have hVl : V.length = 7 := by rw [← hV]; rfl
    have hg1 : w.grownBy w1 (Value.ownBlock (.slice ao np.length cap)) := grown_trans (grown_trans (grown_trans (grown_trans (grown_below hbl) (grown_alloc W0 _ _)) (grown_alloc _ _ _)) (grown_drew _ _)) hgrow
    have hNb : Blk w1 W0.heap.size 50 28672 := by
      refine ⟨PGv, ?_, hPG⟩
      rw [hgrow.block W0.heap.size (by simp; omega) (fun er => by have := ho0.lt _ er.symm; omega)]
      exact heap_new1 W0 _ _
    have R1 := C.growN W0.heap.size gg cap1 _ (by omega) h0 ho0 hg1 hNb hown1
    generalize hW2 : w1.setCell ⟨T, 0, none⟩ (.slice (some ⟨gg, 0, none⟩) (np.length + 1) cap1) = W2 at *
    generalize hN : W0.heap.size = N at *
    have hNb2 : Blk W2 N 50 28672 := (R1.npg _ (by simp)).2
    have R2 : Core B T (np ++ [N]) tp n e (W2.setCells N (n % 4096 * 7) V) :=
      R1.kept (some N) (grown_setCells W2 _ _ _) (fun b hb => by
        have : b = N := (Option.some.inj hb).symm
        subst this
        exact .inl ⟨by simp, hNb2.setCells _ _ _ _⟩)
    have R3 := R2.set1 (n + 1)
    have R4 := R3.kept none (grown_drew _ none) (fun b hb => by cases hb)
    have hTN : T ≠ N := by have := C.tb.lt; omega
    have hth : W2.there N (n % 4096 * 7) V.length := hNb2.there _ _ (by rw [hVl]; omega)
    have e1 : (Value.int .i64 ((n : Int) + 1)) = .int .i64 ((n + 1 : Nat) : Int) := by simp
    rw [e1]
    have old : ∀ k, k < w.heap.size → k ≠ T → some k ≠ Value.ownBlock (.slice ao np.length cap) → ((W2.setCells N (n % 4096 * 7) V).setCell ⟨T, 1, none⟩ (.int .i64 (n + 1 : Nat))).drew.heap[k]? = w.heap[k]? := by
      intro k hk hkT hko
      show ((W2.setCells N (n % 4096 * 7) V).setCell ⟨T, 1, none⟩ (.int .i64 (n + 1 : Nat))).heap[k]? = w.heap[k]?
      rw [Below.heap_setCell _ _ _ _ hkT, heap_setCells_other _ _ (by omega), ← hW2, Below.heap_setCell _ _ _ _ hkT]
      exact hg1.block k hk hko
    refine ⟨⟨R4, by simp; omega, R.fitT⟩, ?_, ?_, ?_, ?_, fun b t m hb h44 h61 _ _ _ => old b hb.lt (fun er => hb.ne C.tb h44 er) (fun er => by
      obtain ⟨k, hk⟩ := owns_blk ho0 b er.symm
      exact hb.ne hk h61 rfl)⟩
    · have b1 : Below B w w1 := (Below.refl B w).grown hg1 C.le (fun k hk => (ho0.lt k hk).1)
      have b2 : Below B w W2 := by rw [← hW2]; exact b1.setCell C.hT _
      have hNB : B ≤ N := by have := C.le; omega
      exact ((b2.grown (grown_setCells W2 _ _ _) (Nat.le_trans C.le b2.size) (fun k hk => by rw [← Option.some.inj hk]; exact hNB)).setCell C.hT _).drew
    · refine ⟨hVl, by simp; omega, ?_⟩
      rw [hnl, getD_append_len]
      exact rangeAt_of_heap (World.rangeAt_setCells_same W2 _ _ _ hth) (Below.heap_setCell _ _ _ _ (Ne.symm hTN))
    · intro i vs' _ h
      exact NodeAt.keep h (fun b hb => old b (C.npg b hb).2.lt (fun er => C.tb.ne (C.npg b hb).2 (by decide) er.symm) (fun er => by
        obtain ⟨k, hk⟩ := owns_blk ho0 b er.symm
        exact hk.ne (C.npg b hb).2 (by decide) rfl))
    · intro a s' h
      have := TextAt.keep (ext := []) (w' := ((W2.setCells N (n % 4096 * 7) V).setCell ⟨T, 1, none⟩ (.int .i64 (n + 1 : Nat))).drew) h (fun b hb => old b (C.tpg b hb).2.lt (fun er => C.tb.ne (C.tpg b hb).2 (by decide) er.symm) (fun er => by
        obtain ⟨k, hk⟩ := owns_blk ho0 b er.symm
        exact hk.ne (C.tpg b hb).2 (by decide) rfl))
      rw [List.append_nil] at this
      exact this

/-- The record that newNode adds. -/
def recOf (a L : Nat) (p f q t : Int) : List Value := [.int .u32 a, .int .u32 L, .int .i32 p, .int .i32 f, .int .i32 q, .int .u8 t, .int .u8 0]

/-- What newNode leaves. -/
structure Post (B T : Nat) (np tp : List Nat) (n e : Nat) (s : ByteArray) (p f q t : Int) (w w' : World) (np' tp' : List Nat) : Prop where
  rep : Rep B T np' tp' (n + 1) (endOf e s.size) w'
  bel : Below B w w'
  new : NodeAt np' w' n (recOf (atOf e s.size) s.size p f q t)
  old : ∀ i vs, i < n → NodeAt np w i vs → NodeAt np' w' i vs
  txt : TextAt tp' w' (atOf e s.size) s
  oldT : ∀ a s', a + s'.size ≤ e → TextAt tp w a s' → TextAt tp' w' a s'
  far : Far w w'

set_option maxHeartbeats 1000000 in
set_option maxRecDepth 100000 in
theorem newNode_calls {B T : Nat} {np tp : List Nat} {n e : Nat} {w : World} (R : Hid (Rep B T np tp n e w)) (s : ByteArray) (hs : s.size ≤ 1024) (hb : tp.length < 16000) (hn : n < 2147483647) (p f q t : Int) :
    Calls Ybad.prog 5 #[.pointer (some ⟨T, 0, none⟩), .string s, .int .i32 p, .int .i32 f, .int .i32 q, .int .u8 t] w fun e' w' => e' = .returned (.tuple #[.int .i32 n, .nilIface]) ∧ ∃ np' tp', Post B T np tp n e s p f q t w w' np' tp' := by
  go_enter Ybad.func5, Ybad.ntmps5
  go_wp2_with fail
  refine (tadd_calls R.out s hs hb).mono ?_
  rintro e' w1 ⟨rfl, ext, P1⟩
  have P1' := hide P1
  clear P1
  go_wp2_with fail
  refine (nadd_calls P1'.out.rep hn _ _ _ _ _ _ _).mono ?_
  rintro e2 w2 ⟨rfl, ext2, P2⟩
  have P2' := hide P2
  clear P2
  go_wp2
  go_ret2
  have P1 := P1'.out
  have P2 := P2'.out
  exact ⟨rfl, np ++ ext2, tp ++ ext, P2.rep, P1.bel.trans P2.bel, P2.new, fun i vs hi h => P2.old i vs hi (P1.nod i vs h), P2.txt _ _ P1.txt, fun a s' ha h => P2.txt _ _ (P1.old a s' ha h), P1.far.trans P2.far⟩
end Go.Proofs.YbulkapoqDoor
