import Derived.Test.YbulkapquC9
import Derived.Deep.RegionHeld3
import Derived.Laws.Tables
namespace Go.Proofs.Ybulkapqu
open Go.RowKit Go.Sort

theorem wpList_build_run {P : Program} {ops : Array Oper} {rest : List Oper} {op : Oper} {a : Act} {w : World} {Q : Exit → Act → World → Prop} (hgd : op.guard = none) (t : TypeId) (parts : Array (Nat × Operand)) (ho : op.op = .build t parts)
    (ps : List (Nat × Value)) (hp : (parts.map fun (i, x) => (i, a.eval x)).toList = ps) (cells : Array Value) (hb : P.built t ps = some cells) (h : wpList P ops Q rest (a.put op.dst (.agg cells)) w) : wpList P ops Q (op :: rest) a w :=
  wpList_plain hgd fun _ hK => by
    refine wp_build t parts ho (by rw [hp, hb]; rfl) ?_
    rw [hp, hb]
    exact hK _ _ h

set_option maxRecDepth 100000 in
theorem built110' (b0 b1 b2 b3 b4 b5 b6 b7 b8 b9 b10 b11 b12 b13 b14 b15 b16 b17 b18 b19 : UInt8) : Yba.prog.built 110 [(0, .agg (idV [b0, b1, b2, b3, b4, b5, b6, b7, b8, b9, b10, b11, b12, b13, b14, b15, b16, b17, b18, b19]).toArray)] = some (peerV [b0, b1, b2, b3, b4, b5, b6, b7, b8, b9, b10, b11, b12, b13, b14, b15, b16, b17, b18, b19]).toArray := by kernel_rfl
theorem built110 (l : List UInt8) (hl : l.length = 20) : Yba.prog.built 110 [(0, .agg (idV l).toArray)] = some (peerV l).toArray := by
  exact match l, hl with
  | [b0, b1, b2, b3, b4, b5, b6, b7, b8, b9, b10, b11, b12, b13, b14, b15, b16, b17, b18, b19], _ => built110' b0 b1 b2 b3 b4 b5 b6 b7 b8 b9 b10 b11 b12 b13 b14 b15 b16 b17 b18 b19
def zeroP : Array Value := (peerV (List.replicate 20 0)).toArray
theorem zeroP_eq : zeroP = #[.int .u8 0, .int .u8 0, .int .u8 0, .int .u8 0, .int .u8 0, .int .u8 0, .int .u8 0, .int .u8 0, .int .u8 0, .int .u8 0, .int .u8 0, .int .u8 0, .int .u8 0, .int .u8 0, .int .u8 0, .int .u8 0, .int .u8 0, .int .u8 0, .int .u8 0, .int .u8 0, .int .u64 0, .int .u64 0, .pointer none, .int .u16 0] := rfl
theorem peer_one (l : List UInt8) : (peerV l).toArray.all (·.oneCell') = true := all_oneCell_toArray (by
  intro v hv
  rcases List.mem_append.1 hv with h | h
  · simp only [idV, List.mem_map] at h; obtain ⟨b, _, rfl⟩ := h; rfl
  · simp at h; rcases h with rfl | rfl | rfl | rfl <;> rfl)
theorem peer_info {l : List UInt8} (hl : l.length = 20) : (Yba.prog.info? 110).map (·.size) = some (peerV l).toArray.size := by
  have e : (peerV l).toArray.size = 24 := by simp [length_peerV l hl]
  have h : (Yba.prog.info? 110).map (·.size) = some 24 := by kernel_rfl
  rw [e, h]
theorem peerload {w : World} {B o : Nat} {l : List UInt8} (h : w.rangeAt B o (peerV l)) (hl : l.length = 20) : (loadVar 110 ⟨B, o, none⟩).run Yba.prog w = .ok (.agg (peerV l).toArray) w :=
  run_loadVar_mid _ B o 110 (peerV l) _ h Yba.underlying110 rfl (by have := peer_info hl; simpa using this)
theorem range_pre {w : World} {B o : Nat} {l : List UInt8} (h : w.rangeAt B o (peerV l)) : w.rangeAt B o (idV l) := fun j v hv => h j v (by
  rw [peerV, List.getElem?_append_left ((List.getElem?_eq_some_iff.1 hv).1)]; exact hv)
theorem At.pall {w : World} {b : Nat} {l : List UInt8} {t : TypeId} (h : At w b (peerV l).toArray t) : w.rangeAt b 0 (peerV l) := fun j v hv => by
  rw [h.cell, Nat.zero_add]
  simpa using hv
theorem At.pthere {w : World} {b : Nat} {t : TypeId} {l0 : List UInt8} (h : At w b (peerV l0).toArray t) (hl0 : l0.length = 20) {l : List UInt8} (hl : l.length = 20) : w.there b 0 (peerV l).toArray.size := by
  have := At.there (l := peerV l0) h 0 24 (by rw [length_peerV l0 hl0]; omega)
  have e : (peerV l).toArray.size = 24 := by simp [length_peerV l hl]
  rw [e]
  exact this
theorem At.pput {w : World} {b : Nat} {t : TypeId} {l0 : List UInt8} (h : At w b (peerV l0).toArray t) (hl0 : l0.length = 20) {l : List UInt8} (hl : l.length = 20) : At (w.setCells b 0 (peerV l).toArray.toList) b (peerV l).toArray t := by
  have := At.setCells (peerV l) 0 w (peerV l0) h (by rw [length_peerV l hl, length_peerV l0 hl0]; omega)
  rw [List.take_zero, List.nil_append, List.drop_eq_nil_of_le (by rw [length_peerV l hl, length_peerV l0 hl0]; omega), List.append_nil] at this
  exact this

def nstep (key : List UInt8) (skip : List UInt8 → Bool) (s : List UInt8 × Bool) (l : List UInt8) : List UInt8 × Bool := if (!(skip l) && nearL key l s.1) = true then (l, true) else s
def nearF (key : List UInt8) (skip : List UInt8 → Bool) (s : List UInt8 × Bool) (ids : List (List UInt8)) : List UInt8 × Bool := ids.foldl (nstep key skip) s
theorem nearF_take (key : List UInt8) (skip : List UInt8 → Bool) (s : List UInt8 × Bool) (ids : List (List UInt8)) (k : Nat) (l : List UInt8) (hl : ids[k]? = some l) : nearF key skip s (ids.take (k + 1)) = nstep key skip (nearF key skip s (ids.take k)) l := by
  rw [nearF, List.take_add_one, hl, List.foldl_append]
  rfl
theorem nearF_len (key : List UInt8) (skip : List UInt8 → Bool) : ∀ (ids : List (List UInt8)) (s : List UInt8 × Bool), s.1.length = 20 → (∀ l ∈ ids, l.length = 20) → (nearF key skip s ids).1.length = 20
  | [], s, h, _ => h
  | l :: ids, s, h, h2 => by
    refine nearF_len key skip ids (nstep key skip s l) ?_ (fun x hx => h2 x (List.mem_cons_of_mem _ hx))
    unfold nstep
    split
    · exact h2 l (List.mem_cons_self ..)
    · exact h
theorem nstep_hit (key : List UInt8) (skip : List UInt8 → Bool) (s : List UInt8 × Bool) (l : List UInt8) (h1 : skip l = false) (h2 : nearL key l s.1 = true) : nstep key skip s l = (l, true) := by
  unfold nstep; rw [h1, h2]; rfl
theorem nstep_skip (key : List UInt8) (skip : List UInt8 → Bool) (s : List UInt8 × Bool) (l : List UInt8) (h1 : skip l = true) : nstep key skip s l = s := by
  unfold nstep; rw [h1]; rfl
theorem nstep_far (key : List UInt8) (skip : List UInt8 → Bool) (s : List UInt8 × Bool) (l : List UInt8) (h1 : skip l = false) (h2 : nearL key l s.1 = false) : nstep key skip s l = s := by
  unfold nstep; rw [h1, h2]; rfl
/-- What the walk holds. -/
structure NL (w : World) (key b : List UInt8) (sides : Array Value) (W : World) : Prop where
  gr : Gr w W
  hK : At W w.heap.size (idV key).toArray 37
  hR : At W (w.heap.size + 1) zeroP 110
  hB : At W (w.heap.size + 1 + 1) (peerV b).toArray 110
  hS : At W (w.heap.size + 1 + 1 + 1) sides 70
theorem NL.put {w : World} {key b : List UInt8} {sides : Array Value} {W : World} (h : NL w key b sides W) (hb : b.length = 20) (l : List UInt8) (hl : l.length = 20) : NL w key l sides (W.setCells (w.heap.size + 1 + 1) 0 (peerV l).toArray.toList) :=
  ⟨Gr.setCells _ (by omega) _ _ _ h.gr, h.hK.of_heap (heap_setCells_other _ _ (by omega) _ _ _), h.hR.of_heap (heap_setCells_other _ _ (by omega) _ _ _), h.hB.pput hb hl, h.hS.of_heap (heap_setCells_other _ _ (by omega) _ _ _)⟩
theorem NL.step {w : World} {key b : List UInt8} {sides : Array Value} {W W' : World} (h : NL w key b sides W) (g : Gr W W') : NL w key b sides W' := ⟨h.gr.trans g, h.hK.gr g, h.hR.gr g, h.hB.gr g, h.hS.gr g⟩

theorem results_cell_slot {P : Program} {fn : Func} {p u : Tmp} {ty : TypeId} (h : fn.results = #[.cell p ty, .tmp u]) (tmps : Array Value) (w : World) (g : Nat) (t : TypeId) (cs : Array Value) (fr : Nat × Nat) (d : TypeDesc)
    (hp : tmps.getD p undef = .pointer (some ⟨g, 0, none⟩)) (hg : w.heap[g]? = some (.cells cs t fr))
    (hu : P.underlying ty = some d) (hd : (match d with | .struct _ | .array _ _ => true | _ => false) = true) (hi : (P.info? ty).map (·.size) = some cs.size) :
    (results fn tmps).run P w = .ok (.tuple #[.agg cs, tmps.getD u undef]) w := by
  have hp' : tmps[p]?.getD undef = .pointer (some ⟨g, 0, none⟩) := by simpa using hp
  simp [results, h, hp', asAddr, run_loadVar_row w g t ty cs fr d hg hu hd hi]

set_option maxHeartbeats 4000000 in
set_option maxRecDepth 1000000 in
theorem nearest_calls (w : World) (LK lo : Nat) (self key : List UInt8) (hself : self.length = 20) (hkey : key.length = 20) (hs : w.rangeAt LK lo (idV self)) (v : Value) (ids : List (List UInt8)) (b o cap : Nat)
    (hcw : w.cell? ⟨LK, lo + 21, none⟩ = some v) (hp : PeersAt w v ids b o cap) (hccw : w.cell? ⟨LK, lo + 22, none⟩ = some (.slice none 0 0)) (p1 p2 p3 : Value) (skip : List UInt8 → Bool)
    (hc : ∀ W, Gr w W → ∀ l ∈ ids, Calls Yba.prog 73 #[.agg (idV l).toArray, p1, p2, p3] W fun e w' => e = .returned (.bool (skip l)) ∧ Gr W w') (hlen : ids.length ≤ 100000) :
    Calls Yba.prog 72 #[.pointer (some ⟨LK, lo, none⟩), .agg (idV key).toArray, .func (.func 73) #[] #[p1, p2, p3]] w fun e w' => e = .returned (.tuple #[.agg (peerV (nearF key skip (self, false) ids).1).toArray, .bool (nearF key skip (self, false) ids).2]) ∧ Gr w w' := by
  have mixed : Yba.prog.follows .mixedOrders = true := by kernel_rfl
  obtain ⟨va, vn, vc, rfl⟩ : ∃ a n c, v = .slice a n c := by
    rcases hp.val with h | ⟨h, _⟩
    · exact ⟨_, _, _, h⟩
    · exact ⟨_, _, _, h⟩
  obtain ⟨S, hS⟩ : ∃ S, S = w.heap.size := ⟨_, rfl⟩
  obtain ⟨w1, hw1⟩ : ∃ w1, w1 = (w.alloc (.cells (idV key).toArray 37)).alloc (.cells zeroP 110) := ⟨_, rfl⟩
  have g1 : Gr w w1 := by rw [hw1]; exact ((Gr.refl w).alloc _).alloc _
  have s1 : w1.heap.size = S + 1 + 1 := by rw [hw1, World.size_alloc, World.size_alloc, hS]
  have aK : At w1 S (idV key).toArray 37 := by rw [hw1, hS]; exact (At.new w _ _).alloc _
  have aR : At w1 (S + 1) zeroP 110 := by
    have := At.new (w.alloc (.cells (idV key).toArray 37)) zeroP 110
    rw [World.size_alloc, ← hS] at this
    rw [hw1]; exact this
  obtain ⟨w2, hw2⟩ : ∃ w2, w2 = w1.alloc (.cells zeroP 110) := ⟨_, rfl⟩
  have aZ : At w2 (S + 1 + 1) (peerV (List.replicate 20 0)).toArray 110 := by rw [hw2, ← s1]; exact At.new w1 _ _
  obtain ⟨w3, hw3⟩ : ∃ w3, w3 = w2.setCells (S + 1 + 1) 0 (peerV self).toArray.toList := ⟨_, rfl⟩
  have aB : At w3 (S + 1 + 1) (peerV self).toArray 110 := by rw [hw3]; exact aZ.pput (by simp) hself
  have g3' : Gr w1 w3 := by rw [hw3, hw2]; exact Gr.setCells _ (by omega) _ _ _ ((Gr.refl w1).alloc _)
  have s3 : w3.heap.size = S + 1 + 1 + 1 := by rw [hw3, size_setCells, hw2, World.size_alloc, s1]
  have g3 : Gr w w3 := g1.trans g3'
  have LS := hide (idload (rangeAt_gr g1 hs) hself)
  have T2 := hide (aZ.pthere (by simp) hself)
  have HO := hide (peer_one self)
  have HN := hide (peer_info hself)
  have HBu := hide (built110 self hself)
  have HW1 := hide hw1
  have HW2 := hide hw2
  have HW3 := hide hw3
  have HS := hide hS
  have HS1 := hide s1
  have HZ := hide zeroP_eq
  have HF : Hid (Gr w w3 ∧ At w3 S (idV key).toArray 37 ∧ At w3 (S + 1) zeroP 110 ∧ At w3 (S + 1 + 1) (peerV self).toArray 110 ∧ w3.heap.size = S + 1 + 1 + 1) := ⟨g3, aK.gr g3', aR.gr g3', aB, s3⟩
  have HP : Hid (w.cell? ⟨LK, lo + 21, none⟩ = some (.slice va vn vc) ∧ PeersAt w (.slice va vn vc) ids b o cap ∧ w.cell? ⟨LK, lo + 22, none⟩ = some (.slice none 0 0)) := ⟨hcw, hp, hccw⟩
  have HC := hide hc
  clear hw1 hw2 hw3 hS g1 aK aR aZ aB g3' s3 g3 hs hcw hp hccw hc
  go_enter Yba.func72, Yba.ntmps72
  go_upto_region 1 with fail
  rw [← HZ.out, ← HW1.out, ← HS.out]
  go_upto_region 2 with (first | refine wpList_load_run rfl 37 _ rfl LK lo rfl _ LS.out ?_ | refine wpList_build_run rfl 110 _ rfl [(0, .agg (idV self).toArray)] (by simp [Act.eval, Act.put]) _ HBu.out ?_ | (rw [← HZ.out, ← HW2.out]; refine wpList_store_mid rfl 110 _ _ rfl (S + 1 + 1) 0 _ rfl rfl T2.out HN.out HO.out ?_))
  rw [show w2.setCells (S + 1 + 1) 0 (peerV self) = w3 from HW3.out.symm]
  have s3 := HF.out.2.2.2.2
  have HQ : Hid (w3.cell? ⟨LK, lo + 21, none⟩ = some (.slice va vn vc) ∧ w3.cell? ⟨LK, lo + 22, none⟩ = some (.slice none 0 0)) := ⟨cell_gr HF.out.1 HP.out.1, cell_gr HF.out.1 HP.out.2.2⟩
  clear HW1 HW2 HW3 LS T2 HO HN HBu s1
  go_cut [27, 28, 29] (fun s27 s28 s29 wx => s27 = .slice (some ⟨S + 1 + 1 + 1, 0, none⟩) 2 2 ∧ s28 = .int .i64 2 ∧ s29 = .int .i64 0 ∧ Aside (NL w key self #[.slice va vn vc, .slice none 0 0] wx))
  case first =>
    refine wp_region_held_drew (S := Gr w3) (by kernel_rfl) ((Gr.refl w3).drew) (fun hHeld => ?_)
    refine wpAnyH_take (i := 0) (v := ?_) rfl (by kernel_rfl) (by kernel_rfl) (by kernel_rfl) (fun _ _ _ h => h) (Or.inl ⟨by rfl, ?_⟩) (by assumption) ?_
    rotate_left
    · intro w hSw; go_simp; try with_reducible rfl
    refine wpAnyH_take (i := 1) (v := ?_) rfl (by kernel_rfl) (by kernel_rfl) (by kernel_rfl) (fun _ _ _ h => h) (Or.inl ⟨by rfl, ?_⟩) (by assumption) ?_
    rotate_left
    · intro w hSw; go_simp; try with_reducible rfl
    refine wpAnyH_take (i := 2) (v := ?_) rfl (by kernel_rfl) (by kernel_rfl) (by kernel_rfl) (fun _ _ _ h => h) (Or.inl ⟨by rfl, ?_⟩) (by assumption) ?_
    rotate_left
    · intro w hSw; go_simp; try with_reducible rfl
    refine wpAnyH_take (i := 3) (v := ?_) rfl (by kernel_rfl) (by kernel_rfl) (by kernel_rfl) (fun _ _ _ h => h) (Or.inl ⟨by rfl, ?_⟩) (by assumption) ?_
    rotate_left
    · intro w hSw; have q1 := cell_gr hSw HQ.out.1; go_simp; try with_reducible rfl
    refine wpAnyH_take (i := 4) (v := ?_) rfl (by kernel_rfl) (by kernel_rfl) (by kernel_rfl) (fun _ _ _ h => h) (Or.inl ⟨by rfl, ?_⟩) (by assumption) ?_
    rotate_left
    · intro w hSw; go_simp; try with_reducible rfl
    refine wpAnyH_take (i := 5) (v := ?_) rfl (by kernel_rfl) (by kernel_rfl) (by kernel_rfl) (fun _ _ _ h => h) (Or.inl ⟨by rfl, ?_⟩) (by assumption) ?_
    rotate_left
    · intro w hSw; go_simp; try with_reducible rfl
    refine wpAnyH_take (i := 6) (v := ?_) rfl (by kernel_rfl) (by kernel_rfl) (by kernel_rfl) (fun _ _ _ h => h) (Or.inl ⟨by rfl, ?_⟩) (by assumption) ?_
    rotate_left
    · intro w hSw; go_simp; try with_reducible rfl
    refine wpAnyH_take (i := 7) (v := ?_) rfl (by kernel_rfl) (by kernel_rfl) (by kernel_rfl) (fun _ _ _ h => h) (Or.inl ⟨by rfl, ?_⟩) (by assumption) ?_
    rotate_left
    · intro w hSw; have q2 := cell_gr hSw HQ.out.2; go_simp; try with_reducible rfl
    refine wpAnyH_take (i := 10) (v := ?_) rfl (by kernel_rfl) (by kernel_rfl) (by kernel_rfl) (fun _ _ _ h => h) (Or.inl ⟨by rfl, ?_⟩) (by assumption) ?_
    rotate_left
    · intro w hSw; go_simp; try with_reducible rfl
    refine wpAnyH_ready (rs := [8]) (by kernel_rfl) (by simp) ?_
    refine AllReadyH.cons rfl (fun K hK => ?_) AllReadyH.nil
    go_simp
    refine hK.out _ _ (hHeld.alloc _) (fun hHeld2 => ?_)
    have hN : NL w key self #[.slice va vn vc, .slice none 0 0] ((w3.alloc (.cells #[.slice va vn vc, .slice none 0 0] 70)).drew) := by
      obtain ⟨f1, f2, f3, f4, f5⟩ := HF.out
      have gd : Gr w3 ((w3.alloc (.cells #[.slice va vn vc, .slice none 0 0] 70)).drew) := ((Gr.refl w3).alloc _).drew
      refine ⟨f1.trans gd, ?_, ?_, ?_, ?_⟩
      · rw [← HS.out]; exact f2.gr gd
      · rw [← HS.out]; exact f3.gr gd
      · rw [← HS.out]; exact f4.gr gd
      · rw [← HS.out, ← f5]; exact At.new w3 _ _
    clear hHeld hK K
    generalize (w3.alloc (.cells #[.slice va vn vc, .slice none 0 0] 70)).drew = V1 at *
    refine wpAnyH_ready (rs := [9]) (by kernel_rfl) (by simp) ?_
    refine AllReadyH.cons rfl (fun K hK => ?_) AllReadyH.nil
    go_simp
    refine hK.out _ _ hHeld2 (fun hHeld3 => ?_)
    refine wpAnyH_done (by kernel_rfl) ?_ _
    go_wp2_with fail
    go_meet
    exact ⟨rfl, rfl, rfl, hN⟩
  case rest =>
    obtain ⟨rfl, rfl, rfl, J⟩ := hcut
    clear HQ HF s3
    go_wp2
    go_loopg [29, 9, 11, 13] 2 (fun gg s29 s9 s11 s13 wr => ∃ d : Nat, s29 = .int .i64 d ∧ d ≤ 2 ∧ 2 - d ≤ gg ∧ ∃ bl f, s9 = .bool f ∧ Aside ((d = 0 ∧ (bl, f) = (self, false)) ∨ (0 < d ∧ (bl, f) = nearF key skip (self, false) ids)) ∧ Aside (NL w key bl #[.slice va vn vc, .slice none 0 0] wr))
    case atStart => exact ⟨0, rfl, Nat.zero_le _, by omega, self, false, rfl, .inl ⟨rfl, rfl⟩, J⟩
    case round =>
      clear J
      obtain ⟨d, rfl, hd2, hg, bl, f, rfl, hbf, J⟩ := hrel
      have hcell : ∀ j, wr.cell? ⟨S + 1 + 1 + 1, j, none⟩ = (#[.slice va vn vc, .slice none 0 0] : Array Value)[j]? := fun j => by rw [HS.out]; exact J.out.hS.cell j
      by_cases h0 : d = 0
      · subst h0
        have c0 := hcell 0
        simp at c0
        have J0 : Aside ((bl, f) = nearF key skip (self, false) (ids.take 0)) := by
          rcases hbf.out with ⟨_, h⟩ | ⟨h, _⟩
          · exact h
          · omega
        clear hbf hcell
        obtain ⟨n, hvn⟩ : ∃ n, n = ids.length := ⟨_, rfl⟩
        have hvn' : vn = n := by
          rcases HP.out.2.1.val with h | ⟨h, h'⟩
          · injection h with _ h2 _; rw [h2, hvn]
          · injection h with _ h2 _; rw [h2, hvn, h']; rfl
        subst hvn'
        have hln : vn ≤ 100000 := by omega
        have HVN := hide hvn
        clear hvn
        go_wp2
        go_loopg [35, 9, 13] vn (fun gg s35 s9 s13 wr => ∃ k : Nat, s35 = .int .i64 k ∧ k ≤ vn ∧ vn - k ≤ gg ∧ ∃ bl f, s9 = .bool f ∧ Aside ((bl, f) = nearF key skip (self, false) (ids.take k)) ∧ Aside (NL w key bl #[.slice va vn vc, .slice none 0 0] wr))
        case atStart => exact ⟨0, rfl, Nat.zero_le _, by omega, bl, f, rfl, J0, J⟩
        case round =>
          clear J0 J c0
          obtain ⟨k, rfl, hkn, hg2, bl, f, rfl, hbf, J⟩ := hrel
          by_cases hk : k < vn
          · have hkz : (k : Int) < (vn : Int) := by omega
            have hkz0 : (0:Int) ≤ (k : Int) := by omega
            obtain ⟨l, hl⟩ : ∃ l, ids[k]? = some l := ⟨_, List.getElem?_eq_getElem (by have := HVN.out; omega)⟩
            have hmem := List.mem_of_getElem? hl
            have hl20 := HP.out.2.1.len l hmem
            obtain rfl : va = some ⟨b, o, none⟩ := by
              rcases HP.out.2.1.val with h | ⟨_, h'⟩
              · injection h with h1 _ _
              · rw [h'] at hl; simp at hl
            have hbl20 : bl.length = 20 := by
              have h1 := congrArg Prod.fst hbf.out
              rw [show bl = (nearF key skip (self, false) (ids.take k)).1 from h1]
              exact nearF_len key skip _ _ hself (fun x hx => HP.out.2.1.len x (List.mem_of_mem_take hx))
            have hstep := nearF_take key skip (self, false) ids k l hl
            rw [← hbf.out] at hstep
            obtain ⟨X, hX⟩ : ∃ X, X = wr.heap.size := ⟨_, rfl⟩
            obtain ⟨wa, hwa⟩ : ∃ wa, wa = wr.alloc (.cells zeroP 110) := ⟨_, rfl⟩
            have aX : At wa X (peerV (List.replicate 20 0)).toArray 110 := by rw [hwa, hX]; exact At.new wr _ _
            obtain ⟨wb, hwb⟩ : ∃ wb, wb = wa.setCells X 0 (peerV l).toArray.toList := ⟨_, rfl⟩
            have aX2 : At wb X (peerV l).toArray 110 := by rw [hwb]; exact aX.pput (by simp) hl20
            have gb : Gr wr wb := by rw [hwb, hwa]; exact Gr.setCells _ (by omega) _ _ _ ((Gr.refl wr).alloc _)
            have Jb := J.out.step gb
            have L1 := hide (peerload (rangeAt_gr J.out.gr (HP.out.2.1.row k l hl)) hl20)
            have TX := hide (aX.pthere (by simp) hl20)
            have HOl := hide (peer_one l)
            have HNl := hide (peer_info hl20)
            have LX : Hid (∀ W, Gr wb W → (loadVar 37 ⟨X, 0, none⟩).run Yba.prog W = .ok (.agg (idV l).toArray) W) := fun W hW => idload (range_pre (aX2.gr hW).pall) hl20
            have LK2 : Hid (∀ W, Gr wb W → (loadVar 37 ⟨S, 0, none⟩).run Yba.prog W = .ok (.agg (idV key).toArray) W) := fun W hW => by
              rw [HS.out]; exact idload (Jb.step hW).hK.all hkey
            have LB : Hid (∀ W, Gr wb W → (loadVar 37 ⟨S + 1 + 1, 0, none⟩).run Yba.prog W = .ok (.agg (idV bl).toArray) W) := fun W hW => by
              rw [HS.out]; exact idload (range_pre (Jb.step hW).hB.pall) hbl20
            have LP : Hid (∀ W, Gr wb W → (loadVar 110 ⟨X, 0, none⟩).run Yba.prog W = .ok (.agg (peerV l).toArray) W) := fun W hW => peerload (aX2.gr hW).pall hl20
            have HC2 : Hid (∀ W, Gr wb W → Calls Yba.prog 73 #[.agg (idV l).toArray, p1, p2, p3] W fun e w' => e = .returned (.bool (skip l)) ∧ Gr W w') := fun W hW => HC.out W (Jb.gr.trans hW) l hmem
            have HN19 : Hid (∀ W, Calls Yba.prog 19 #[.agg (idV key).toArray, .agg (idV l).toArray, .agg (idV bl).toArray] W fun e w' => e = .returned (.bool (nearL key l bl)) ∧ Gr W w') := fun W => near_calls W key l bl hkey hl20 hbl20
            have HJb := hide Jb
            have HX := hide hX
            have HWa := hide hwa
            have HWb := hide hwb
            have HST := hide hstep
            obtain ⟨sk, hsk⟩ : ∃ b, skip l = b := ⟨_, rfl⟩
            obtain ⟨nb, hnb⟩ : ∃ b, nearL key l bl = b := ⟨_, rfl⟩
            rw [hsk] at HC2
            rw [hnb] at HN19
            have HSK := hide hsk
            have HNB := hide hnb
            clear hl hmem hstep aX aX2 gb Jb hX hwa hwb J hbf hsk hnb
            go_upto_region 8 with (first | refine wpList_load_run rfl 110 _ rfl b (o + k * 24) rfl _ L1.out ?_ | (rw [← HZ.out, ← HWa.out, ← HX.out]; refine wpList_store_mid rfl 110 _ _ rfl X 0 _ rfl rfl TX.out HNl.out HOl.out ?_))
            rw [show wa.setCells X 0 (peerV l) = wb from HWb.out.symm]
            clear L1 TX HWa HWb HX
            have gw : Gr wb wb := Gr.refl wb
            cases sk with
            | true =>
              go_wp2_with (first | refine wpList_load_run rfl 37 _ rfl X 0 rfl _ (LX.out _ (by assumption)) ?_ | refine wpList_load_want 37 _ rfl S 0 rfl _ (LK2.out _ (by assumption)) (by kernel_rfl) ?_ | refine wpList_load_want 37 _ rfl X 0 rfl _ (LX.out _ (by assumption)) (by kernel_rfl) ?_ | refine wpList_load_want 37 _ rfl (S + 1 + 1) 0 rfl _ (LB.out _ (by assumption)) (by kernel_rfl) ?_)
              refine (HC2.out _ gw).mono ?_
              rintro e w5 ⟨rfl, g5⟩
              have J2 : Aside ((bl, f) = nearF key skip (self, false) (ids.take (k + 1))) := by
                show _ = _
                rw [HST.out, nstep_skip key skip (bl, f) l HSK.out]
              have JN : Aside (NL w key bl #[.slice (some ⟨b, o, none⟩) vn vc, .slice none 0 0] w5) := HJb.out.step (gw.trans g5)
              clear HC2 HN19 LX LK2 LB LP HJb HST HSK HNB
              go_wp2
              go_roundg (vn - (k + 1))
              case measure => omega
              case rel => exact ⟨k + 1, by go_num, by omega, Nat.le_refl _, bl, f, rfl, J2, JN⟩
            | false =>
              go_wp2_with (first | refine wpList_load_run rfl 37 _ rfl X 0 rfl _ (LX.out _ (by assumption)) ?_ | refine wpList_load_want 37 _ rfl S 0 rfl _ (LK2.out _ (by assumption)) (by kernel_rfl) ?_ | refine wpList_load_want 37 _ rfl X 0 rfl _ (LX.out _ (by assumption)) (by kernel_rfl) ?_ | refine wpList_load_want 37 _ rfl (S + 1 + 1) 0 rfl _ (LB.out _ (by assumption)) (by kernel_rfl) ?_)
              refine (HC2.out _ gw).mono ?_
              rintro e w5 ⟨rfl, g5⟩
              have gw5 := gw.trans g5
              clear gw g5
              go_wp2_with (first | refine wpList_load_run rfl 37 _ rfl X 0 rfl _ (LX.out _ (by assumption)) ?_ | refine wpList_load_want 37 _ rfl S 0 rfl _ (LK2.out _ (by assumption)) (by kernel_rfl) ?_ | refine wpList_load_want 37 _ rfl X 0 rfl _ (LX.out _ (by assumption)) (by kernel_rfl) ?_ | refine wpList_load_want 37 _ rfl (S + 1 + 1) 0 rfl _ (LB.out _ (by assumption)) (by kernel_rfl) ?_)
              refine (HN19.out _).mono ?_
              rintro e w6 ⟨rfl, g6⟩
              have gw6 := gw5.trans g6
              clear gw5 g6
              cases nb with
              | false =>
                have J2 : Aside ((bl, f) = nearF key skip (self, false) (ids.take (k + 1))) := by
                  show _ = _
                  rw [HST.out, nstep_far key skip (bl, f) l HSK.out HNB.out]
                have JN : Aside (NL w key bl #[.slice (some ⟨b, o, none⟩) vn vc, .slice none 0 0] w6) := HJb.out.step gw6
                clear HC2 HN19 LX LK2 LB LP HJb HST HSK HNB
                go_wp2
                go_roundg (vn - (k + 1))
                case measure => omega
                case rel => exact ⟨k + 1, by go_num, by omega, Nat.le_refl _, bl, f, rfl, J2, JN⟩
              | true =>
                have J2 : Aside ((l, true) = nearF key skip (self, false) (ids.take (k + 1))) := by
                  show _ = _
                  rw [HST.out, nstep_hit key skip (bl, f) l HSK.out HNB.out]
                have hJ6 := HJb.out.step gw6
                have JN : Aside (NL w key l #[.slice (some ⟨b, o, none⟩) vn vc, .slice none 0 0] (w6.setCells (S + 1 + 1) 0 (peerV l).toArray.toList)) := by
                  show NL _ _ _ _ _
                  rw [HS.out]; exact hJ6.put hbl20 l hl20
                have TB := hide (hJ6.hB.pthere hbl20 hl20)
                rw [← HS.out] at TB
                have LP6 := hide (LP.out _ gw6)
                clear HC2 HN19 LX LK2 LB LP HJb HST HSK HNB hJ6 gw6
                go_wp2_with (first | refine wpList_load_run rfl 110 _ rfl X 0 rfl _ LP6.out ?_ | refine wpList_store_mid rfl 110 _ _ rfl (S + 1 + 1) 0 _ rfl rfl TB.out HNl.out HOl.out ?_)
                go_roundg (vn - (k + 1))
                case measure => omega
                case rel => exact ⟨k + 1, by go_num, by omega, Nat.le_refl _, l, true, rfl, J2, JN⟩
          · obtain rfl : k = vn := by omega
            have J1 : Aside ((0 + 1 = 0 ∧ (bl, f) = (self, false)) ∨ (0 < 0 + 1 ∧ (bl, f) = nearF key skip (self, false) ids)) := by
              have := hbf.out
              rw [List.take_of_length_le (by rw [← HVN.out]; exact Nat.le_refl _)] at this
              exact .inr ⟨by omega, this⟩
            clear hbf
            go_wp2
            go_roundg (2 - (0 + 1))
            case measure => omega
            case rel => exact ⟨0 + 1, by go_num, by omega, Nat.le_refl _, bl, f, rfl, J1, J⟩
      · by_cases h1 : d = 1
        · subst h1
          have c1 := hcell 1
          simp at c1
          have J1 : Aside ((1 + 1 = 0 ∧ (bl, f) = (self, false)) ∨ (0 < 1 + 1 ∧ (bl, f) = nearF key skip (self, false) ids)) := by
            rcases hbf.out with ⟨h, _⟩ | ⟨_, h⟩
            · omega
            · exact .inr ⟨by omega, h⟩
          clear hbf hcell
          go_wp2
          go_loopg [35, 9, 13] 0 (fun gg s35 s9 s13 wr2 => s35 = .int .i64 0 ∧ s9 = .bool f ∧ Aside (NL w key bl #[.slice va vn vc, .slice none 0 0] wr2))
          case atStart => exact ⟨rfl, rfl, J⟩
          case round =>
            clear J c1
            obtain ⟨rfl, rfl, J⟩ := hrel
            go_wp2
            go_roundg (2 - (1 + 1))
            case measure => omega
            case rel => exact ⟨1 + 1, by go_num, by omega, Nat.le_refl _, bl, f, rfl, J1, J⟩
        · obtain rfl : d = 2 := by omega
          have hbf2 : (bl, f) = nearF key skip (self, false) ids := by
            rcases hbf.out with ⟨h, _⟩ | ⟨_, h⟩
            · omega
            · exact h
          have hbl20 : bl.length = 20 := by
            have h1 := congrArg Prod.fst hbf2
            rw [show bl = (nearF key skip (self, false) ids).1 from h1]
            exact nearF_len key skip _ _ hself (fun x hx => HP.out.2.1.len x hx)
          have LBe := hide (peerload J.out.hB.pall hbl20)
          have TR := hide (At.pthere (l0 := List.replicate 20 0) J.out.hR (by simp) hbl20)
          have FR := hide (At.pput (l0 := List.replicate 20 0) J.out.hR (by simp) hbl20)
          have gR : Hid (Gr w (wr.setCells (w.heap.size + 1) 0 (peerV bl).toArray.toList)) := Gr.setCells _ (by omega) _ _ _ J.out.gr
          rw [← HS.out] at LBe TR FR gR
          have HOb := hide (peer_one bl)
          have HNb := hide (peer_info hbl20)
          have HBF := hide hbf2
          clear hbf hbf2 hcell J
          go_wp2_with (first | refine wpList_load_run rfl 110 _ rfl (S + 1 + 1) 0 rfl _ LBe.out ?_ | refine wpList_store_mid rfl 110 _ _ rfl (S + 1) 0 _ rfl rfl TR.out HNb.out HOb.out ?_)
          refine bodyPost_ret_by (results_cell_slot (P := Yba.prog) (p := 6) (u := 7) (ty := 110) rfl _ _ (S + 1) 110 (peerV bl).toArray _ _ rfl FR.out Yba.underlying110 rfl HNb.out) rfl ?_
          exact ⟨by rw [← HBF.out]; rfl, gR.out⟩
end Go.Proofs.Ybulkapqu
