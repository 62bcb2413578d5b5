import Derived.Test.YbulkapquA8
import Derived.Test.YbulkapquA9
import Derived.Test.YbulkapquB6
import Derived.Laws.BitsAllLaws
import Derived.Deep.DeepCutAuto
import Derived.Deep.RegionHeld3
namespace Go.Proofs.Ybulkapqu
open Go.RowKit Go.Sort

theorem info4 : (Yba.prog.info? 4).map (fun i => (i.zero, i.size, i.bytes)) = some (some (.bool false), 1, 1) := by kernel_rfl
theorem mk_held (n : Nat) (hn : n ≤ 1000000) (w : World) : (Instr.makeSlice 30 (.int .i64 (n : Int)) (.int .i64 (n : Int))).run Yba.prog w = .ok (.slice (some ⟨w.heap.size, 0, none⟩) n n) (w.alloc (.cells ((List.replicate n false).map Value.bool).toArray 4)) := by
  obtain ⟨i0, hi0, hz0, hz1, hz2⟩ := info_parts info4
  have h := run_make (P := Yba.prog) w 30 4 i0 _ Yba.underlying30 hi0 hz0 .i64 .i64 n n (by omega) (by omega) (by rw [hz2]; omega) (by omega)
  rw [hz1] at h
  simp only [Int.toNat_natCast, Nat.mul_one] at h
  rw [h]
  have e : madeCells (Value.cells (.bool false)) n = ((List.replicate n false).map Value.bool).toArray := by
    have := toList_madeCells_one (Value.bool false) n
    have h2 : (madeCells #[Value.bool false] n).toList.toArray = (List.replicate n (Value.bool false)).toArray := by rw [this]
    simpa [Value.cells] using h2
  rw [e]
def fillB (n k : Nat) : List Bool := List.replicate k true ++ List.replicate (n - k) false
theorem fillB_step (n k : Nat) (hk : k < n) : (fillB n k).set k true = fillB n (k + 1) := by
  obtain ⟨r, hr⟩ : ∃ r, n - k = r + 1 := ⟨n - k - 1, by omega⟩
  have hr' : n - (k + 1) = r := by omega
  rw [fillB, fillB, hr, hr', List.replicate_succ, List.set_append_right _ _ (by simp)]
  simp [List.replicate_succ']
theorem fillB_all (n : Nat) : fillB n n = List.replicate n true := by simp [fillB]
theorem length_fillB (n k : Nat) (hk : k ≤ n) : (fillB n k).length = n := by simp [fillB]; omega

/-- The row of what is held. -/
def HeldAt (w : World) (H : Nat) (hs : List Bool) : Prop := At w H (hs.map Value.bool).toArray 4
theorem HeldAt.set {w : World} {H : Nat} {hs : List Bool} (h : HeldAt w H hs) (i : Nat) (q : Bool) : HeldAt (w.setCell ⟨H, i, none⟩ (.bool q)) H (hs.set i q) := by
  have := At.set h i (.bool q)
  rw [List.setIfInBounds_toArray, ← List.map_set] at this
  exact this
theorem HeldAt.cell {w : World} {H : Nat} {hs : List Bool} (h : HeldAt w H hs) (i : Nat) (hi : i < hs.length) : w.cell? ⟨H, i, none⟩ = some (.bool (hs.getD i false)) := by
  rw [At.cell h i]
  simp [List.getD_eq_getElem?_getD, hi]

structure SInv (w : World) (S O B R H n : Nat) (ids : List (List UInt8)) (xs : List Nat) (hs : List Bool) (wr : World) : Prop where
  ring : Ring wr O B R n n n ids xs
  nd : xs.Nodup
  pw : xs.Pairwise (fun a b => val ids a ≤ val ids b)
  held : HeldAt wr H hs
  len : hs.length = n
  mem : ∀ x, x < n → (x ∈ xs ↔ hs.getD x false = true)
  bel : Below S w wr
theorem SInv.ne {w : World} {S O B R H n : Nat} {ids : List (List UInt8)} {xs : List Nat} {hs : List Bool} {wr : World} (h : SInv w S O B R H n ids xs hs wr) : H ≠ O ∧ H ≠ R ∧ H ≠ B := by
  refine ⟨At.ne h.held h.ring.hO (by decide), ?_, ?_⟩
  · obtain ⟨sp, h1, _⟩ := h.ring.hR
    exact At.ne h.held h1 (by decide)
  · obtain ⟨C, hC⟩ := h.ring.hI.blk
    exact At.ne h.held hC (by decide)
theorem quiet_neq37 {C : World → Prop} {o : Oper} {a : Act} {K : Act → Prop} (x y : Operand) (ho : o.op = .binOp .neq 37 x y 37) (la : List UInt8) (hx : a.eval x = .agg (idV la).toArray) (hy : a.eval y = .agg (idV la).toArray)
    (hla : la.length = 20) (h : K (a.put o.dst (.bool false))) : o.quiet Yba.prog a C K := by
  have hgd : Yba.prog.eqGuardType Yba.prog.depth 37 = false := by kernel_rfl
  have hq := run_eqIds la la hla hla
  refine ⟨_, fun w' hw' => ?_, h⟩
  have hrun : (execOp a.eval o).run Yba.prog w' = .ok (.value (.bool false)) w' := by
    unfold execOp
    simp only [ho, hx, hy]
    simp only [Sem.run_bind, run_eqGuard_agg w' .neq 37 x y _ _ hgd, Result.andThen_ok, run_neq_struct, hq, Sem.run_pure]
    simp
  unfold Oper.quietAt
  rw [hrun]
  exact ⟨rfl, rfl⟩
theorem getD_set (hs : List Bool) (i x : Nat) (q : Bool) (hi : i < hs.length) : (hs.set i q).getD x false = if x = i then q else hs.getD x false := by
  simp only [List.getD_eq_getElem?_getD, List.getElem?_set]
  by_cases e : i = x
  · subst e
    simp [hi]
  · rw [if_neg e, if_neg (fun h => e h.symm)]
theorem Ring.setOther {w : World} {O B R n c cap : Nat} {ids : List (List UInt8)} {xs : List Nat} (h : Ring w O B R n c cap ids xs) (a : Addr) (v : Value) (h1 : a.block ≠ O) (h2 : a.block ≠ R) (h3 : a.block ≠ B) : Ring (w.setCell a v) O B R n c cap ids xs :=
  ⟨h.hO.of_heap (Below.heap_setCell _ _ _ _ h1.symm), h.hI.of_heap (Below.heap_setCell _ _ _ _ h3.symm), h.hR.of_heap (Below.heap_setCell _ _ _ _ h2.symm), h.hlen, h.hin⟩

/-- One more step of the script. -/
theorem SInv.next {w : World} {S O B R H n : Nat} {ids : List (List UInt8)} {xs : List Nat} {hs : List Bool} {wr : World} (h : SInv w S O B R H n ids xs hs wr) (hS : w.heap.size = S) (hO : S ≤ O) (hR : S ≤ R) (hH : S ≤ H)
    (w' : World) (K : Kp O R wr w') (ys : List Nat) (G : Ring w' O B R n n n ids ys) (nd : ys.Nodup) (pw : ys.Pairwise (fun a b => val ids a ≤ val ids b)) (i : Nat) (q : Bool) (hi : i < n)
    (hm : ∀ x, x < n → (x ∈ ys ↔ if x = i then q = true else x ∈ xs)) : SInv w S O B R H n ids ys (hs.set i q) (w'.setCell ⟨H, i, none⟩ (.bool q)) := by
  obtain ⟨n1, n2, n3⟩ := h.ne
  have hh : HeldAt w' H hs := At.of_heap h.held (K.block H (At.lt h.held) n1 n2)
  refine ⟨G.setOther _ _ n1 n2 n3, nd, pw, hh.set i q, by rw [List.length_set]; exact h.len, fun x hx => ?_, ?_⟩
  · rw [getD_set hs i x q (by rw [h.len]; exact hi), hm x hx]
    by_cases e : x = i
    · rw [if_pos e, if_pos e]
    · rw [if_neg e, if_neg e]
      exact h.mem x hx
  · exact (h.bel.trans (K.below (by have := h.bel.size; omega) hO hR)).setCell (p := ⟨H, i, none⟩) hH _
theorem SInv.below {w : World} {S O B R H n : Nat} {ids : List (List UInt8)} {xs : List Nat} {hs : List Bool} {wr wr' : World} (h : SInv w S O B R H n ids xs hs wr) (hS : w.heap.size = S) (b : Below wr.heap.size wr wr') : SInv w S O B R H n ids xs hs wr' :=
  ⟨h.ring.below b (Nat.le_refl _), h.nd, h.pw, At.of_heap h.held (b.block _ (At.lt h.held)), h.len, h.mem, h.bel.trans (b.mono (by have := h.bel.size; omega))⟩
theorem SInv.keep {w : World} {S O B R H n : Nat} {ids : List (List UInt8)} {xs : List Nat} {hs : List Bool} {W : World} (h : Aside (SInv w S O B R H n ids xs hs W)) : W.cell? ⟨O, 1, none⟩ = some (.slice (some ⟨R, 0, none⟩) xs.length n) ∧ Aside (SInv w S O B R H n ids xs hs W) :=
  ⟨by simpa using h.out.ring.hO.cell 1, h⟩
theorem SInv.drewN {w : World} {S O B R H n : Nat} {ids : List (List UInt8)} {xs : List Nat} {hs : List Bool} {W : World} (h : Aside (SInv w S O B R H n ids xs hs W)) (q : Nat) : Aside (SInv w S O B R H n ids xs hs (W.drewN q)) :=
  ⟨h.out.ring.gr ((Gr.refl W).drewN q), h.out.nd, h.out.pw, h.out.held, h.out.len, h.out.mem, ⟨h.out.bel.os, h.out.bel.tape, h.out.bel.output, h.out.bel.size, h.out.bel.block⟩⟩
theorem length_le_of_lt : ∀ (n : Nat) (xs : List Nat), xs.Nodup → (∀ a ∈ xs, a < n) → xs.length ≤ n
  | 0, [], _, _ => Nat.le_refl _
  | 0, a :: r, _, h => by have := h a (List.mem_cons_self ..); omega
  | n + 1, xs, nd, h => by
    by_cases hm : n ∈ xs
    · have h1 := length_le_of_lt n (xs.erase n) (nd.erase n) (fun a ha => by
        have h2 := (nd.mem_erase_iff).1 ha
        have := h a h2.2
        have := h2.1
        omega)
      rw [List.length_erase_of_mem hm] at h1
      omega
    · have := length_le_of_lt n xs nd (fun a ha => by
        have h1 := h a ha
        have h2 : a ≠ n := fun e => hm (e ▸ ha)
        omega)
      omega
theorem SInv.room {w : World} {S O B R H n : Nat} {ids : List (List UInt8)} {xs : List Nat} {hs : List Bool} {wr : World} (h : SInv w S O B R H n ids xs hs wr) (i : Nat) (hi : i < n) (hni : i ∉ xs) : xs.length + 1 ≤ n := by
  have nd : (i :: xs).Nodup := List.nodup_cons.2 ⟨hni, h.nd⟩
  have sub : ∀ a ∈ i :: xs, a < n := fun a ha => by
    rcases List.mem_cons.1 ha with rfl | ha
    · exact hi
    · exact h.ring.hin a ha
  have := length_le_of_lt n _ nd sub
  simpa using this

theorem op_index (z : Int) (n : Nat) (h0 : 0 ≤ z) (h1 : z ≤ 65535) (hn : 0 < n) : ∃ i : Nat, (z / 2).tmod (n : Int) = (i : Int) ∧ i < n := by
  have hz : 0 ≤ z / 2 := by omega
  have h2 := Int.tmod_nonneg (n : Int) hz
  have h3 := Int.tmod_lt_of_pos (z / 2) (show (0:Int) < (n : Int) by omega)
  exact ⟨((z / 2).tmod (n : Int)).toNat, by omega, by omega⟩
theorem op_low (z : Int) (h0 : 0 ≤ z) (h1 : z ≤ 65535) : bits BinOp.and IntKind.u16 z 1 = z % 2 := by
  rw [u16_and z 1 h0 (by omega) (by omega) (by omega), show (1 : Int).toNat = 1 from rfl, Nat.and_one_is_mod]
  omega

set_option maxHeartbeats 4000000 in
set_option maxRecDepth 1000000 in
theorem script_main (w : World) (x : Addr) (n cap : Nat) (zs : List Int) (a1 : Option Addr) (m cap1 : Nat) (os : List Int) (hn0 : 0 < n) (hn : n ≤ 256) (hm : m ≤ 1024) (hnz : n ≤ zs.length) (hc : ∀ i, i < zs.length → w.cell? (x.add i) = some (.int .u8 (zs.getD i 0)))
    (hz : ∀ i, i < zs.length → 0 ≤ zs.getD i 0 ∧ zs.getD i 0 ≤ 255) (ho : ∀ i, i < m → ∃ y, a1 = some y ∧ w.cell? (y.add i) = some (.int .u16 (os.getD i 0)) ∧ 0 ≤ os.getD i 0 ∧ os.getD i 0 ≤ 65535) :
    Calls Yba.prog 3 #[.slice (some x) n cap, .slice a1 m cap1] w fun e w' => e = .returned (.bool true) ∧ Below w.heap.size w w' := by
  have mixed : Yba.prog.follows .mixedOrders = true := by kernel_rfl
  have hb : x.block < w.heap.size := by
    have := World.block_lt_of_cell? _ _ (hc 0 (by omega))
    rwa [add_block] at this
  have HA := hide (aids_calls w x n cap zs hnz hn hc hb hz)
  have HK : Hid (∀ wr, Below w.heap.size w wr → (∀ i, i < zs.length → wr.cell? (x.add i) = some (.int .u8 (zs.getD i 0))) ∧ x.block < wr.heap.size) := fun wr bel => ⟨fun i hi => by rw [bel.cell (by rw [add_block]; exact hb)]; exact hc i hi, Nat.lt_of_lt_of_le hb bel.size⟩
  have HO : Hid (∀ wr, Below w.heap.size w wr → ∀ i, i < m → ∃ y, a1 = some y ∧ wr.cell? (y.add i) = some (.int .u16 (os.getD i 0)) ∧ 0 ≤ os.getD i 0 ∧ os.getD i 0 ≤ 65535) := fun wr bel i hi => by
    obtain ⟨y, h1, h2, h3⟩ := ho i hi
    exact ⟨y, h1, by rw [bel.cell (World.block_lt_of_cell? _ _ h2)]; exact h2, h3⟩
  have HZ := hide hz
  have hmk := mk_held n (by omega)
  have HMK := hide hmk
  clear hc hz ho hmk
  have hn0z : ((n : Int) == 0) = false := by simp; omega
  have hn0z' : ¬ ((n : Int) = 0) := by omega
  have hnz1 : ¬ ((n : Int) > 256) := by omega
  have hnz2 : ¬ ((256 : Int) < (n : Int)) := by omega
  have hmz2 : ¬ ((1024 : Int) < (m : Int)) := by omega
  go_enter Yba.func3, Yba.ntmps3
  go_wp2_with fail
  refine HA.out.mono ?_
  rintro e w1 ⟨rfl, I1, b1⟩
  have HN := hide (newRing_calls w1 w.heap.size n n (mkIds zs n) I1 (by simp [mkIds]) hn0 (by omega))
  have HI1 := hide I1
  have HB1 := hide b1
  clear I1 b1 HA
  generalize hS : w.heap.size = S at *
  have HS := hide hS
  clear hS
  go_wp2_with fail
  refine HN.out.mono ?_
  rintro e w2 ⟨R, xs, rfl, hR, b2, rowR, hxl, perm, pw⟩
  have hin' : ∀ y ∈ xs, y < n := fun y hy => by simpa using (perm.mem_iff).1 hy
  have G3 : Ring (w2.alloc (.cells #[.slice (some ⟨S, 0, none⟩) n n, .slice (some ⟨R, 0, none⟩) n n] 28)) w2.heap.size S R n n n (mkIds zs n) xs := by
    refine ⟨by rw [hxl]; exact At.new w2 _ _, (HI1.out.of_heap (b2.block _ HI1.out.lt)).alloc _, ⟨[], by simpa using rowR.alloc _, by simp [hxl]⟩, by simp [mkIds], hin'⟩
  have nd : xs.Nodup := perm.nodup_iff.2 List.nodup_range
  have bel : Below S w (w2.alloc (.cells #[.slice (some ⟨S, 0, none⟩) n n, .slice (some ⟨R, 0, none⟩) n n] 28)) := by
    have h := HB1.out.trans (b2.mono (by have := HB1.out.size; have := HS.out; omega))
    exact h.alloc (by have := h.size; have := HS.out; omega) _
  have hOR : S ≤ w2.heap.size ∧ S ≤ R := by
    have := HB1.out.size; have := HS.out; have := b2.size; omega
  have HG3 := hide G3
  have HX : Hid (xs.Nodup ∧ xs.Pairwise (fun a b => val (mkIds zs n) a ≤ val (mkIds zs n) b) ∧ Below S w (w2.alloc (.cells #[.slice (some ⟨S, 0, none⟩) n n, .slice (some ⟨R, 0, none⟩) n n] 28)) ∧ S ≤ w2.heap.size ∧ S ≤ R ∧ xs.Perm (List.range n)) := ⟨nd, pw, bel, hOR.1, hOR.2, perm⟩
  clear HI1 HB1 HN hR b2 rowR hxl perm pw hin' nd bel hOR G3
  generalize hO : w2.heap.size = O at *
  have HOs := hide hO
  clear hO
  go_upto_region 8 with fail
  rw [HOs.out]
  generalize w2.alloc (.cells #[.slice (some ⟨S, 0, none⟩) n n, .slice (some ⟨R, 0, none⟩) n n] 28) = W3 at *
  clear w1 HOs w2
  obtain ⟨H, hH⟩ : ∃ H, H = W3.heap.size := ⟨_, rfl⟩
  obtain ⟨W4, hW4⟩ : ∃ W4, W4 = W3.alloc (.cells ((List.replicate n false).map Value.bool).toArray 4) := ⟨_, rfl⟩
  have hmk3 := HMK.out W3
  rw [← hW4, ← hH] at hmk3
  have J4 : HeldAt W4 H (fillB n 0) ∧ Below W3.heap.size W3 W4 := by
    rw [hW4, hH]
    exact ⟨by have := At.new W3 ((List.replicate n false).map Value.bool).toArray 4; simpa [HeldAt, fillB] using this, (Below.refl _ _).alloc (Nat.le_refl _) _⟩
  have HJ4 := hide J4
  have HHs := hide hH
  clear J4 hW4 hH HMK
  go_wp2
  clear hmk3
  go_loopg [9] n (fun gg s9 wr => ∃ k : Nat, s9 = .int .i64 k ∧ k ≤ n ∧ n - k ≤ gg ∧ Aside (HeldAt wr H (fillB n k) ∧ Below W3.heap.size W3 wr))
  case atStart => exact ⟨0, rfl, Nat.zero_le _, by omega, HJ4.out⟩
  case round =>
    clear HJ4
    obtain ⟨k, rfl, hkn, hg, J⟩ := hrel
    by_cases hk : k < n
    · have hkz : (k : Int) < (n : Int) := by omega
      have hkz0 : (0:Int) ≤ (k : Int) := by omega
      have ck := J.out.1.cell k (by rw [length_fillB n k hkn]; exact hk)
      generalize (fillB n k).getD k false = bq at ck
      have fk := At.frozen J.out.1 k
      have J2 : Aside (HeldAt (wr.setCell ⟨H, k, none⟩ (.bool true)) H (fillB n (k + 1)) ∧ Below W3.heap.size W3 (wr.setCell ⟨H, k, none⟩ (.bool true))) := by
        refine ⟨?_, J.out.2.setCell (p := ⟨H, k, none⟩) (by rw [HHs.out]; exact Nat.le_refl _) _⟩
        have := J.out.1.set k true
        rwa [fillB_step n k hk] at this
      clear J
      go_wp2
      go_roundg (n - (k + 1))
      case measure => omega
      case rel => exact ⟨k + 1, by go_num, by omega, Nat.le_refl _, J2⟩
    · obtain rfl : k = n := by omega
      have I5 : SInv w S O S R H k (mkIds zs k) xs (List.replicate k true) wr := by
        refine ⟨HG3.out.below J.out.2 (Nat.le_refl _), HX.out.1, HX.out.2.1, ?_, by simp, fun y hy => ?_, ?_⟩
        · have := J.out.1
          rwa [fillB_all] at this
        · have : y ∈ xs := HX.out.2.2.2.2.2.mem_iff.2 (List.mem_range.2 hy)
          simp [this, List.getD_eq_getElem?_getD, hy]
        · exact HX.out.2.2.1.trans (J.out.2.mono (by have := HX.out.2.2.1.size; have := HS.out; omega))
      have HL : Hid (S ≤ O ∧ S ≤ R ∧ S ≤ H) := ⟨HX.out.2.2.2.1, HX.out.2.2.2.2.1, by rw [HHs.out]; have := HX.out.2.2.1.size; have := HS.out; omega⟩
      have J0 : ∃ xs hs, SInv w S O S R H k (mkIds zs k) xs hs wr := ⟨_, _, I5⟩
      clear I5 J HG3 HX HHs
      go_wp2
      go_loopg [42, 11, 12] m (fun gg s42 s11 s12 wr => ∃ q : Nat, s42 = .int .i64 q ∧ q ≤ m ∧ m - q ≤ gg ∧ Aside (∃ xs hs, SInv w S O S R H k (mkIds zs k) xs hs wr))
      case atStart => exact ⟨0, rfl, Nat.zero_le _, by omega, J0⟩
      case round =>
        clear J0
        obtain ⟨q, rfl, hqm, hg2, J⟩ := hrel
        by_cases hq : q < m
        · have hqz : (q : Int) < (m : Int) := by omega
          have hqz0 : (0:Int) ≤ (q : Int) := by omega
          obtain ⟨xs, hs, I⟩ := J.out
          obtain ⟨y, rfl, cy, hz0, hz1⟩ := HO.out wr I.bel q hq
          obtain ⟨z, hz⟩ : ∃ z, os.getD q 0 = z := ⟨_, rfl⟩
          rw [hz] at cy hz0 hz1
          obtain ⟨i, hi, hik⟩ := op_index z k hz0 hz1 hn0
          have hlow := op_low z hz0 hz1
          have hiz : (0:Int) ≤ (i : Int) := by omega
          have hin : (i : Int) < (k : Int) := by omega
          have HI := hide I
          by_cases hpar : z % 2 = 0
          · rw [hpar] at hlow
            have HR := hide (remove_calls wr O S R k k k (mkIds zs k) xs I.ring (by omega) i hik (fun x y => mkIds_inj zs k hn x y) I.nd I.pw)
            clear J I hz hpar
            go_wp2_with fail
            refine HR.out.mono ?_
            rintro e w6 ⟨rfl, G6, K6⟩
            have hh : HeldAt w6 H hs := At.of_heap HI.out.held (K6.block H (At.lt HI.out.held) HI.out.ne.1 HI.out.ne.2.1)
            have c6 := hh.cell i (by rw [HI.out.len]; exact hik)
            generalize hs.getD i false = bq at c6
            have f6 := At.frozen hh i
            have J2 : Aside (∃ xs hs, SInv w S O S R H k (mkIds zs k) xs hs (w6.setCell ⟨H, i, none⟩ (.bool false))) :=
              ⟨_, _, HI.out.next HS.out HL.out.1 HL.out.2.1 HL.out.2.2 w6 K6 _ G6 (HI.out.nd.filter _) (HI.out.pw.filter _) i false hik (fun x hx => by
                rw [List.mem_filter]
                by_cases e : x = i
                · simp [e]
                · simp [e])⟩
            clear G6 K6 hh HR HI
            go_wp2
            go_roundg (m - (q + 1))
            case measure => omega
            case rel => exact ⟨q + 1, by go_num, by omega, Nat.le_refl _, J2⟩
          · have hpar1 : z % 2 = 1 := by omega
            rw [hpar1] at hlow
            have ci := I.held.cell i (by rw [I.len]; exact hik)
            have hmi := I.mem i hik
            generalize hs.getD i false = bq at ci hmi
            cases bq with
            | true =>
              have J2 : Aside (∃ xs hs, SInv w S O S R H k (mkIds zs k) xs hs wr) := J.out
              clear J I hz hpar hpar1 hmi HI
              go_wp2
              go_roundg (m - (q + 1))
              case measure => omega
              case rel => exact ⟨q + 1, by go_num, by omega, Nat.le_refl _, J2⟩
            | false =>
              have hni : i ∉ xs := fun h => by have := hmi.1 h; simp at this
              have HR := hide (add_calls wr O S R k k k (mkIds zs k) xs I.ring (by omega) i hik (I.room i hik hni) I.pw)
              have HNi := hide hni
              clear J I hz hpar hpar1 hmi hni
              go_wp2_with fail
              refine HR.out.mono ?_
              rintro e w6 ⟨rfl, ⟨ys, G6, hperm, hpw⟩, K6⟩
              have hh : HeldAt w6 H hs := At.of_heap HI.out.held (K6.block H (At.lt HI.out.held) HI.out.ne.1 HI.out.ne.2.1)
              have c6 := hh.cell i (by rw [HI.out.len]; exact hik)
              generalize hs.getD i false = bq at c6
              have f6 := At.frozen hh i
              have J2 : Aside (∃ xs hs, SInv w S O S R H k (mkIds zs k) xs hs (w6.setCell ⟨H, i, none⟩ (.bool true))) :=
                ⟨_, _, HI.out.next HS.out HL.out.1 HL.out.2.1 HL.out.2.2 w6 K6 _ G6 (hperm.nodup_iff.2 (List.nodup_cons.2 ⟨HNi.out, HI.out.nd⟩)) hpw i true hik (fun x hx => by
                  rw [hperm.mem_iff, List.mem_cons]
                  by_cases e : x = i
                  · simp [e]
                  · simp [e])⟩
              clear G6 K6 hh HR HI hperm hpw
              go_wp2
              go_roundg (m - (q + 1))
              case measure => omega
              case rel => exact ⟨q + 1, by go_num, by omega, Nat.le_refl _, J2⟩
        · obtain rfl : q = m := by omega
          obtain ⟨xs, hs, I⟩ := J.out
          have HWant : Hid (∀ W, Aside (SInv w S O S R H k (mkIds zs k) xs hs W) → Calls Yba.prog 13 #[.slice (some x) k cap, .slice (some ⟨H, 0, none⟩) k k] W fun e w' => (∃ v, e = .returned v ∧ Aside (Own w' W.heap.size v xs)) ∧ Aside (SInv w S O S R H k (mkIds zs k) xs hs w') ∧ Aside (Below W.heap.size W w')) := fun W hW => by
            have h1 := HK.out W hW.out.bel
            have e := want_eq zs hs k hn (fun i hi => HZ.out i (by omega)) xs hW.out.nd hW.out.pw hW.out.ring.hin hW.out.mem
            refine (want_calls W x k cap H zs hs hnz hn h1.1 h1.2 HZ.out hW.out.held hW.out.len).mono ?_
            rintro e' w' ⟨⟨v, rfl, h2⟩, h3⟩
            rw [← e] at h2
            exact ⟨⟨v, rfl, h2⟩, hW.out.below HS.out h3, h3⟩
          have HEq : Hid (∀ W base v, Aside (SInv w S O S R H k (mkIds zs k) xs hs W) → Own W base v xs → Calls Yba.prog 12 #[.slice (some ⟨R, 0, none⟩) xs.length k, v] W fun e w' => e = .returned (.bool true) ∧ ∃ q, w' = W.drewN q) := fun W base v hW ho =>
            equal_calls W R k base v xs hW.out.ring.hR ho (by have := length_le_of_lt k xs hW.out.nd hW.out.ring.hin; omega)
          have HI := hide I
          have o1 : wr.cell? ⟨O, 1, none⟩ = some (.slice (some ⟨R, 0, none⟩) xs.length k) := by simpa using I.ring.hO.cell 1
          clear J I
          go_wp2_with fail
          go_cut [76] (fun s76 wx => s76 = .bool false ∧ Aside (SInv w S O S R H k (mkIds zs k) xs hs wx))
          case first =>
            go_region_held3 (fun w' => w'.cell? ⟨O, 1, none⟩ = some (.slice (some ⟨R, 0, none⟩) xs.length k) ∧ Aside (SInv w S O S R H k (mkIds zs k) xs hs w')) (first | exact SInv.keep HI.out | exact SInv.keep (SInv.drewN (W := wr) HI.out 1) | exact SInv.keep (SInv.drewN (And.right (by assumption)) _) | exact SInv.keep (by assumption))
              ((first
                | (go_at_call 13; refine (HWant.out _ (And.right (by assumption))).mono ?_; rintro e W' ⟨⟨v, rfl, hown⟩, hI', hb'⟩)
                | (go_at_call 12; refine (HEq.out _ _ _ (And.right (by assumption)) (Aside.out (by assumption))).mono ?_; rintro e W'' ⟨rfl, q, rfl⟩)))
            go_wp2_with fail
            go_meet
            exact ⟨rfl, And.right (by assumption)⟩
          case rest =>
            obtain ⟨rfl, I2⟩ := hcut
            have hk2 := HK.out wc I2.out.bel
            have HA2 := hide (aids_calls wc x k cap zs hnz hn hk2.1 hk2.2 HZ.out)
            have o0 : wc.cell? ⟨O, 0, none⟩ = some (.slice (some ⟨S, 0, none⟩) k k) := by simpa using I2.out.ring.hO.cell 0
            clear HWant HEq HI o1 hk2
            go_wp2_with fail
            refine HA2.out.mono ?_
            rintro e w7 ⟨rfl, F7, b7⟩
            have I7 : Aside (SInv w S O S R H k (mkIds zs k) xs hs w7) := I2.out.below HS.out b7
            have HF7 := hide F7
            generalize hB2 : wc.heap.size = B2 at *
            clear I2 b7 F7 HA2 o0 hB2
            go_wp2
            go_loopg [14] k (fun gg s14 wr => ∃ j : Nat, s14 = .int .i64 j ∧ j ≤ k ∧ k - j ≤ gg ∧ Aside (Gr w7 wr))
            case atStart => exact ⟨0, rfl, Nat.zero_le _, by omega, Gr.refl w7⟩
            case round =>
              obtain ⟨j, rfl, hjn, hg3, J3⟩ := hrel
              by_cases hj : j < k
              · have hjz : (j : Int) < (k : Int) := by omega
                have hjz0 : (0:Int) ≤ (j : Int) := by omega
                have o0 := fun p os => (I7.out.ring.gr (J3.out.grown p os)).hO.cell 0
                simp at o0
                obtain ⟨l, hl⟩ : ∃ l, (mkIds zs k)[j]? = some l := ⟨_, List.getElem?_eq_getElem (by simpa [mkIds] using hj)⟩
                have hl20 : l.length = 20 := I7.out.ring.hI.len l (List.mem_of_getElem? hl)
                have L1 : Aside (∀ p os, (loadVar 37 ⟨S, j * 20, none⟩).run Yba.prog (grow (wr.drewN p) os) = .ok (.agg (idV l).toArray) (grow (wr.drewN p) os)) := fun p os =>
                  idload ((I7.out.ring.gr (J3.out.grown p os)).hI.row j l hl) hl20
                have L2 : Aside (∀ p os, (loadVar 37 ⟨B2, j * 20, none⟩).run Yba.prog (grow (wr.drewN p) os) = .ok (.agg (idV l).toArray) (grow (wr.drewN p) os)) := fun p os =>
                  idload ((HF7.out.gr (J3.out.grown p os)).row j l hl) hl20
                clear hl
                go_wp2_with fail
                refine wp_region_quiet_grown (by assumption) (by kernel_rfl) ?_
                iterate 4 quiet_step (fail)
                refine wpQuiet_load_mid rfl 37 _ rfl _ _ rfl _ (fun w' hw' => by obtain ⟨p, rfl⟩ := hw'; exact L1.out _ _) ?_
                iterate 3 quiet_step (fail)
                refine wpQuiet_load_mid rfl 37 _ rfl _ _ rfl _ (fun w' hw' => by obtain ⟨p, rfl⟩ := hw'; exact L2.out _ _) ?_
                simp only [Act.put, List.setIfInBounds_toArray, List.set_cons_zero, List.set_cons_succ]
                go_big_quiet_want
                refine quiet_neq37 _ _ rfl l rfl rfl hl20 ?_
                simp only [Act.put, List.setIfInBounds_toArray, List.set_cons_zero, List.set_cons_succ]
                go_big_quiet_on
                refine wpQuiet_nil ?_
                intro _ hw'
                obtain ⟨⟨nq, osq⟩, hw''⟩ := hw'
                subst hw''
                have J4 : Aside (Gr w7 (grow (wr.drewN nq) osq)) := J3.out.grown nq osq
                clear J3 o0 L1 L2
                go_wp2
                go_roundg (k - (j + 1))
                case measure => omega
                case rel => exact ⟨j + 1, by go_num, by omega, Nat.le_refl _, J4⟩
              · obtain rfl : j = k := by omega
                have HB : Hid (Below w.heap.size w wr) := by
                  show Below _ _ _
                  rw [HS.out]
                  exact I7.out.bel.trans (J3.out.below S (by have := I7.out.bel.size; have := HS.out; omega))
                clear I7 HF7 J3
                go_wp2
                go_ret
                exact ⟨rfl, HB.out⟩
end Go.Proofs.Ybulkapqu
